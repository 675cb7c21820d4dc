import JvmDerived
import JvmDerived.Pilot.@@N@@Statement
import JvmDerived.Pilot.@@N@@Code
set_option linter.unusedVariables false
set_option linter.unusedSimpArgs false
namespace Jvm.RoadKit
open Sem ClassFile Op Lib Jvm.Stand Jvm.Free Jvm.LawKit
theorem Arv.mv {Z : State} {h h' : Heap} {a : Addr} {k : ClassId} {ty : FieldType} {z : Int32} {vs : List Value} {dv : Value} (F : Arv Z h a k ty z vs dv) (K : Keep h h' []) : Arv Z h' a k ty z vs dv := F.keep K nin0
theorem Fld.mv {Z : State} {h h' : Heap} {a : Addr} {C n d : String} {v : Value} (F : Fld Z h a C n d v) (K : Keep h h' []) : Fld Z h' a C n d v := F.keep K nin0
theorem Exa.mv {Z : State} {h h' : Heap} {a : Addr} {C : String} (F : Exa Z h a C) (K : Keep h h' []) : Exa Z h' a C := F.keep K
theorem Ins.keepK {Z : State} {h h' : Heap} {a : Addr} {C : String} {b : Bool} {ws : List Addr} (F : Ins Z h a C b) (K : Keep h h' ws) : Ins Z h' a C b := by
  obtain ⟨cell, cT, q1, q2, q3⟩ := F
  obtain ⟨c', r1, r2, r3, -⟩ := K.2.2 _ _ q1
  exact ⟨c', cT, r1, q2, by rw [r2, r3]; exact q3⟩
end Jvm.RoadKit
/- laws to paste: Road.backV, Road.codOf, Road.lenW, Road.eqW (cut by pick.py; bodies as the Statement names them) -/
namespace Jvm.Pilot.@@N@@
namespace StrChars
open Jvm Sem ClassFile Op Lib Jvm.Stand Jvm.Free.XT Jvm.Free.ALB Jvm.Free.JM Jvm.Free
open Jvm.Lib.Cold (StaticIs)
/-- a char array whose places are chars -/
def Ch (a : Addr) (A : Cell) (U : State) : Prop := Arr .char a A U ∧ Typed .char A
theorem Ch.mv {a : Addr} {A : Cell} {U U' : State} (h : Ch a A U) (hal : U.vm.Alike U'.vm) (hh : U'.heap = U.heap) : Ch a A U' := ⟨h.1.mv hal hh, h.2⟩
theorem Ch.keep {a : Addr} {A : Cell} {U U' : State} (h : Ch a A U) (hal : U.vm.Alike U'.vm) (hk : U'.heap[a]? = some A) : Ch a A U' := ⟨h.1.keep hal hk, h.2⟩
/-- what place i of a char[]'s cell holds -/
def cv (A : Cell) (i : Nat) : Int32 := match A.slots[i]? with | some (.int x) => x | _ => 0
theorem Ch.get {a : Addr} {A : Cell} {U : State} (h : Ch a A U) {i : Nat} (hi : i < A.slots.size) : A.slots[i]? = some (.int (cv A i)) := by
  have e := Array.getElem?_eq_getElem hi
  have f := h.2 i _ e
  unfold cv; rw [e]
  generalize A.slots[i] = v at f
  cases v <;> simp [fits] at f ⊢
/-- the byte that i2b leaves of a char -/
def lo8 (x : Int32) : Int32 := x.toInt8.toInt32
theorem fits_lo8 (y : Int32) : fits .byte (.int (lo8 y)) = true := by
  have h1 := y.toInt8.le_toInt
  have h2 := y.toInt8.toInt_lt
  simp only [lo8, fits, Bool.and_eq_true, decide_eq_true_eq, Int32.le_iff_toInt_le, Int8.toInt_toInt32, show (-128 : Int32).toInt = -128 from by decide, show (127 : Int32).toInt = 127 from by decide]
  omega
/-- A' is A but that each place j of lo .. hi - 1 holds f j -/
def Laid (A A' : Cell) (lo hi : Nat) (f : Nat → Value) : Prop := A'.cls = A.cls ∧ A'.vm = A.vm ∧ A'.slots.size = A.slots.size ∧ ∀ i, A'.slots[i]? = if lo ≤ i ∧ i < hi then some (f i) else A.slots[i]?
theorem Laid.zero (A : Cell) (lo : Nat) (f : Nat → Value) : Laid A A lo (lo + 0) f := ⟨rfl, rfl, rfl, fun i => by rw [if_neg (by omega)]⟩
theorem Laid.step {A Ak : Cell} {lo k : Nat} {f : Nat → Value} {v : Value} (h : Laid A Ak lo k f) (hlo : lo ≤ k) (hk : k < Ak.slots.size) (hv : v = f k) : Laid A (Ak.setSlot k v) lo (k + 1) f := by
  refine ⟨h.1, h.2.1, by simpa [Cell.setSlot] using h.2.2.1, fun i => ?_⟩
  by_cases e : k = i
  · subst e; rw [Cell.slots_setSlot_self v hk, if_pos (by omega), hv]
  · rw [Cell.slots_setSlot_ne v e, h.2.2.2 i]
    by_cases q : lo ≤ i ∧ i < k
    · rw [if_pos q, if_pos (by omega)]
    · rw [if_neg q, if_neg (by omega)]
def U16 : String := "java/lang/StringUTF16"
namespace Cmp5
def yN : MethodName := ⟨"java/lang/StringUTF16", "compress", "([CI[BII)I"⟩
abbrev yB : ByteArray := jdk_52_method_21_code
theorem d0 : decode yB 0 = .ok (.iconst 0, 1) := by decide +kernel
theorem d1 : decode yB 1 = .ok (.istore 5, 2) := by decide +kernel
theorem d3 : decode yB 3 = .ok (.iload 5, 2) := by decide +kernel
theorem d5 : decode yB 5 = .ok (.iload 4, 2) := by decide +kernel
theorem d7 : decode yB 7 = .ok (.if_icmp (.ge) 37, 3) := by decide +kernel
theorem d10 : decode yB 10 = .ok (.aload_n 0, 1) := by decide +kernel
theorem d11 : decode yB 11 = .ok (.iload_n 1, 1) := by decide +kernel
theorem d12 : decode yB 12 = .ok (.caload, 1) := by decide +kernel
theorem d13 : decode yB 13 = .ok (.istore 6, 2) := by decide +kernel
theorem d15 : decode yB 15 = .ok (.iload 6, 2) := by decide +kernel
theorem d17 : decode yB 17 = .ok (.sipush 255, 3) := by decide +kernel
theorem d20 : decode yB 20 = .ok (.if_icmp (.le) 6, 3) := by decide +kernel
theorem d26 : decode yB 26 = .ok (.aload_n 2, 1) := by decide +kernel
theorem d27 : decode yB 27 = .ok (.iload_n 3, 1) := by decide +kernel
theorem d28 : decode yB 28 = .ok (.iload 6, 2) := by decide +kernel
theorem d30 : decode yB 30 = .ok (.i2b, 1) := by decide +kernel
theorem d31 : decode yB 31 = .ok (.bastore, 1) := by decide +kernel
theorem d32 : decode yB 32 = .ok (.iinc 1 1, 3) := by decide +kernel
theorem d35 : decode yB 35 = .ok (.iinc 3 1, 3) := by decide +kernel
theorem d38 : decode yB 38 = .ok (.iinc 5 1, 3) := by decide +kernel
theorem d41 : decode yB 41 = .ok (.goto (-38), 3) := by decide +kernel
theorem d44 : decode yB 44 = .ok (.iload 4, 2) := by decide +kernel
theorem d46 : decode yB 46 = .ok (.ireturn, 1) := by decide +kernel
def site : List Cond := []
def tab : Cond := tabOf yN yB 7 (some .int) site
def P (b : Addr) (A : Cell) (d : Addr) (B : Cell) (o q len : Nat) (args : Array Value) (s : State) : Prop := args = #[.ref b, .int (Int32.ofNat o), .ref d, .int (Int32.ofNat q), .int (Int32.ofNat len)] ∧ Ch b A s ∧ Arr .byte d B s ∧ b ≠ d ∧ o + len ≤ A.slots.size ∧ q + len ≤ B.slots.size ∧ ∀ i, i < len → ¬ 255 < cv A (o + i)
def E (b : Addr) (A : Cell) (d : Addr) (B : Cell) (o q len : Nat) (r : Option Value) (s u : State) : Prop := r = some (.int (Int32.ofNat len)) ∧ ∃ B', Put d B' s u ∧ Laid B B' q (q + len) (fun j => Value.int (lo8 (cv A (o + (j - q)))))
/-- no char of the range above 255: len; the places written hold each char's low byte -/
theorem law (l : Launch) (b : Addr) (A : Cell) (d : Addr) (B : Cell) (o q len : Nat) : Law l yN 5 5 0 0 yB 7 (some .int) site (P b A d B o q len) (E b A d B o q len) (copyLocs d q len) 0 0 := by
  refine Law.of_walk (plainFor_of_name (by decide +kernel)) (by decide +kernel) (by decide +kernel) (by decide) (fun _ _ h => by rw [h.1]; rfl) (fun _ U U' hal hh h => ⟨h.1, h.2.1.mv hal hh, h.2.2.1.mv hal hh, h.2.2.2⟩) (fun r U U' V V' h1 hal h2 h => ⟨h.1, h.2.elim fun B' q => ⟨B', q.1.mv h1 h2, q.2⟩⟩) ?_
  intro p e s m args below meth c s₁ X0 hexec hbytes hml hret hlk hnm hown hh0 W hP
  obtain ⟨rfl, hA, hB, hne, l1, l2, hp⟩ := hP
  have c1 : Steps p.tables e below (s₁.setTop (entryFrame m #[.ref b, .int (Int32.ofNat o), .ref d, .int (Int32.ofNat q), .int (Int32.ofNat len)] 7)) (s₁.setTop (mkF m 0 #[.val (.ref b), .val (.int (Int32.ofNat o)), .val (.ref d), .val (.int (Int32.ofNat q)), .val (.int (Int32.ofNat len)), .unset, .unset] [])) := entry rfl
  have hA0 := hA.1.mv X0.warmed.alike hh0
  have hB0 := hB.mv X0.warmed.alike hh0
  have a31 := hA.1.2.2.2
  have c2 : Steps p.tables e below (s₁.setTop (entryFrame m #[.ref b, .int (Int32.ofNat o), .ref d, .int (Int32.ofNat q), .int (Int32.ofNat len)] 7)) (s₁.setTop (mkF m 3 #[.val (.ref b), .val (.int (Int32.ofNat o)), .val (.ref d), .val (.int (Int32.ofNat q)), .val (.int (Int32.ofNat len)), .val (.int 0), .unset] [])) := c1.trans (by
    refine iconstV X0.here hexec rfl 0 (hb hbytes d0) (by decide) ?_
    refine XS.istore X0.here hexec rfl (hb hbytes d1) rfl rfl ?_
    exact Steps.refl _)
  have loop : ∀ (r i : Nat), i + r = len → ∀ (z : Slot), (z = .unset ∨ ∃ w, z = .val w ∧ w.category = 1) → ∀ (Tl : State) (Bk : Cell), Stand p l e { frames := 0, locals := 0, cells := 0, slots := 0 } s m #[.ref b, .int (Int32.ofNat o), .ref d, .int (Int32.ofNat q), .int (Int32.ofNat len)] below meth c Tl ([] ++ copyLocs d q i) 0 0 → Put d Bk s₁ Tl → Laid B Bk q (q + i) (fun j => Value.int (lo8 (cv A (o + (j - q))))) →
      Steps p.tables e below (s₁.setTop (entryFrame m #[.ref b, .int (Int32.ofNat o), .ref d, .int (Int32.ofNat q), .int (Int32.ofNat len)] 7)) (Tl.setTop (mkF m 3 #[.val (.ref b), .val (.int (Int32.ofNat (o + i))), .val (.ref d), .val (.int (Int32.ofNat (q + i))), .val (.int (Int32.ofNat len)), .val (.int (Int32.ofNat i)), z] [])) → ∃ (T' : State) (B' : Cell) (z' : Slot), Stand p l e { frames := 0, locals := 0, cells := 0, slots := 0 } s m #[.ref b, .int (Int32.ofNat o), .ref d, .int (Int32.ofNat q), .int (Int32.ofNat len)] below meth c T' ([] ++ copyLocs d q len) 0 0 ∧ Put d B' s₁ T' ∧ Laid B B' q (q + len) (fun j => Value.int (lo8 (cv A (o + (j - q))))) ∧
      Steps p.tables e below (s₁.setTop (entryFrame m #[.ref b, .int (Int32.ofNat o), .ref d, .int (Int32.ofNat q), .int (Int32.ofNat len)] 7)) (T'.setTop (mkF m 3 #[.val (.ref b), .val (.int (Int32.ofNat (o + len))), .val (.ref d), .val (.int (Int32.ofNat (q + len))), .val (.int (Int32.ofNat len)), .val (.int (Int32.ofNat len)), z'] [])) := by
    intro r
    induction r with
    | zero =>
      intro i hi z hz Tl Bk Xl pl fl cl
      have hil : i = len := by omega
      rw [hil] at Xl fl cl
      exact ⟨Tl, Bk, z, Xl, pl, fl, cl⟩
    | succ r ih =>
      intro i hi z hz Tl Bk Xl pl fl cl
      have all := X0.warmed.alike.symm.trans Xl.warmed.alike
      have hAl := hA0.keep all (pl.other hne hA0.1)
      have hBk := hB0.like all pl.1 fl.1 fl.2.1 fl.2.2.1
      have hlt : q + i < Bk.slots.size := by rw [fl.2.2.1]; omega
      have c3 : Steps p.tables e below (s₁.setTop (entryFrame m #[.ref b, .int (Int32.ofNat o), .ref d, .int (Int32.ofNat q), .int (Int32.ofNat len)] 7)) (Tl.setTop (mkF m 12 #[.val (.ref b), .val (.int (Int32.ofNat (o + i))), .val (.ref d), .val (.int (Int32.ofNat (q + i))), .val (.int (Int32.ofNat len)), .val (.int (Int32.ofNat i)), z] [.int (Int32.ofNat (o + i)), .ref b])) := cl.trans (by
        refine XS.iload Xl.here hexec rfl (hb hbytes d3) rfl ?_
        refine XS.iload Xl.here hexec rfl (hb hbytes d5) rfl ?_
        refine XS.icmpNo Xl.here hexec rfl (hb hbytes d7) rfl (ii_ge_f (lt32 (by omega) (by omega))) ?_
        refine XS.aloadN Xl.here hexec rfl (hb hbytes d10) rfl rfl ?_
        refine XS.iloadN Xl.here hexec rfl (hb hbytes d11) rfl ?_
        exact Steps.refl _)
      have c4 : Steps p.tables e below (s₁.setTop (entryFrame m #[.ref b, .int (Int32.ofNat o), .ref d, .int (Int32.ofNat q), .int (Int32.ofNat len)] 7)) (Tl.setTop (mkF m 13 #[.val (.ref b), .val (.int (Int32.ofNat (o + i))), .val (.ref d), .val (.int (Int32.ofNat (q + i))), .val (.int (Int32.ofNat len)), .val (.int (Int32.ofNat i)), z] [.int (cv A (o + i))])) := c3.trans (by
        refine Xl.aget hexec hAl rfl (hA.get (i := o + i) (by omega)) rfl rfl (hb hbytes d12) ?_
        exact Steps.refl _)
      have c5 : Steps p.tables e below (s₁.setTop (entryFrame m #[.ref b, .int (Int32.ofNat o), .ref d, .int (Int32.ofNat q), .int (Int32.ofNat len)] 7)) (Tl.setTop (mkF m 15 #[.val (.ref b), .val (.int (Int32.ofNat (o + i))), .val (.ref d), .val (.int (Int32.ofNat (q + i))), .val (.int (Int32.ofNat len)), .val (.int (Int32.ofNat i)), .val (.int (cv A (o + i)))] [])) := c4.trans (by
        refine XS.istoreS Xl.here hexec rfl (hb hbytes d13) rfl rfl hz ?_
        exact Steps.refl _)
      have c6 : Steps p.tables e below (s₁.setTop (entryFrame m #[.ref b, .int (Int32.ofNat o), .ref d, .int (Int32.ofNat q), .int (Int32.ofNat len)] 7)) (Tl.setTop (mkF m 31 #[.val (.ref b), .val (.int (Int32.ofNat (o + i))), .val (.ref d), .val (.int (Int32.ofNat (q + i))), .val (.int (Int32.ofNat len)), .val (.int (Int32.ofNat i)), .val (.int (cv A (o + i)))] [.int (lo8 (cv A (o + i))), .int (Int32.ofNat (q + i)), .ref d])) := c5.trans (by
        refine XS.iload Xl.here hexec rfl (hb hbytes d15) rfl ?_
        refine sipushV Xl.here hexec rfl 255 (hb hbytes d17) (by decide) ?_
        refine XS.icmpYes Xl.here hexec rfl (pc0 := 20) rfl (hb hbytes d20) rfl (ii_le_t (hp i (by omega))) (by decide) rfl ?_
        refine XS.aloadN Xl.here hexec rfl (hb hbytes d26) rfl rfl ?_
        refine XS.iloadN Xl.here hexec rfl (hb hbytes d27) rfl ?_
        refine XS.iload Xl.here hexec rfl (hb hbytes d28) rfl ?_
        refine i2b Xl.here hexec rfl (hb hbytes d30) rfl ?_
        exact Steps.refl _)
      obtain ⟨T7, X7, p7, st7⟩ := Xl.aput hexec hBk rfl hlt rfl (fits_lo8 (cv A (o + i))) (g := (mkF m 31 #[.val (.ref b), .val (.int (Int32.ofNat (o + i))), .val (.ref d), .val (.int (Int32.ofNat (q + i))), .val (.int (Int32.ofNat len)), .val (.int (Int32.ofNat i)), .val (.int (cv A (o + i)))] [.int (lo8 (cv A (o + i))), .int (Int32.ofNat (q + i)), .ref d])) rfl (rest := []) rfl (hb hbytes d31)
      have c8 : Steps p.tables e below (s₁.setTop (entryFrame m #[.ref b, .int (Int32.ofNat o), .ref d, .int (Int32.ofNat q), .int (Int32.ofNat len)] 7)) (T7.setTop (mkF m 32 #[.val (.ref b), .val (.int (Int32.ofNat (o + i))), .val (.ref d), .val (.int (Int32.ofNat (q + i))), .val (.int (Int32.ofNat len)), .val (.int (Int32.ofNat i)), .val (.int (cv A (o + i)))] [])) := c6.trans (st7 _ (Steps.refl _))
      have c9 : Steps p.tables e below (s₁.setTop (entryFrame m #[.ref b, .int (Int32.ofNat o), .ref d, .int (Int32.ofNat q), .int (Int32.ofNat len)] 7)) (T7.setTop (mkF m 3 #[.val (.ref b), .val (.int (Int32.ofNat (o + i) + 1)), .val (.ref d), .val (.int (Int32.ofNat (q + i) + 1)), .val (.int (Int32.ofNat len)), .val (.int (Int32.ofNat i + 1)), .val (.int (cv A (o + i)))] [])) := c8.trans (by
        refine iincV X7.here hexec rfl 1 (hb hbytes d32) (by decide) rfl rfl ?_
        refine iincV X7.here hexec rfl 1 (hb hbytes d35) (by decide) rfl rfl ?_
        refine iincV X7.here hexec rfl 1 (hb hbytes d38) (by decide) rfl rfl ?_
        refine XS.goto X7.here hexec rfl (pc0 := 41) rfl (hb hbytes d41) (by decide) rfl ?_
        exact Steps.refl _)
      have c10 : Steps p.tables e below (s₁.setTop (entryFrame m #[.ref b, .int (Int32.ofNat o), .ref d, .int (Int32.ofNat q), .int (Int32.ofNat len)] 7)) (T7.setTop (mkF m 3 #[.val (.ref b), .val (.int (Int32.ofNat (o + (i + 1)))), .val (.ref d), .val (.int (Int32.ofNat (q + (i + 1)))), .val (.int (Int32.ofNat len)), .val (.int (Int32.ofNat (i + 1))), .val (.int (cv A (o + i)))] [])) := by
        have := c9
        rw [succ32, succ32, succ32] at this
        exact this
      exact ih (i + 1) (by omega) _ (Or.inr ⟨_, rfl, rfl⟩) T7 _ (by rw [copyLocs_step, ← List.append_assoc]; exact X7) (pl.trans p7) (fl.step (by omega) hlt (by simp)) c10
  obtain ⟨T9, B9, z9, X9, p9, f9, g9⟩ := loop len 0 (by omega) .unset (Or.inl rfl) s₁ B (by simpa [copyLocs] using X0) ⟨hB0.1, fun _ _ => rfl, rfl⟩ (Laid.zero _ _ _) c2
  have c11 : Steps p.tables e below (s₁.setTop (entryFrame m #[.ref b, .int (Int32.ofNat o), .ref d, .int (Int32.ofNat q), .int (Int32.ofNat len)] 7)) (T9.setTop (mkF m 46 #[.val (.ref b), .val (.int (Int32.ofNat (o + len))), .val (.ref d), .val (.int (Int32.ofNat (q + len))), .val (.int (Int32.ofNat len)), .val (.int (Int32.ofNat len)), z9] [.int (Int32.ofNat len)])) := g9.trans (by
    refine XS.iload X9.here hexec rfl (hb hbytes d3) rfl ?_
    refine XS.iload X9.here hexec rfl (hb hbytes d5) rfl ?_
    refine XS.icmpYes X9.here hexec rfl (pc0 := 7) rfl (hb hbytes d7) rfl (ii_ge_t (nlt32 (by omega) (Nat.le_refl _))) (by decide) rfl ?_
    refine XS.iload X9.here hexec rfl (hb hbytes d44) rfl ?_
    exact Steps.refl _)
  exact ⟨T9, some (.int (Int32.ofNat len)), _, _, _, X9, by simp, rfl, rfl, (fun h => by cases h), ⟨rfl, B9, p9.from hh0, f9⟩, fun fs hl => c11.trans (X9.ireturnOut hexec hret rfl (Or.inl rfl) (hb hbytes d46) hl)⟩
end Cmp5
namespace Cmp3
def yN : MethodName := ⟨"java/lang/StringUTF16", "compress", "([CII)[B"⟩
abbrev yB : ByteArray := jdk_52_method_16_code
theorem d0 : decode yB 0 = .ok (.iload_n 2, 1) := by decide +kernel
theorem d1 : decode yB 1 = .ok (.newarray .byte, 2) := by decide +kernel
theorem d3 : decode yB 3 = .ok (.astore_n 3, 1) := by decide +kernel
theorem d4 : decode yB 4 = .ok (.aload_n 0, 1) := by decide +kernel
theorem d5 : decode yB 5 = .ok (.iload_n 1, 1) := by decide +kernel
theorem d6 : decode yB 6 = .ok (.aload_n 3, 1) := by decide +kernel
theorem d7 : decode yB 7 = .ok (.iconst 0, 1) := by decide +kernel
theorem d8 : decode yB 8 = .ok (.iload_n 2, 1) := by decide +kernel
theorem d9 : decode yB 9 = .ok (.invokestatic 115, 3) := by decide +kernel
theorem d12 : decode yB 12 = .ok (.istore 4, 2) := by decide +kernel
theorem d14 : decode yB 14 = .ok (.iload 4, 2) := by decide +kernel
theorem d16 : decode yB 16 = .ok (.iload_n 2, 1) := by decide +kernel
theorem d17 : decode yB 17 = .ok (.if_icmp (.eq) 40, 3) := by decide +kernel
theorem d57 : decode yB 57 = .ok (.aload_n 3, 1) := by decide +kernel
theorem d58 : decode yB 58 = .ok (.areturn, 1) := by decide +kernel
def site : List Cond := [.arrayClass .byte, Cmp5.tab] ++ staticW U16 115 Cmp5.yN
def tab : Cond := tabOf yN yB 6 (some (.array .byte)) site
def P (b : Addr) (A : Cell) (o len : Nat) (args : Array Value) (s : State) : Prop := args = #[.ref b, .int (Int32.ofNat o), .int (Int32.ofNat len)] ∧ Ch b A s ∧ o + len ≤ A.slots.size ∧ len ≤ 536870912 ∧ ∀ i, i < len → ¬ 255 < cv A (o + i)
def E (b : Addr) (A : Cell) (o len : Nat) (r : Option Value) (s u : State) : Prop := NewArr .byte "[B" len (fun j => .int (lo8 (cv A (o + j)))) r s u ∧ u.heap.size = s.heap.size + 1
/-- no char of the range above 255: a new byte[] of their low bytes -/
theorem law (l : Launch) (b : Addr) (A : Cell) (o len : Nat) : Law l yN 3 3 1 18 yB 6 (some (.array .byte)) site (P b A o len) (E b A o len) [] 1 len := by
  refine Law.of_walk (plainFor_of_name (by decide +kernel)) (by decide +kernel) (by decide +kernel) (by decide) (fun _ _ h => by rw [h.1]; rfl) (fun _ U U' hal hh h => ⟨h.1, h.2.1.mv hal hh, h.2.2⟩) (fun r U U' V V' h1 hal h2 h => ⟨NewArr.mv r U U' V V' h1 hal h2 h.1, by rw [h1, h2]; exact h.2⟩) ?_
  intro p e s m args below meth c s₁ X0 hexec hbytes hml hret hlk hnm hown hh0 W hP
  obtain ⟨rfl, hA, l1, l2, hp⟩ := hP
  have a31 := hA.1.2.2.2
  have c1 : Steps p.tables e below (s₁.setTop (entryFrame m #[.ref b, .int (Int32.ofNat o), .int (Int32.ofNat len)] 6)) (s₁.setTop (mkF m 0 #[.val (.ref b), .val (.int (Int32.ofNat o)), .val (.int (Int32.ofNat len)), .unset, .unset, .unset] [])) := entry rfl
  have c2 : Steps p.tables e below (s₁.setTop (entryFrame m #[.ref b, .int (Int32.ofNat o), .int (Int32.ofNat len)] 6)) (s₁.setTop (mkF m 1 #[.val (.ref b), .val (.int (Int32.ofNat o)), .val (.int (Int32.ofNat len)), .unset, .unset, .unset] [.int (Int32.ofNat len)])) := c1.trans (by
    refine XS.iloadN X0.here hexec rfl (hb hbytes d0) rfl ?_
    exact Steps.refl _)
  obtain ⟨T3, B3, X3, ba3, bs3, bv3, bh3, bf3, st3⟩ := X0.anew hexec (atype := .byte) (wk W (.arrayClass .byte)) rfl (by show len * 1 ≤ _; omega) (by omega) (g := (mkF m 1 #[.val (.ref b), .val (.int (Int32.ofNat o)), .val (.int (Int32.ofNat len)), .unset, .unset, .unset] [.int (Int32.ofNat len)])) rfl (hb hbytes d1) (rest := []) rfl (Nat.le_refl _) (by show 0 + len ≤ len; omega)
  rw [hh0] at ba3 st3
  have kp3 : XT.Kept s T3 := (XT.Kept.of_eq hh0).push bh3
  have hA3 := hA.keep X3.warmed.alike (kp3 _ _ hA.1.1)
  have hne : b ≠ s.heap.size := hA.1.ne
  have c4 : Steps p.tables e below (s₁.setTop (entryFrame m #[.ref b, .int (Int32.ofNat o), .int (Int32.ofNat len)] 6)) (T3.setTop (mkF m 3 #[.val (.ref b), .val (.int (Int32.ofNat o)), .val (.int (Int32.ofNat len)), .unset, .unset, .unset] [.ref s.heap.size])) := c2.trans (st3 _ (Steps.refl _))
  have c5 : Steps p.tables e below (s₁.setTop (entryFrame m #[.ref b, .int (Int32.ofNat o), .int (Int32.ofNat len)] 6)) (T3.setTop (mkF m 9 #[.val (.ref b), .val (.int (Int32.ofNat o)), .val (.int (Int32.ofNat len)), .val (.ref s.heap.size), .unset, .unset] [.int (Int32.ofNat len), .int 0, .ref s.heap.size, .int (Int32.ofNat o), .ref b])) := c4.trans (by
    refine XS.astoreN X3.here hexec rfl (hb hbytes d3) rfl rfl rfl ?_
    refine XS.aloadN X3.here hexec rfl (hb hbytes d4) rfl rfl ?_
    refine XS.iloadN X3.here hexec rfl (hb hbytes d5) rfl ?_
    refine XS.aloadN X3.here hexec rfl (hb hbytes d6) rfl rfl ?_
    refine iconstV X3.here hexec rfl 0 (hb hbytes d7) (by decide) ?_
    refine XS.iloadN X3.here hexec rfl (hb hbytes d8) rfl ?_
    exact Steps.refl _)
  obtain ⟨v6, T6, X6, E6, g6⟩ := X3.callS hexec (Cmp5.law l b A s.heap.size B3 o 0 len) hown (wks W (staticW U16 115 Cmp5.yN)) (wk W Cmp5.tab) (W := 0) (Nat.le_of_ble_eq_true rfl) (Nat.le_of_ble_eq_true rfl) (Nat.le_refl _) (by show 0 + len + 0 ≤ len; omega) (g := (mkF m 9 #[.val (.ref b), .val (.int (Int32.ofNat o)), .val (.int (Int32.ofNat len)), .val (.ref s.heap.size), .unset, .unset] [.int (Int32.ofNat len), .int (Int32.ofNat 0), .ref s.heap.size, .int (Int32.ofNat o), .ref b])) rfl (by rw [hml]; rfl) c5 (argsL := [.ref b, .int (Int32.ofNat o), .ref s.heap.size, .int (Int32.ofNat 0), .int (Int32.ofNat len)]) (rest := []) rfl rfl (by show 2 * 0 + 0 ≤ _; decide) (hb hbytes d9) (⟨rfl, hA3, ba3, hne, l1, by rw [bs3]; simp, hp⟩)
  obtain ⟨rfl, B6, p6, f6⟩ := E6
  have c7 : Steps p.tables e below (s₁.setTop (entryFrame m #[.ref b, .int (Int32.ofNat o), .int (Int32.ofNat len)] 6)) (T6.setTop (mkF m 12 #[.val (.ref b), .val (.int (Int32.ofNat o)), .val (.int (Int32.ofNat len)), .val (.ref s.heap.size), .unset, .unset] [.int (Int32.ofNat len)])) := g6
  have c8 : Steps p.tables e below (s₁.setTop (entryFrame m #[.ref b, .int (Int32.ofNat o), .int (Int32.ofNat len)] 6)) (T6.setTop (mkF m 58 #[.val (.ref b), .val (.int (Int32.ofNat o)), .val (.int (Int32.ofNat len)), .val (.ref s.heap.size), .val (.int (Int32.ofNat len)), .unset] [.ref s.heap.size])) := c7.trans (by
    refine XS.istore X6.here hexec rfl (hb hbytes d12) rfl rfl ?_
    refine XS.iload X6.here hexec rfl (hb hbytes d14) rfl ?_
    refine XS.iloadN X6.here hexec rfl (hb hbytes d16) rfl ?_
    refine XS.icmpYes X6.here hexec rfl (pc0 := 17) rfl (hb hbytes d17) rfl (ii_eq_t rfl) (by decide) rfl ?_
    refine XS.aloadN X6.here hexec rfl (hb hbytes d57) rfl rfl ?_
    exact Steps.refl _)
  have X8 := X6.wide (L' := []) (cells' := 1) (slots' := len) (fun x hx hlt => by
    simp only [List.nil_append, copyLocs, List.mem_map, List.mem_range] at hx
    obtain ⟨i, -, rfl⟩ := hx
    exact absurd hlt (Nat.lt_irrefl _)) (Nat.le_refl _) (by omega)
  exact ⟨T6, some (.ref s.heap.size), _, _, _, X8, rfl, rfl, rfl, (fun h => by cases h), ⟨⟨rfl, B6, ba3.like (X3.warmed.alike.symm.trans X6.warmed.alike) p6.1 f6.1 f6.2.1 f6.2.2.1, f6.2.1.trans bv3, by rw [X6.warmed.alike.findClass, f6.1]; exact bf3, by rw [f6.2.2.1, bs3]; simp, fun j hj => by rw [f6.2.2.2 j, if_pos (by omega)]; rfl, kp3.put p6 (Nat.le_refl _)⟩, by rw [p6.2.2, bh3, hh0]; simp⟩, fun fs hl => c8.trans (X8.areturnOut hexec rfl hret rfl (hb hbytes d58) hl)⟩
end Cmp3
namespace CodL
def yN : MethodName := ⟨"java/lang/StringUTF16", "coderFromArrayLen", "([BI)B"⟩
abbrev yB : ByteArray := jdk_52_method_15_code
theorem d0 : decode yB 0 = .ok (.iload_n 1, 1) := by decide +kernel
theorem d1 : decode yB 1 = .ok (.aload_n 0, 1) := by decide +kernel
theorem d2 : decode yB 2 = .ok (.arraylength, 1) := by decide +kernel
theorem d3 : decode yB 3 = .ok (.isub, 1) := by decide +kernel
theorem d4 : decode yB 4 = .ok (.bipush 31, 2) := by decide +kernel
theorem d6 : decode yB 6 = .ok (.iushr, 1) := by decide +kernel
theorem d7 : decode yB 7 = .ok (.i2b, 1) := by decide +kernel
theorem d8 : decode yB 8 = .ok (.ireturn, 1) := by decide +kernel
def site : List Cond := []
def tab : Cond := tabOf yN yB 2 (some .byte) site
def P (d : Addr) (B : Cell) (args : Array Value) (s : State) : Prop := args = #[.ref d, .int (Int32.ofNat B.slots.size)] ∧ Arr .byte d B s
def E (r : Option Value) (s u : State) : Prop := XT.PureE (some (.int 0)) r s u
/-- an array as long as the number of chars: LATIN1 -/
theorem law (l : Launch) (d : Addr) (B : Cell) : Law l yN 2 2 0 0 yB 2 (some .byte) site (P d B) E [] 0 0 := by
  refine Law.of_walk (plainFor_of_name (by decide +kernel)) (by decide +kernel) (by decide +kernel) (by decide) (fun _ _ h => by rw [h.1]; rfl) (fun _ U U' hal hh h => ⟨h.1, h.2.mv hal hh⟩) (fun r U U' V V' h1 hal h2 h => XT.PureE.mv r U U' V V' h1 hal h2 h) ?_
  intro p e s m args below meth c s₁ X0 hexec hbytes hml hret hlk hnm hown hh0 W hP
  obtain ⟨rfl, hB⟩ := hP
  have hB0 := hB.mv X0.warmed.alike hh0
  have c1 : Steps p.tables e below (s₁.setTop (entryFrame m #[.ref d, .int (Int32.ofNat B.slots.size)] 2)) (s₁.setTop (mkF m 0 #[.val (.ref d), .val (.int (Int32.ofNat B.slots.size))] [])) := entry rfl
  have c2 : Steps p.tables e below (s₁.setTop (entryFrame m #[.ref d, .int (Int32.ofNat B.slots.size)] 2)) (s₁.setTop (mkF m 2 #[.val (.ref d), .val (.int (Int32.ofNat B.slots.size))] [.ref d, .int (Int32.ofNat B.slots.size)])) := c1.trans (by
    refine XS.iloadN X0.here hexec rfl (hb hbytes d0) rfl ?_
    refine XS.aloadN X0.here hexec rfl (hb hbytes d1) rfl rfl ?_
    exact Steps.refl _)
  have c3 : Steps p.tables e below (s₁.setTop (entryFrame m #[.ref d, .int (Int32.ofNat B.slots.size)] 2)) (s₁.setTop (mkF m 8 #[.val (.ref d), .val (.int (Int32.ofNat B.slots.size))] [.int (lo8 (ushr (Int32.ofNat B.slots.size - Int32.ofNat B.slots.size) 31))])) := c2.trans (by
    refine X0.alen hexec hB0 rfl rfl (hb hbytes d2) ?_
    refine XS.isub X0.here hexec rfl (hb hbytes d3) rfl ?_
    refine bipushV X0.here hexec rfl 31 (hb hbytes d4) (by decide) ?_
    refine iushr X0.here hexec rfl (hb hbytes d6) rfl ?_
    refine i2b X0.here hexec rfl (hb hbytes d7) rfl ?_
    exact Steps.refl _)
  have e0 : lo8 (ushr (Int32.ofNat B.slots.size - Int32.ofNat B.slots.size) 31) = 0 := by rw [Int32.sub_self]; decide
  rw [e0] at c3
  exact ⟨s₁, some (.int 0), _, _, _, X0, rfl, rfl, rfl, (fun h => by cases h), ⟨rfl, hh0⟩, fun fs hl => c3.trans (X0.ireturnOut hexec hret rfl (Or.inr (Or.inr (Or.inl rfl))) (hb hbytes d8) hl)⟩
end CodL
/-- the String at a is Latin-1 over a new byte[] (the heap's one new cell): the low bytes of the len chars of A from o on; every cell but a is kept -/
def Got (a : Addr) (D : Cell) (fV fC : Field) (A : Cell) (o len : Nat) (r : Option Value) (s u : State) : Prop := r = none ∧ ∃ D' V : Cell, Blank "java/lang/String" a D' u ∧ Same D D' [fV.slot, fC.slot] ∧ D'.slots[fV.slot]? = some (.ref s.heap.size) ∧ D'.slots[fC.slot]? = some (.int 0) ∧ Arr .byte s.heap.size V u ∧ V.vm = .none ∧ u.vm.findClass "[B" = some V.cls ∧ V.slots.size = len ∧ (∀ j, j < len → V.slots[j]? = some (.int (lo8 (cv A (o + j))))) ∧ (∀ (y : Addr) (c : Cell), y ≠ a → s.heap[y]? = some c → u.heap[y]? = some c) ∧ u.heap.size = s.heap.size + 1
theorem Got.mv {a : Addr} {D A : Cell} {fV fC : Field} {o len : Nat} : ∀ r (U U' V V' : State), U'.heap = U.heap → V.vm.Alike V'.vm → V'.heap = V.heap → Got a D fV fC A o len r U V → Got a D fV fC A o len r U' V' :=
  fun r U U' V V' h1 hal h2 ⟨e0, D', X, a1, a2, a3, a4, a5, a6, a7, a8, a9, a10, a11⟩ => ⟨e0, D', X, a1.mv hal h2, a2, by rw [h1]; exact a3, a4, by rw [h1]; exact a5.mv hal h2, a6, by rw [hal.findClass]; exact a7, a8, a9, by rw [h1, h2]; exact a10, by rw [h1, h2]; exact a11⟩
namespace New4
def yN : MethodName := ⟨"java/lang/String", "<init>", "([CIILjava/lang/Void;)V"⟩
abbrev yB : ByteArray := jdk_42_method_149_code
theorem d0 : decode yB 0 = .ok (.aload_n 0, 1) := by decide +kernel
theorem d1 : decode yB 1 = .ok (.invokespecial 1, 3) := by decide +kernel
theorem d4 : decode yB 4 = .ok (.iload_n 3, 1) := by decide +kernel
theorem d5 : decode yB 5 = .ok (.ifCond (.ne) 22, 3) := by decide +kernel
theorem d27 : decode yB 27 = .ok (.getstatic 38, 3) := by decide +kernel
theorem d30 : decode yB 30 = .ok (.ifCond (.eq) 28, 3) := by decide +kernel
theorem d33 : decode yB 33 = .ok (.aload_n 1, 1) := by decide +kernel
theorem d34 : decode yB 34 = .ok (.iload_n 2, 1) := by decide +kernel
theorem d35 : decode yB 35 = .ok (.iload_n 3, 1) := by decide +kernel
theorem d36 : decode yB 36 = .ok (.invokestatic 177, 3) := by decide +kernel
theorem d39 : decode yB 39 = .ok (.astore 5, 2) := by decide +kernel
theorem d41 : decode yB 41 = .ok (.aload_n 0, 1) := by decide +kernel
theorem d42 : decode yB 42 = .ok (.aload 5, 2) := by decide +kernel
theorem d44 : decode yB 44 = .ok (.iload_n 3, 1) := by decide +kernel
theorem d45 : decode yB 45 = .ok (.invokestatic 47, 3) := by decide +kernel
theorem d48 : decode yB 48 = .ok (.putfield 15, 3) := by decide +kernel
theorem d51 : decode yB 51 = .ok (.aload_n 0, 1) := by decide +kernel
theorem d52 : decode yB 52 = .ok (.aload 5, 2) := by decide +kernel
theorem d54 : decode yB 54 = .ok (.putfield 9, 3) := by decide +kernel
theorem d57 : decode yB 57 = .ok (.return_, 1) := by decide +kernel
def site : List Cond := [.fieldLink "java/lang/String" 38 "java/lang/String" "COMPACT_STRINGS" "Z", Cmp3.tab, CodL.tab, .laysFinal "java/lang/String" "java/lang/String" "value" "[B", .fieldLink "java/lang/String" 9 "java/lang/String" "value" "[B", .laysFinal "java/lang/String" "java/lang/String" "coder" "B", .fieldLink "java/lang/String" 15 "java/lang/String" "coder" "B"] ++ objW "java/lang/String" 1 ++ staticW "java/lang/String" 177 Cmp3.yN ++ staticW "java/lang/String" 47 CodL.yN
def tab : Cond := tabOf yN yB 6 none site
def P (a : Addr) (D : Cell) (fV fC : Field) (b : Addr) (A : Cell) (z : Int32) (o len : Nat) (args : Array Value) (s : State) : Prop := args = #[.ref a, .ref b, .int (Int32.ofNat o), .int (Int32.ofNat len), .null] ∧ Blank "java/lang/String" a D s ∧ Found "java/lang/String" "value" "[B" fV s ∧ Found "java/lang/String" "coder" "B" fC s ∧ Ch b A s ∧ StaticIs s "java/lang/String" "COMPACT_STRINGS" "Z" (.int z) ∧ ¬ z = 0 ∧ 0 < len ∧ o + len ≤ A.slots.size ∧ len ≤ 536870912 ∧ ∀ i, i < len → ¬ 255 < cv A (o + i)
def E (a : Addr) (D : Cell) (fV fC : Field) (A : Cell) (o len : Nat) (r : Option Value) (s u : State) : Prop := Got a D fV fC A o len r s u
/-- len > 0, no char of the range above 255: a Latin-1 String of their low bytes -/
theorem law (l : Launch) (a : Addr) (D : Cell) (fV fC : Field) (b : Addr) (A : Cell) (z : Int32) (o len : Nat) : Law l yN 5 4 2 35 yB 6 none site (P a D fV fC b A z o len) (E a D fV fC A o len) [⟨a, fC.slot⟩, ⟨a, fV.slot⟩] 1 len := by
  refine Law.of_walk (plainFor_of_name (by decide +kernel)) (by decide +kernel) (by decide +kernel) (by decide) (fun _ _ h => by rw [h.1]; rfl) (fun _ U U' hal hh h => ⟨h.1, h.2.1.mv hal hh, h.2.2.1.al hal, h.2.2.2.1.al hal, h.2.2.2.2.1.mv hal hh, h.2.2.2.2.2.1.there hal hh, h.2.2.2.2.2.2⟩) (fun r U U' V V' h1 hal h2 h => Got.mv r U U' V V' h1 hal h2 h) ?_
  intro p e s m args below meth c s₁ X0 hexec hbytes hml hret hlk hnm hown hh0 W hP
  obtain ⟨rfl, hB, f1, f2, hA, s1, hz, l0, l1, l2, hp⟩ := hP
  have a31 := hA.1.2.2.2
  have c1 : Steps p.tables e below (s₁.setTop (entryFrame m #[.ref a, .ref b, .int (Int32.ofNat o), .int (Int32.ofNat len), .null] 6)) (s₁.setTop (mkF m 0 #[.val (.ref a), .val (.ref b), .val (.int (Int32.ofNat o)), .val (.int (Int32.ofNat len)), .val .null, .unset] [])) := entry rfl
  have c2 : Steps p.tables e below (s₁.setTop (entryFrame m #[.ref a, .ref b, .int (Int32.ofNat o), .int (Int32.ofNat len), .null] 6)) (s₁.setTop (mkF m 1 #[.val (.ref a), .val (.ref b), .val (.int (Int32.ofNat o)), .val (.int (Int32.ofNat len)), .val .null, .unset] [.ref a])) := c1.trans (by
    refine XS.aloadN X0.here hexec rfl (hb hbytes d0) rfl rfl ?_
    exact Steps.refl _)
  obtain ⟨T3, X3, q3, st3⟩ := X0.oinit hexec hown (wks W (objW "java/lang/String" 1)) (g := (mkF m 1 #[.val (.ref a), .val (.ref b), .val (.int (Int32.ofNat o)), .val (.int (Int32.ofNat len)), .val .null, .unset] [.ref a])) rfl (by rw [hml]; rfl) (rest := []) rfl (hb hbytes d1) (W := 0) (by show 2 * 0 + 0 ≤ _; decide) (Nat.le_of_ble_eq_true rfl) (Nat.le_of_ble_eq_true rfl)
  have hh3 := q3.trans hh0
  have c4 : Steps p.tables e below (s₁.setTop (entryFrame m #[.ref a, .ref b, .int (Int32.ofNat o), .int (Int32.ofNat len), .null] 6)) (T3.setTop (mkF m 27 #[.val (.ref a), .val (.ref b), .val (.int (Int32.ofNat o)), .val (.int (Int32.ofNat len)), .val .null, .unset] [])) := (c2.trans (st3 _ (Steps.refl _))).trans (by
    refine XS.iloadN X3.here hexec rfl (hb hbytes d4) rfl ?_
    refine XS.ifYes X3.here hexec rfl (pc0 := 5) rfl (hb hbytes d5) rfl (i0_ne_t (nz32 (by omega) l0)) (by decide) rfl ?_
    exact Steps.refl _)
  obtain ⟨T5, X5, q5, st5⟩ := X3.sget hexec hown (wk W (.fieldLink "java/lang/String" 38 "java/lang/String" "COMPACT_STRINGS" "Z")) s1 (fun _ _ h => by rw [hh3]; exact h) (g := (mkF m 27 #[.val (.ref a), .val (.ref b), .val (.int (Int32.ofNat o)), .val (.int (Int32.ofNat len)), .val .null, .unset] [])) rfl (hb hbytes d27)
  have hh5 := q5.trans hh3
  have c6 : Steps p.tables e below (s₁.setTop (entryFrame m #[.ref a, .ref b, .int (Int32.ofNat o), .int (Int32.ofNat len), .null] 6)) (T5.setTop (mkF m 30 #[.val (.ref a), .val (.ref b), .val (.int (Int32.ofNat o)), .val (.int (Int32.ofNat len)), .val .null, .unset] [.int z])) := c4.trans (st5 _ (Steps.refl _))
  have c7 : Steps p.tables e below (s₁.setTop (entryFrame m #[.ref a, .ref b, .int (Int32.ofNat o), .int (Int32.ofNat len), .null] 6)) (T5.setTop (mkF m 36 #[.val (.ref a), .val (.ref b), .val (.int (Int32.ofNat o)), .val (.int (Int32.ofNat len)), .val .null, .unset] [.int (Int32.ofNat len), .int (Int32.ofNat o), .ref b])) := c6.trans (by
    refine XS.ifNo X5.here hexec rfl (hb hbytes d30) rfl (i0_eq_f hz) ?_
    refine XS.aloadN X5.here hexec rfl (hb hbytes d33) rfl rfl ?_
    refine XS.iloadN X5.here hexec rfl (hb hbytes d34) rfl ?_
    refine XS.iloadN X5.here hexec rfl (hb hbytes d35) rfl ?_
    exact Steps.refl _)
  obtain ⟨v8, T8, X8, E8, g8⟩ := X5.callS hexec (Cmp3.law l b A o len) hown (wks W (staticW "java/lang/String" 177 Cmp3.yN)) (wk W Cmp3.tab) (W := 0) (Nat.le_of_ble_eq_true rfl) (Nat.le_of_ble_eq_true rfl) (Nat.le_refl _) (by show 0 + len ≤ len; omega) (g := (mkF m 36 #[.val (.ref a), .val (.ref b), .val (.int (Int32.ofNat o)), .val (.int (Int32.ofNat len)), .val .null, .unset] [.int (Int32.ofNat len), .int (Int32.ofNat o), .ref b])) rfl (by rw [hml]; rfl) c7 (argsL := [.ref b, .int (Int32.ofNat o), .int (Int32.ofNat len)]) (rest := []) rfl rfl (by show 2 * 0 + 0 ≤ _; decide) (hb hbytes d36) (⟨rfl, hA.mv X5.warmed.alike hh5, l1, l2, hp⟩)
  obtain ⟨e8, z8⟩ := E8
  obtain ⟨rfl, N, n1, n2, n3, n4, n5, n6⟩ := NewArr.mv _ T5 s _ _ hh5.symm (Vm.Alike.refl _) rfl e8
  rw [hh5] at z8
  have hB1 := hB.keep X8.warmed.alike (n6 _ _ hB.1)
  have hne : s.heap.size ≠ a := (Nat.ne_of_lt (Array.getElem?_eq_some_iff.mp hB.1).1).symm
  have c9 : Steps p.tables e below (s₁.setTop (entryFrame m #[.ref a, .ref b, .int (Int32.ofNat o), .int (Int32.ofNat len), .null] 6)) (T8.setTop (mkF m 39 #[.val (.ref a), .val (.ref b), .val (.int (Int32.ofNat o)), .val (.int (Int32.ofNat len)), .val .null, .unset] [.ref s.heap.size])) := g8
  have c10 : Steps p.tables e below (s₁.setTop (entryFrame m #[.ref a, .ref b, .int (Int32.ofNat o), .int (Int32.ofNat len), .null] 6)) (T8.setTop (mkF m 45 #[.val (.ref a), .val (.ref b), .val (.int (Int32.ofNat o)), .val (.int (Int32.ofNat len)), .val .null, .val (.ref s.heap.size)] [.int (Int32.ofNat N.slots.size), .ref s.heap.size, .ref a])) := by
    have hc : Steps p.tables e below (s₁.setTop (entryFrame m #[.ref a, .ref b, .int (Int32.ofNat o), .int (Int32.ofNat len), .null] 6)) (T8.setTop (mkF m 45 #[.val (.ref a), .val (.ref b), .val (.int (Int32.ofNat o)), .val (.int (Int32.ofNat len)), .val .null, .val (.ref s.heap.size)] [.int (Int32.ofNat len), .ref s.heap.size, .ref a])) := c9.trans (by
      refine XS.astore X8.here hexec rfl (hb hbytes d39) rfl rfl rfl ?_
      refine XS.aloadN X8.here hexec rfl (hb hbytes d41) rfl rfl ?_
      refine XS.aload X8.here hexec rfl (hb hbytes d42) rfl rfl ?_
      refine XS.iloadN X8.here hexec rfl (hb hbytes d44) rfl ?_
      exact Steps.refl _)
    rw [n4]; exact hc
  obtain ⟨v11, T11, X11, E11, g11⟩ := X8.callS hexec (CodL.law l s.heap.size N) hown (wks W (staticW "java/lang/String" 47 CodL.yN)) (wk W CodL.tab) (W := 1) (Nat.le_of_ble_eq_true rfl) (Nat.le_of_ble_eq_true rfl) (Nat.le_refl _) (by show 0 + len + 0 ≤ len; omega) (g := (mkF m 45 #[.val (.ref a), .val (.ref b), .val (.int (Int32.ofNat o)), .val (.int (Int32.ofNat len)), .val .null, .val (.ref s.heap.size)] [.int (Int32.ofNat N.slots.size), .ref s.heap.size, .ref a])) rfl (by rw [hml]; rfl) c10 (argsL := [.ref s.heap.size, .int (Int32.ofNat N.slots.size)]) (rest := [.ref a]) rfl rfl (by show 2 * 0 + (1 + 0) ≤ _; decide) (hb hbytes d45) (⟨rfl, n1⟩)
  obtain ⟨rfl, q11⟩ := E11
  have hB11 := hB1.mv (X8.warmed.alike.symm.trans X11.warmed.alike) q11
  have c12 : Steps p.tables e below (s₁.setTop (entryFrame m #[.ref a, .ref b, .int (Int32.ofNat o), .int (Int32.ofNat len), .null] 6)) (T11.setTop (mkF m 48 #[.val (.ref a), .val (.ref b), .val (.int (Int32.ofNat o)), .val (.int (Int32.ofNat len)), .val .null, .val (.ref s.heap.size)] [.int 0, .ref a])) := g11
  obtain ⟨T13, X13, p13, bl13, sl13, st13⟩ := X11.finit hexec hown (wk W (.fieldLink "java/lang/String" 15 "java/lang/String" "coder" "B")) (Or.inr ⟨_, (wk W (.laysFinal "java/lang/String" "java/lang/String" "coder" "B"))⟩) (Or.inl ⟨rfl, hnm⟩) f2 (Or.inl rfl) hB11 (t := .byte) (by decide +kernel) rfl (g := (mkF m 48 #[.val (.ref a), .val (.ref b), .val (.int (Int32.ofNat o)), .val (.int (Int32.ofNat len)), .val .null, .val (.ref s.heap.size)] [.int 0, .ref a])) rfl (rest := []) rfl (hb hbytes d48)
  have c14 : Steps p.tables e below (s₁.setTop (entryFrame m #[.ref a, .ref b, .int (Int32.ofNat o), .int (Int32.ofNat len), .null] 6)) (T13.setTop (mkF m 54 #[.val (.ref a), .val (.ref b), .val (.int (Int32.ofNat o)), .val (.int (Int32.ofNat len)), .val .null, .val (.ref s.heap.size)] [.ref s.heap.size, .ref a])) := (c12.trans (st13 _ (Steps.refl _))).trans (by
    refine XS.aloadN X13.here hexec rfl (hb hbytes d51) rfl rfl ?_
    refine XS.aload X13.here hexec rfl (hb hbytes d52) rfl rfl ?_
    exact Steps.refl _)
  obtain ⟨T15, X15, p15, bl15, sl15, st15⟩ := X13.finit hexec hown (wk W (.fieldLink "java/lang/String" 9 "java/lang/String" "value" "[B")) (Or.inr ⟨_, (wk W (.laysFinal "java/lang/String" "java/lang/String" "value" "[B"))⟩) (Or.inl ⟨rfl, hnm⟩) f1 (Or.inl rfl) bl13 (t := (.array .byte)) (by decide +kernel) rfl (g := (mkF m 54 #[.val (.ref a), .val (.ref b), .val (.int (Int32.ofNat o)), .val (.int (Int32.ofNat len)), .val .null, .val (.ref s.heap.size)] [.ref s.heap.size, .ref a])) rfl (rest := []) rfl (hb hbytes d54)
  have c16 : Steps p.tables e below (s₁.setTop (entryFrame m #[.ref a, .ref b, .int (Int32.ofNat o), .int (Int32.ofNat len), .null] 6)) (T15.setTop (mkF m 57 #[.val (.ref a), .val (.ref b), .val (.int (Int32.ofNat o)), .val (.int (Int32.ofNat len)), .val .null, .val (.ref s.heap.size)] [])) := c14.trans (st15 _ (Steps.refl _))
  have ap := apart (Or.inr ⟨_, (wk W (.laysFinal "java/lang/String" "java/lang/String" "value" "[B"))⟩) (Or.inr ⟨_, (wk W (.laysFinal "java/lang/String" "java/lang/String" "coder" "B"))⟩) f1 f2 (t₁ := .array .byte) (t₂ := .byte) (by decide +kernel) (by decide +kernel) (by decide)
  have al := X8.warmed.alike.symm.trans X15.warmed.alike
  have n7 : T11.heap[s.heap.size]? = some N := by rw [q11]; exact n1.1
  exact ⟨T15, none, _, _, _, X15, by simp, rfl, by omega, (fun _ => rfl), ⟨rfl, _, N, bl15, ((Same.refl D _).set _ (by simp)).set _ (by simp), sl15, (Cell.slots_setSlot_ne _ ap).trans sl13, n1.keep al (p15.other hne (p13.other hne n7)), n2, by rw [al.findClass]; exact n3, n4, n5, fun y c h1 h2 => p15.other h1 (p13.other h1 (by rw [q11]; exact n6 y c h2)), by rw [p15.2.2, p13.2.2, q11]; exact z8⟩, fun fs hl => c16.trans (X15.returnOut hexec hret (hb hbytes d57) hl)⟩
end New4
namespace New1
def yN : MethodName := ⟨"java/lang/String", "<init>", "([C)V"⟩
abbrev yB : ByteArray := jdk_42_method_3_code
theorem d0 : decode yB 0 = .ok (.aload_n 0, 1) := by decide +kernel
theorem d1 : decode yB 1 = .ok (.aload_n 1, 1) := by decide +kernel
theorem d2 : decode yB 2 = .ok (.iconst 0, 1) := by decide +kernel
theorem d3 : decode yB 3 = .ok (.aload_n 1, 1) := by decide +kernel
theorem d4 : decode yB 4 = .ok (.arraylength, 1) := by decide +kernel
theorem d5 : decode yB 5 = .ok (.aconst_null, 1) := by decide +kernel
theorem d6 : decode yB 6 = .ok (.invokespecial 27, 3) := by decide +kernel
theorem d9 : decode yB 9 = .ok (.return_, 1) := by decide +kernel
def site : List Cond := [New4.tab] ++ initW "java/lang/String" 27 New4.yN
def tab : Cond := tabOf yN yB 2 none site
def P (a : Addr) (D : Cell) (fV fC : Field) (b : Addr) (A : Cell) (z : Int32) (args : Array Value) (s : State) : Prop := args = #[.ref a, .ref b] ∧ Blank "java/lang/String" a D s ∧ Found "java/lang/String" "value" "[B" fV s ∧ Found "java/lang/String" "coder" "B" fC s ∧ Ch b A s ∧ StaticIs s "java/lang/String" "COMPACT_STRINGS" "Z" (.int z) ∧ ¬ z = 0 ∧ 0 < A.slots.size ∧ A.slots.size ≤ 536870912 ∧ ∀ i, i < A.slots.size → ¬ 255 < cv A i
def E (a : Addr) (D : Cell) (fV fC : Field) (A : Cell) (r : Option Value) (s u : State) : Prop := Got a D fV fC A 0 A.slots.size r s u
/-- new String(chars), not empty, no char above 255: a Latin-1 String of their low bytes -/
theorem law (l : Launch) (a : Addr) (D : Cell) (fV fC : Field) (b : Addr) (A : Cell) (z : Int32) : Law l yN 2 1 3 52 yB 2 none site (P a D fV fC b A z) (E a D fV fC A) [⟨a, fC.slot⟩, ⟨a, fV.slot⟩] 1 A.slots.size := by
  refine Law.of_walk (plainFor_of_name (by decide +kernel)) (by decide +kernel) (by decide +kernel) (by decide) (fun _ _ h => by rw [h.1]; rfl) (fun _ U U' hal hh h => ⟨h.1, h.2.1.mv hal hh, h.2.2.1.al hal, h.2.2.2.1.al hal, h.2.2.2.2.1.mv hal hh, h.2.2.2.2.2.1.there hal hh, h.2.2.2.2.2.2⟩) (fun r U U' V V' h1 hal h2 h => Got.mv r U U' V V' h1 hal h2 h) ?_
  intro p e s m args below meth c s₁ X0 hexec hbytes hml hret hlk hnm hown hh0 W hP
  obtain ⟨rfl, hB, f1, f2, hA, s1, hz, l0, l2, hp⟩ := hP
  have c1 : Steps p.tables e below (s₁.setTop (entryFrame m #[.ref a, .ref b] 2)) (s₁.setTop (mkF m 0 #[.val (.ref a), .val (.ref b)] [])) := entry rfl
  have c2 : Steps p.tables e below (s₁.setTop (entryFrame m #[.ref a, .ref b] 2)) (s₁.setTop (mkF m 6 #[.val (.ref a), .val (.ref b)] [.null, .int (Int32.ofNat A.slots.size), .int 0, .ref b, .ref a])) := c1.trans (by
    refine XS.aloadN X0.here hexec rfl (hb hbytes d0) rfl rfl ?_
    refine XS.aloadN X0.here hexec rfl (hb hbytes d1) rfl rfl ?_
    refine iconstV X0.here hexec rfl 0 (hb hbytes d2) (by decide) ?_
    refine XS.aloadN X0.here hexec rfl (hb hbytes d3) rfl rfl ?_
    refine X0.alen hexec (hA.1.mv X0.warmed.alike hh0) rfl rfl (hb hbytes d4) ?_
    refine XS.aconstNull X0.here hexec rfl (hb hbytes d5) ?_
    exact Steps.refl _)
  obtain ⟨v3, T3, X3, E3, g3⟩ := X0.callN hexec (New4.law l a D fV fC b A z 0 A.slots.size) rfl hown (wks W (initW "java/lang/String" 27 New4.yN)) (W New4.tab (by simp only [site, List.mem_cons, List.mem_append, true_or, or_true])) (W := 0) (Nat.le_of_ble_eq_true rfl) (Nat.le_of_ble_eq_true rfl) (Nat.le_refl _) (by show 0 + A.slots.size ≤ A.slots.size; omega) (g := (mkF m 6 #[.val (.ref a), .val (.ref b)] [.null, .int (Int32.ofNat A.slots.size), .int (Int32.ofNat 0), .ref b, .ref a])) rfl (by rw [hml]; rfl) c2 (argsL := [.ref b, .int (Int32.ofNat 0), .int (Int32.ofNat A.slots.size), .null]) (rest := []) rfl rfl (by show 2 * 0 + 0 ≤ _; decide) (hb hbytes d6) (⟨rfl, hB.mv X0.warmed.alike hh0, f1.al X0.warmed.alike, f2.al X0.warmed.alike, hA.mv X0.warmed.alike hh0, s1.there X0.warmed.alike hh0, hz, l0, by omega, l2, fun i hi => by rw [Nat.zero_add]; exact hp i hi⟩)
  have e0 := Got.mv _ s₁ s _ _ hh0.symm (Vm.Alike.refl _) rfl E3
  obtain rfl := e0.1
  have c4 : Steps p.tables e below (s₁.setTop (entryFrame m #[.ref a, .ref b] 2)) (T3.setTop (mkF m 9 #[.val (.ref a), .val (.ref b)] [])) := g3
  exact ⟨T3, none, _, _, _, X3, by simp, rfl, by omega, (fun _ => rfl), e0, fun fs hl => c4.trans (X3.returnOut hexec hret (hb hbytes d9) hl)⟩
theorem pays {l : Launch} {R : Room} {p : Program} {e : Env} {below : List Frame} {s : State} {sargs : Array Value} {len W : Nat} (a : Addr) (D : Cell) (fV fC : Field) (b : Addr) (A : Cell) (z : Int32) (htab : tab.before sargs s = true) (hfr : 4 ≤ R.frames) (hlo : W + 65 ≤ R.locals) :
    Back l R p e below s sargs yN len W (fun A₁ a₁ => A₁.cells + 1 ≤ R.cells ∧ A₁.slots + A.slots.size ≤ R.slots ∧ P a D fV fC b A z a₁ A₁.U) (fun A₁ _ v₁ B₁ => E a D fV fC A v₁ A₁.U B₁.U ∧ B₁.locs = A₁.locs ++ [⟨a, fC.slot⟩, ⟨a, fV.slot⟩] ∧ B₁.cells = A₁.cells + 1 ∧ B₁.slots = A₁.slots + A.slots.size) :=
  (law l a D fV fC b A z).pays htab hfr (by omega)
end New1
/-- the byte, read back as charAt reads it, is the char -/
theorem lo8_mask {x : Int32} (h0 : ¬ x < 0) (h1 : ¬ 255 < x) : lo8 x &&& 255 = x := by
  have t : ∀ k : Fin 256, lo8 (Int32.ofNat k.val) &&& 255 = Int32.ofNat k.val := by decide +kernel
  rw [Int32.lt_iff_toInt_lt] at h0 h1
  have e0 : (0 : Int32).toInt = 0 := rfl
  have e1 : (255 : Int32).toInt = 255 := rfl
  obtain ⟨k, hk⟩ : ∃ k : Nat, x.toInt = k := ⟨x.toInt.toNat, by omega⟩
  have hx : x = Int32.ofNat k := Int32.toInt_inj.mp (by rw [hk, Int32.toInt_ofNat_small (by omega)])
  rw [hx]
  exact t ⟨k, by omega⟩
end StrChars
namespace StrChars.Road
open Jvm Sem ClassFile Op Lib Jvm.Stand Jvm.Free Jvm.Free.XT
open Jvm.Lib.Cold (StaticIs)
abbrev ST : String := "java/lang/String"
/-- every table word that New1's law asks, flat -/
abbrev words : List Jvm.Cond := [.code New1.yN New1.yB 2 none, .initialized ST, .methodLink ST 27 New4.yN, .instanceMethod New4.yN,
  .code New4.yN New4.yB 6 none, .fieldLink ST 38 ST "COMPACT_STRINGS" "Z", .laysFinal ST ST "value" "[B", .fieldLink ST 9 ST "value" "[B", .laysFinal ST ST "coder" "B", .fieldLink ST 15 ST "coder" "B",
  .methodLink ST 1 Lib.objectInit, .instanceMethod Lib.objectInit, .code Lib.objectInit ⟨#[0xb1]⟩ 1 none, .methodLink ST 177 Cmp3.yN, .static Cmp3.yN, .methodLink ST 47 CodL.yN, .static CodL.yN,
  .code Cmp3.yN Cmp3.yB 6 (some (.array .byte)), .initialized U16, .arrayClass .byte, .methodLink U16 115 Cmp5.yN, .static Cmp5.yN, .code Cmp5.yN Cmp5.yB 7 (some .int), .code CodL.yN CodL.yB 2 (some .byte)]
theorem tab_of {a : Array Value} {s : State} (h : ∀ w ∈ words, w.before a s = true) : New1.tab.before a s = true := by
  have h5 : Cmp5.tab.before a s = true := unparts (wk h (.code Cmp5.yN Cmp5.yB 7 (some .int))) (wks h (.initialized Cmp5.yN.cls :: Cmp5.site))
  have hc : CodL.tab.before a s = true := unparts (wk h (.code CodL.yN CodL.yB 2 (some .byte))) (wks h (.initialized CodL.yN.cls :: CodL.site))
  have q5 : ∀ w ∈ Cmp5.tab :: words, w.before a s = true := fun w hw => (List.mem_cons.mp hw).elim (fun e => e ▸ h5) (h w)
  have h3 : Cmp3.tab.before a s = true := unparts (wk q5 (.code Cmp3.yN Cmp3.yB 6 (some (.array .byte)))) (wks q5 (.initialized Cmp3.yN.cls :: Cmp3.site))
  have q3 : ∀ w ∈ Cmp3.tab :: CodL.tab :: words, w.before a s = true := fun w hw => (List.mem_cons.mp hw).elim (fun e => e ▸ h3) fun hw => (List.mem_cons.mp hw).elim (fun e => e ▸ hc) (h w)
  have h4 : New4.tab.before a s = true := unparts (wk q3 (.code New4.yN New4.yB 6 none)) (wks q3 (.initialized New4.yN.cls :: New4.site))
  have q4 : ∀ w ∈ New4.tab :: words, w.before a s = true := fun w hw => (List.mem_cons.mp hw).elim (fun e => e ▸ h4) (h w)
  exact unparts (wk q4 (.code New1.yN New1.yB 2 none)) (wks q4 (.initialized New1.yN.cls :: New1.site))
/-- the words ride from the start Z to the walk's own state -/
theorem moved {Z s : State} {a0 args : Array Value} (hZ : Z.Warmed39 s.vm) (hw : ∀ d ∈ words, d.before a0 Z = true) : ∀ d ∈ words, d.before args s = true := fun d hd => by
  have q := hw d hd
  have t : ∀ d ∈ words, d = .arrayClass .byte ∨ (d.onTables && d.keepsFace) = true := by decide +kernel
  rcases t d hd with rfl | t
  · exact RoadKit.mvA hZ q
  · exact RoadKit.mv hZ q t
/-- WHAT COMES BACK, over the tables of the start Z: h the heap at the call, h' behind it -/
def Q (Z : State) (x : Addr) (A : Cell) (h : Heap) (v : Option Value) (h' : Heap) (L : List Loc) : Prop := v = none ∧ (∀ y ∈ L, y.base = x) ∧ RoadKit.Keep h h' [x] ∧ h'.size = h.size + 1 ∧ RoadKit.Exa Z h' x ST ∧ RoadKit.Fld Z h' x ST "value" "[B" (.ref h.size) ∧ RoadKit.Fld Z h' x ST "coder" "B" (.int 0) ∧
  (∃ V : Cell, RoadKit.Arr Z h' h.size V .byte ∧ V.vm = .none ∧ Z.vm.findClass "[B" = some V.cls ∧ V.slots.size = A.slots.size ∧ ∀ j, j < A.slots.size → V.slots[j]? = some (.int (lo8 (cv A j)))) ∧
  ∀ (O n d : String) (w : Value), RoadKit.Fld Z h x O n d w → RoadKit.slotOf Z O n d ≠ RoadKit.slotOf Z ST "value" "[B" → RoadKit.slotOf Z O n d ≠ RoadKit.slotOf Z ST "coder" "B" → RoadKit.Fld Z h' x O n d w
/-- **new String(chars) AT A CALL, IN THE ROAD'S FORM**: for specialBack behind newO: x the fresh String, b the char[] with the cell A -/
theorem back {p : Program} {l : Launch} {e : Env} {R : Room} {s : State} {args : Array Value} {below : List Frame} {len W : Nat} {Z : State} {a0 : Array Value} {h : Heap} (hZ : Z.Warmed39 s.vm) (hw : ∀ d ∈ words, d.before a0 Z = true) {kI : Nat} (wi : (Jvm.Cond.instantiable ST kI).before a0 Z = true)
    {x b : Addr} {A : Cell} {z : Int32} {v0 c0 : Value} (E : RoadKit.Exa Z h x ST) (V : RoadKit.Fld Z h x ST "value" "[B" v0) (C : RoadKit.Fld Z h x ST "coder" "B" c0) (K : RoadKit.Arr Z h b A .char) (hty : Typed .char A) (S : RoadKit.Sta Z h ST "COMPACT_STRINGS" "Z" (.int z)) (hz : ¬ z = 0)
    (l0 : 0 < A.slots.size) (l2 : A.slots.size ≤ 536870912) (hp : ∀ i, i < A.slots.size → ¬ 255 < cv A i) (hfr : 4 ≤ R.frames) (hlo : W + 65 ≤ R.locals) :
    Back l R p e below s args New1.yN len W (fun P a => a = #[.ref x, .ref b] ∧ P.U.heap = h ∧ P.cells + 1 ≤ R.cells ∧ P.slots + A.slots.size ≤ R.slots)
      (fun P _ v B => ∃ L, Q Z x A h v B.U.heap L ∧ B.locs = P.locs ++ L ∧ B.cells = P.cells + 1 ∧ B.slots = P.slots + A.slots.size) := by
  intro m meth c P g ig mk a X hg hsize hdg hW hn hp'
  obtain ⟨rfl, rfl, r1, r2⟩ := hp'
  have al : Z.vm.Alike P.U.vm := hZ.alike.trans X.warmed.alike
  obtain ⟨D, cfV, kV, iV, fV, hD, gV, stV, knV, obV, asV, slV⟩ := id V
  obtain ⟨D', cfC, kC, iC, fC, hD', gC, stC, -, -, asC, slC⟩ := id C
  cases hD.symm.trans hD'
  obtain ⟨D2, kD, e1, e2, e3, e4, e5⟩ := id E
  cases hD.symm.trans e1
  obtain ⟨c2, k2, i1, i2, i3, -⟩ := Cond.instantiable_spec wi
  cases e2.symm.trans i1
  cases e3.symm.trans i2
  obtain ⟨kU, u1, u2⟩ := al.2.2 _ _ e3
  have hB : Blank ST x D P.U := ⟨hD, ⟨knV, fun q hq => by rw [hq] at obV; cases obV⟩, by rw [al.findClass]; exact e2, kU, u1, by rw [u2]; exact i3, by rw [u2]; exact e5 i3⟩
  have F1 : Found ST "value" "[B" fV P.U := ⟨SBG.found_only al ⟨cfV, kV, iV, gV⟩, stV⟩
  have F2 : Found ST "coder" "B" fC P.U := ⟨SBG.found_only al ⟨cfC, kC, iC, gC⟩, stC⟩
  have hA : Ch b A P.U := ⟨⟨K.1, State.isArrayOf_alike al K.2.1, K.2.2, by omega⟩, hty⟩
  have hS : StaticIs P.U ST "COMPACT_STRINGS" "Z" (.int z) := by
    obtain ⟨cfS, iS, kS, fS, st, cS, t1, t2, t3, t4, t5, t6, t7⟩ := S
    exact StaticIs.there (s := { Z with heap := P.U.heap }) ⟨cfS, iS, kS, fS, st, cS, t1, t2, t3, t4, t5, (fun q => by rw [q] at t6; cases t6), t7⟩ al rfl
  obtain ⟨v, B, X', ⟨⟨hv, E', V', q1, q2, q3, q4, q5, q6, q7, q8, q9, q10, q11⟩, hl, hc, hs⟩, st⟩ := New1.pays x D fV fC b A z (tab_of (moved hZ hw)) hfr hlo m meth c P g ig mk _ X hg hsize hdg hW hn ⟨r1, r2, rfl, hB, F1, F2, hA, hS, hz, l0, l2, hp⟩
  have al' : Z.vm.Alike B.U.vm := hZ.alike.trans X'.warmed.alike
  have hsz : E'.slots.size = D.slots.size := by
    obtain ⟨-, -, -, kB, w1, w2, w3⟩ := q1
    obtain ⟨kB', y1, y2⟩ := al'.2.2 _ _ e3
    rw [q2.2.1] at w1
    cases w1.symm.trans y1
    rw [w3, e5 i3, y2]
  refine ⟨v, B, X', ⟨_, ⟨hv, ?_, ⟨by omega, fun y cy hy hn' => q10 y cy (by simpa using hn') hy, fun y cy hy => ?_⟩, q11, ⟨E', _, q1.1, by rw [q2.2.1]; exact e2, by rw [q2.2.1]; exact e3, by rw [q2.1]; exact obV, fun _ => by rw [hsz]; exact e5 i3⟩,
    ⟨E', cfV, kV, iV, fV, q1.1, gV, stV, by rw [q2.1]; exact knV, by rw [q2.1]; exact obV, by rw [q2.2.1]; exact asV, q3⟩, ⟨E', cfC, kC, iC, fC, q1.1, gC, stC, by rw [q2.1]; exact knV, by rw [q2.1]; exact obV, by rw [q2.2.1]; exact asC, q4⟩,
    ⟨V', ⟨q5.1, State.isArrayOf_alike al'.symm q5.2.1, q5.2.2.1⟩, q6, by rw [← al'.findClass]; exact q7, q8, fun j hj => by have := q9 j hj; rwa [Nat.zero_add] at this⟩, fun O n d w F n1 n2 => ?_⟩, hl, hc, hs⟩, st⟩
  · intro y hy
    simp only [List.mem_cons, List.not_mem_nil, or_false] at hy
    rcases hy with rfl | rfl <;> rfl
  · by_cases q : y = x
    · subst q
      cases hD.symm.trans hy
      exact ⟨E', q1.1, q2.2.1, q2.1, hsz⟩
    · exact ⟨cy, q10 y cy q hy, rfl, rfl, rfl⟩
  · obtain ⟨D3, cf, k, i, f, g1, g2, g3, g4, g5, g6, g7⟩ := F
    cases hD.symm.trans g1
    simp only [RoadKit.slotOf, g2, gV, gC, Option.map_some, Option.getD_some] at n1 n2
    exact ⟨E', cf, k, i, f, q1.1, g2, g3, by rw [q2.1]; exact g4, by rw [q2.1]; exact g5, by rw [q2.2.1]; exact g6, by rw [q2.2.2 f.slot (by simp [n1, n2])]; exact g7⟩
end StrChars.Road
namespace StrChars.Road
open Jvm Sem ClassFile Op Lib Jvm.Stand Jvm.Free Jvm.Free.XT
/-- WHAT COMES BACK, the byte[] as a list of values -/
def QA (Z : State) (x : Addr) (zn : Int32) (cs : List Int32) (h : Heap) (v : Option Value) (h' : Heap) (L : List Loc) : Prop := v = none ∧ (∀ y ∈ L, y.base = x) ∧ RoadKit.Keep h h' [x] ∧ h'.size = h.size + 1 ∧ RoadKit.Exa Z h' x ST ∧ RoadKit.Fld Z h' x ST "value" "[B" (.ref h.size) ∧ RoadKit.Fld Z h' x ST "coder" "B" (.int 0) ∧
  (∃ kb, Z.vm.findClass "[B" = some kb ∧ RoadKit.Arv Z h' h.size kb .byte zn (cs.map fun c => .int (lo8 c)) (.int 0)) ∧
  ∀ (O n d : String) (w : Value), RoadKit.Fld Z h x O n d w → RoadKit.slotOf Z O n d ≠ RoadKit.slotOf Z ST "value" "[B" → RoadKit.slotOf Z O n d ≠ RoadKit.slotOf Z ST "coder" "B" → RoadKit.Fld Z h' x O n d w
/-- **new String(chars) AT A CALL, THE ARRAYS AS LISTS**: the char[] at b holds cs, not empty, no char above 255 -/
theorem backArv {p : Program} {l : Launch} {e : Env} {R : Room} {s : State} {args : Array Value} {below : List Frame} {len W : Nat} {Z : State} {a0 : Array Value} {h : Heap} (hZ : Z.Warmed39 s.vm) (hw : ∀ d ∈ words, d.before a0 Z = true) {kI : Nat} (wi : (Jvm.Cond.instantiable ST kI).before a0 Z = true)
    {x b : Addr} {k : ClassId} {zn z : Int32} {cs : List Int32} {dv v0 c0 : Value} (E : RoadKit.Exa Z h x ST) (V : RoadKit.Fld Z h x ST "value" "[B" v0) (C : RoadKit.Fld Z h x ST "coder" "B" c0) (K : RoadKit.Arv Z h b k .char zn (cs.map Value.int) dv) (S : RoadKit.Sta Z h ST "COMPACT_STRINGS" "Z" (.int z)) (hz : ¬ z = 0)
    (hlen : zn.toNatClampNeg = cs.length) (h0 : 0 < cs.length) (hbig : cs.length ≤ 536870912) (hall : ∀ c ∈ cs, ¬ 255 < c) (hfr : 4 ≤ R.frames) (hlo : W + 65 ≤ R.locals) :
    Back l R p e below s args New1.yN len W (fun P a => a = #[.ref x, .ref b] ∧ P.U.heap = h ∧ P.cells + 1 ≤ R.cells ∧ P.slots + cs.length ≤ R.slots)
      (fun P _ v B => ∃ L, QA Z x zn cs h v B.U.heap L ∧ B.locs = P.locs ++ L ∧ B.cells = P.cells + 1 ∧ B.slots = P.slots + cs.length) := by
  obtain ⟨A, K1, K2, K3, K4, K5, K6⟩ := K
  have e : A.slots.size = cs.length := K3.trans hlen
  have hat : ∀ (i : Nat) (hi : i < cs.length), A.slots[i]? = some (.int cs[i]) := fun i hi => by rw [K5 i (by omega)]; simp [List.getD_eq_getElem?_getD, hi]
  have hcv : ∀ (i : Nat) (hi : i < cs.length), cv A i = cs[i] := fun i hi => by unfold cv; rw [hat i hi]
  have hty : Typed .char A := fun i v hv => by
    have hi : i < A.slots.size := (Array.getElem?_eq_some_iff.mp hv).1
    have q := K5 i hi
    rw [hv] at q
    rw [Option.some.inj q]
    exact K6 i hi
  refine Back.mono (back hZ hw wi E V C K1 hty S hz (by omega) (by omega) (fun i hi => by rw [hcv i (by omega)]; exact hall _ (List.getElem_mem _)) hfr hlo) (fun P a hp => ⟨hp.1, hp.2.1, hp.2.2.1, by rw [e]; exact hp.2.2.2⟩) (fun P a v B hp hq => ?_)
  obtain ⟨L, ⟨q1, q2, q3, q4, q5, q6, q7, ⟨V', v1, v2, v3, v4, v5⟩, q9⟩, hl, hc, hs⟩ := hq
  refine ⟨L, ⟨q1, q2, q3, q4, q5, q6, q7, ⟨V'.cls, v3, V', v1, rfl, by rw [v4, e, hlen], K4, fun i hi => ?_, fun i hi => ?_⟩, q9⟩, hl, hc, by rw [hs, e]⟩
  · have hi' : i < cs.length := by omega
    rw [v5 i (by omega), hcv i hi']; simp [List.getD_eq_getElem?_getD, hi']
  · have hi' : i < cs.length := by omega
    simp only [List.getD_eq_getElem?_getD, List.getElem?_map, List.getElem?_eq_getElem hi', Option.map_some, Option.getD_some]
    exact fits_lo8 _
end StrChars.Road
namespace StrChars.Road
open Jvm Sem ClassFile Op Lib Jvm.Stand Jvm.Free Jvm.Free.XT
/-- WHAT COMES BACK, in the writer's own shape -/
def QV (Z : State) (x : Addr) (N : Int32) (bs : List Int32) (h : Heap) (n0 : Nat) (v : Option Value) (h' : Heap) (L : List Loc) : Prop := v = none ∧ RoadKit.Fr n0 L ∧ RoadKit.Keep h h' [x] ∧ RoadKit.Exa Z h' x ST ∧ RoadKit.Fld Z h' x ST "coder" "B" (.int 0) ∧
  ∃ (t : Addr) (kb : ClassId), n0 ≤ t ∧ h.size ≤ t ∧ ¬ t = x ∧ RoadKit.Fld Z h' x ST "value" "[B" (.ref t) ∧ RoadKit.Arv Z h' t kb .byte N (bs.map Value.int) (.int 0)
/-- **new String(chars) AT A CALL, FOR THE WRITER**: a char[] of n known ints, each 0 to 255 -/
theorem backV {p : Program} {l : Launch} {e : Env} {R : Room} {s : State} {args : Array Value} {below : List Frame} {len W : Nat} {Z : State} {a0 : Array Value} {h : Heap} (hZ : Z.Warmed39 s.vm) (hw : ∀ d ∈ words, d.before a0 Z = true) {kI : Nat} (wi : (Jvm.Cond.instantiable ST kI).before a0 Z = true)
    {x b : Addr} {kC : ClassId} {cs bs : List Int32} {d v0 c0 : Value} {z N : Int32} {n n0 : Nat} (hx0 : n0 ≤ x) (hh0 : n0 ≤ h.size) (E : RoadKit.Exa Z h x ST) (V : RoadKit.Fld Z h x ST "value" "[B" v0) (C : RoadKit.Fld Z h x ST "coder" "B" c0) (K : RoadKit.Arv Z h b kC .char N (cs.map Value.int) d) (S : RoadKit.Sta Z h ST "COMPACT_STRINGS" "Z" (.int z)) (hz : ¬ z = 0)
    (hn : cs.length = n) (hN : N = Int32.ofNat n) (l0 : 0 < n) (l2 : n ≤ 4000) (hp : ∀ c ∈ cs, ¬ c < 0 ∧ ¬ (255 : Int32) < c) (hb : bs = cs.map (fun c => c.toInt8.toInt32)) (hfr : 4 ≤ R.frames) (hlo : W + 65 ≤ R.locals) :
    Back l R p e below s args (⟨"java/lang/String", "<init>", "([C)V"⟩ : MethodName) len W (fun P a => a = #[.ref x, .ref b] ∧ P.U.heap = h ∧ P.cells + 1 ≤ R.cells ∧ P.slots + n ≤ R.slots)
      (fun P _ v B => ∃ L, QV Z x N bs h n0 v B.U.heap L ∧ B.locs = P.locs ++ L ∧ B.cells = P.cells + 1 ∧ B.slots = P.slots + n) := by
  subst hn hN hb
  refine Back.mono (backArv hZ hw wi E V C K S hz (n32 (by omega)) l0 (by omega) (fun c hc => (hp c hc).2) hfr hlo) (fun P a hp => hp) (fun P a v B hp hq => ?_)
  obtain ⟨L, ⟨q1, q2, q3, q4, q5, q6, q7, ⟨kb, v1, v2⟩, q9⟩, hl, hc, hs⟩ := hq
  exact ⟨L, ⟨q1, fun y hy => by rw [q2 y hy]; exact hx0, q3, q5, q7, h.size, kb, hh0, Nat.le_refl _, Nat.ne_of_gt E.lt, q6, by rw [List.map_map]; exact v2⟩, hl, hc, hs⟩
end StrChars.Road
namespace StrChars
open Jvm Sem ClassFile Op Lib Jvm.Stand Jvm.Free.XT Jvm.Free.ALB Jvm.Free.JM Jvm.Free
open Jvm.Lib.Cold (StaticIs)
def hi8 (x : Int32) : Int32 := lo8 (x >>> ((8 : Int32) &&& 31))
/-- what StringUTF16.getChar makes of two bytes -/
def pairCh (u v : Int32) : Int32 := (((u &&& 255) <<< ((0 : Int32) &&& 31)) ||| ((v &&& 255) <<< ((8 : Int32) &&& 31))).toUInt32.toUInt16.toUInt32.toInt32
theorem shr0 (c : Int32) : c >>> ((0 : Int32) &&& 31) = c := by
  have e : ((0 : Int32) &&& 31) = 0 := by decide
  rw [e]
  apply Int32.toBitVec_inj.mp
  rw [Int32.toBitVec_shiftRight]
  have e1 : ((0 : Int32).toBitVec.smod 32) = 0#32 := by decide
  rw [e1, BitVec.sshiftRight_eq']
  exact BitVec.sshiftRight_zero
theorem lo8_and (x : Int32) : (lo8 x &&& 255).toBitVec.toNat = x.toBitVec.toNat % 256 := by
  have h : (lo8 x).toBitVec = (x.toBitVec.signExtend 8).signExtend 32 := by rw [lo8, Int8.toBitVec_toInt32, Int32.toBitVec_toInt8]
  rw [Int32.toBitVec_and, BitVec.toNat_and, h]
  have e : ((x.toBitVec.signExtend 8).signExtend 32).toNat % 256 = x.toBitVec.toNat % 256 := by
    rw [BitVec.toNat_signExtend]
    have hlt := x.toBitVec.isLt
    simp only [BitVec.toNat_setWidth, BitVec.toNat_signExtend]
    split <;> split <;> omega
  rw [← e]
  exact Nat.and_two_pow_sub_one_eq_mod _ 8
theorem pair_says {c : Int32} (h0 : ¬ c < 0) (h1 : ¬ 65535 < c) : pairCh (lo8 c) (hi8 c) = c := by
  rw [Int32.lt_iff_toInt_lt] at h0 h1
  have e0 : (0 : Int32).toInt = 0 := rfl
  have e1 : (65535 : Int32).toInt = 65535 := rfl
  have hc : c.toInt = c.toBitVec.toNat := by
    have := c.toBitVec.isLt
    have e : c.toInt = c.toBitVec.toInt := rfl
    rw [e] at h0 h1
    rw [e]
    rw [BitVec.toInt_eq_toNat_cond] at h0 h1 ⊢
    split at h0 <;> split <;> omega
  have hn : c.toBitVec.toNat < 65536 := by omega
  have a1 := lo8_and c
  have a2 : (hi8 c &&& 255).toBitVec.toNat = c.toBitVec.toNat / 256 := by
    rw [hi8, lo8_and]
    have e : ((8 : Int32) &&& 31) = 8 := by decide
    rw [e, Int32.toBitVec_shiftRight]
    have e2 : ((8 : Int32).toBitVec.smod 32) = 8#32 := by decide
    rw [e2, BitVec.sshiftRight_eq', BitVec.toNat_sshiftRight_of_msb_false (by rw [BitVec.msb_eq_false_iff_two_mul_lt]; omega)]
    show c.toBitVec.toNat >>> 8 % 256 = _
    rw [Nat.shiftRight_eq_div_pow]
    omega
  unfold pairCh
  apply Int32.toBitVec_inj.mp
  apply BitVec.eq_of_toNat_eq
  have f0 : ((0 : Int32) &&& 31) = 0 := by decide
  have f8 : ((8 : Int32) &&& 31) = 8 := by decide
  rw [f0, f8]
  have g : (((lo8 c &&& 255) <<< (0 : Int32)) ||| ((hi8 c &&& 255) <<< (8 : Int32))).toBitVec.toNat = c.toBitVec.toNat := by
    rw [Int32.toBitVec_or, Int32.toBitVec_shiftLeft, Int32.toBitVec_shiftLeft]
    have s0 : ((0 : Int32).toBitVec.smod 32) = 0#32 := by decide
    have s8 : ((8 : Int32).toBitVec.smod 32) = 8#32 := by decide
    rw [s0, s8, BitVec.toNat_or]
    simp only [BitVec.shiftLeft_eq', BitVec.toNat_shiftLeft, a1, a2]
    show (c.toBitVec.toNat % 256) <<< 0 % 2 ^ 32 ||| (c.toBitVec.toNat / 256) <<< 8 % 2 ^ 32 = _
    rw [Nat.shiftLeft_zero, Nat.mod_eq_of_lt (show c.toBitVec.toNat % 256 < 2 ^ 32 by omega), Nat.mod_eq_of_lt (show (c.toBitVec.toNat / 256) <<< 8 < 2 ^ 32 by rw [Nat.shiftLeft_eq]; omega), Nat.or_comm, ← Nat.shiftLeft_add_eq_or_of_lt (by omega), Nat.shiftLeft_eq]
    omega
  show BitVec.toNat (((((lo8 c &&& 255) <<< (0 : Int32)) ||| ((hi8 c &&& 255) <<< (8 : Int32))).toBitVec.setWidth 16).setWidth 32) = _
  rw [BitVec.toNat_setWidth, BitVec.toNat_setWidth, g]
  omega
end StrChars
namespace StrChars
open Jvm Sem ClassFile Op Lib Jvm.Stand Jvm.Free.XT Jvm.Free.ALB Jvm.Free.JM Jvm.Free
open Jvm.Lib.Cold (StaticIs)
theorem shr1 {n : Nat} (h : 2 * n < 2 ^ 31) : Int32.ofNat (2 * n) >>> ((1 : Int32) &&& 31) = Int32.ofNat n := by
  have e : ((1 : Int32) &&& 31) = 1 := by decide
  rw [e]
  apply Int32.toBitVec_inj.mp
  rw [Int32.toBitVec_shiftRight]
  have e1 : ((1 : Int32).toBitVec.smod 32) = 1#32 := by decide
  have hm : (BitVec.ofNat 32 (2 * n)).toNat = 2 * n := by rw [BitVec.toNat_ofNat, Nat.mod_eq_of_lt (by omega)]
  rw [e1, BitVec.sshiftRight_eq']
  apply BitVec.eq_of_toNat_eq
  show ((BitVec.ofNat 32 (2 * n)).sshiftRight 1).toNat = (BitVec.ofNat 32 n).toNat
  rw [BitVec.toNat_sshiftRight_of_msb_false (by rw [BitVec.msb_eq_false_iff_two_mul_lt, hm]; omega), hm, BitVec.toNat_ofNat, Nat.shiftRight_eq_div_pow]
  omega
/-- the array's cell V codes the n chars f 0 .. f (n - 1) by the coder cd, as the JDK does: coder 1 just where some char is above 255 -/
def Cod (cd : Int32) (n : Nat) (f : Nat → Int32) (V : Cell) : Prop := (cd = 0 ∧ V.slots.size = n ∧ ∀ j, j < n → V.slots[j]? = some (.int (lo8 (f j))) ∧ ¬ 255 < f j) ∨ (cd = 1 ∧ V.slots.size = 2 * n ∧ (∀ j, j < n → V.slots[2 * j]? = some (.int (lo8 (f j))) ∧ V.slots[2 * j + 1]? = some (.int (hi8 (f j)))) ∧ ∃ j, j < n ∧ 255 < f j)
theorem Cod.cd {cd : Int32} {n : Nat} {f : Nat → Int32} {V : Cell} (h : Cod cd n f V) : cd = 0 ∨ cd = 1 := h.imp (fun q => q.1) fun q => q.1
theorem Cod.len {cd : Int32} {n : Nat} {f : Nat → Int32} {V : Cell} (h : Cod cd n f V) (hs : V.slots.size < 2 ^ 31) : Int32.ofNat V.slots.size >>> (cd &&& 31) = Int32.ofNat n := by
  rcases h with ⟨rfl, h, -⟩ | ⟨rfl, h, -⟩
  · rw [shr0, h]
  · rw [h, shr1 (by omega)]
/-- **x is a String of the n chars f 0 .. f (n - 1)**, Latin-1 or UTF-16; its array at t has the cell V -/
def Txt (x t : Addr) (V : Cell) (cd : Int32) (n : Nat) (f : Nat → Int32) (U : State) : Prop := Exact "java/lang/String" x U ∧ Has x "java/lang/String" "value" "[B" (.ref t) U ∧ Has x "java/lang/String" "coder" "B" (.int cd) U ∧ XT.Arr .byte t V U ∧ Cod cd n f V ∧ ∀ j, j < n → ¬ f j < 0 ∧ ¬ 65535 < f j
theorem Txt.mv {x t : Addr} {V : Cell} {cd : Int32} {n : Nat} {f : Nat → Int32} {U U' : State} (h : Txt x t V cd n f U) (hal : U.vm.Alike U'.vm) (hh : U'.heap = U.heap) : Txt x t V cd n f U' := ⟨h.1.mv hal hh, h.2.1.mv hal hh, h.2.2.1.mv hal hh, h.2.2.2.1.mv hal hh, h.2.2.2.2⟩
namespace Cdr
def yN : MethodName := ⟨"java/lang/String", "coder", "()B"⟩
abbrev yB : ByteArray := jdk_42_method_152_code
theorem d0 : decode yB 0 = .ok (.getstatic 38, 3) := by decide +kernel
theorem d3 : decode yB 3 = .ok (.ifCond (.eq) 10, 3) := by decide +kernel
theorem d6 : decode yB 6 = .ok (.aload_n 0, 1) := by decide +kernel
theorem d7 : decode yB 7 = .ok (.getfield 15, 3) := by decide +kernel
theorem d10 : decode yB 10 = .ok (.goto 4, 3) := by decide +kernel
theorem d14 : decode yB 14 = .ok (.ireturn, 1) := by decide +kernel
def site : List Cond := [.fieldLink "java/lang/String" 38 "java/lang/String" "COMPACT_STRINGS" "Z", .fieldLink "java/lang/String" 15 "java/lang/String" "coder" "B"]
def tab : Cond := tabOf yN yB 1 (some .byte) site
def P (x : Addr) (cd z : Int32) (args : Array Value) (s : State) : Prop := args = #[.ref x] ∧ Has x "java/lang/String" "coder" "B" (.int cd) s ∧ (cd = 0 ∨ cd = 1) ∧ StaticIs s "java/lang/String" "COMPACT_STRINGS" "Z" (.int z) ∧ ¬ z = 0
def E (cd : Int32) (r : Option Value) (s u : State) : Prop := XT.PureE (some (.int cd)) r s u
theorem law (l : Launch) (x : Addr) (cd z : Int32) : Law l yN 1 0 0 0 yB 1 (some .byte) site (P x cd z) (E cd) [] 0 0 := by
  refine Law.of_walk (plainFor_of_name (by decide +kernel)) (by decide +kernel) (by decide +kernel) (by decide) (fun _ _ h => by rw [h.1]; rfl) (fun _ U U' hal hh h => ⟨h.1, h.2.1.mv hal hh, h.2.2.1, h.2.2.2.1.there hal hh, h.2.2.2.2⟩) (fun r U U' V V' h1 hal h2 h => XT.PureE.mv r U U' V V' h1 hal h2 h) ?_
  intro p e s m args below meth c s₁ X0 hexec hbytes hml hret hlk hnm hown hh0 W hP
  obtain ⟨rfl, hx, hc, s1, hz⟩ := hP
  have c1 : Steps p.tables e below (s₁.setTop (entryFrame m #[.ref x] 1)) (s₁.setTop (mkF m 0 #[.val (.ref x)] [])) := entry rfl
  obtain ⟨T2, X2, q2, st2⟩ := X0.sget hexec hown (wk W (.fieldLink "java/lang/String" 38 "java/lang/String" "COMPACT_STRINGS" "Z")) s1 (fun _ _ h => by rw [hh0]; exact h) (g := (mkF m 0 #[.val (.ref x)] [])) rfl (hb hbytes d0)
  have hh2 := q2.trans hh0
  have c3 : Steps p.tables e below (s₁.setTop (entryFrame m #[.ref x] 1)) (T2.setTop (mkF m 7 #[.val (.ref x)] [.ref x])) := (c1.trans (st2 _ (Steps.refl _))).trans (by
    refine XS.ifNo X2.here hexec rfl (hb hbytes d3) rfl (i0_eq_f hz) ?_
    refine XS.aloadN X2.here hexec rfl (hb hbytes d6) rfl rfl ?_
    exact Steps.refl _)
  obtain ⟨T4, X4, q4, st4⟩ := X2.hget hexec hown (wk W (.fieldLink "java/lang/String" 15 "java/lang/String" "coder" "B")) (hx.mv X2.warmed.alike hh2) (g := (mkF m 7 #[.val (.ref x)] [.ref x])) rfl (rest := []) rfl (hb hbytes d7)
  have c5 : Steps p.tables e below (s₁.setTop (entryFrame m #[.ref x] 1)) (T4.setTop (mkF m 14 #[.val (.ref x)] [.int cd])) := (c3.trans (st4 _ (Steps.refl _))).trans (by
    refine XS.goto X4.here hexec rfl (pc0 := 10) rfl (hb hbytes d10) (by decide) rfl ?_
    exact Steps.refl _)
  exact ⟨T4, some (.int cd), _, _, _, X4, rfl, rfl, rfl, (fun h => by cases h), ⟨rfl, q4.trans hh2⟩, fun fs hl => c5.trans (X4.ireturnOut hexec hret (by rcases hc with rfl | rfl <;> rfl) (Or.inr (Or.inr (Or.inl rfl))) (hb hbytes d14) hl)⟩
end Cdr
namespace Len
def yN : MethodName := ⟨"java/lang/String", "length", "()I"⟩
abbrev yB : ByteArray := jdk_42_method_54_code
theorem d0 : decode yB 0 = .ok (.aload_n 0, 1) := by decide +kernel
theorem d1 : decode yB 1 = .ok (.getfield 9, 3) := by decide +kernel
theorem d4 : decode yB 4 = .ok (.arraylength, 1) := by decide +kernel
theorem d5 : decode yB 5 = .ok (.aload_n 0, 1) := by decide +kernel
theorem d6 : decode yB 6 = .ok (.invokevirtual 335, 3) := by decide +kernel
theorem d9 : decode yB 9 = .ok (.ishr, 1) := by decide +kernel
theorem d10 : decode yB 10 = .ok (.ireturn, 1) := by decide +kernel
def site : List Cond := [.fieldLink "java/lang/String" 9 "java/lang/String" "value" "[B", Cdr.tab] ++ virtW "java/lang/String" 335 "java/lang/String" Cdr.yN Cdr.yN
def tab : Cond := tabOf yN yB 1 (some .int) site
def P (x t : Addr) (V : Cell) (cd : Int32) (n : Nat) (f : Nat → Int32) (z : Int32) (args : Array Value) (s : State) : Prop := args = #[.ref x] ∧ Txt x t V cd n f s ∧ StaticIs s "java/lang/String" "COMPACT_STRINGS" "Z" (.int z) ∧ ¬ z = 0
def E (n : Nat) (r : Option Value) (s u : State) : Prop := XT.PureE (some (.int (Int32.ofNat n))) r s u
/-- length() of a String of n chars, in either coding -/
theorem law (l : Launch) (x t : Addr) (V : Cell) (cd : Int32) (n : Nat) (f : Nat → Int32) (z : Int32) : Law l yN 1 0 1 13 yB 1 (some .int) site (P x t V cd n f z) (E n) [] 0 0 := by
  refine Law.of_walk (plainFor_of_name (by decide +kernel)) (by decide +kernel) (by decide +kernel) (by decide) (fun _ _ h => by rw [h.1]; rfl) (fun _ U U' hal hh h => ⟨h.1, h.2.1.mv hal hh, h.2.2.1.there hal hh, h.2.2.2⟩) (fun r U U' V V' h1 hal h2 h => XT.PureE.mv r U U' V V' h1 hal h2 h) ?_
  intro p e s m args below meth c s₁ X0 hexec hbytes hml hret hlk hnm hown hh0 W hP
  obtain ⟨rfl, hx, s1, hz⟩ := hP
  have v31 := hx.2.2.2.1.2.2.2
  have c1 : Steps p.tables e below (s₁.setTop (entryFrame m #[.ref x] 1)) (s₁.setTop (mkF m 1 #[.val (.ref x)] [.ref x])) := Steps.trans (entry rfl) (by
    show Steps p.tables e below (s₁.setTop (mkF m 0 #[.val (.ref x)] [])) _
    refine XS.aloadN X0.here hexec rfl (hb hbytes d0) rfl rfl ?_
    exact Steps.refl _)
  obtain ⟨T2, X2, q2, st2⟩ := X0.hget hexec hown (wk W (.fieldLink "java/lang/String" 9 "java/lang/String" "value" "[B")) (hx.mv X0.warmed.alike hh0).2.1 (g := (mkF m 1 #[.val (.ref x)] [.ref x])) rfl (rest := []) rfl (hb hbytes d1)
  have hh2 := q2.trans hh0
  have hx2 := hx.mv X2.warmed.alike hh2
  have c3 : Steps p.tables e below (s₁.setTop (entryFrame m #[.ref x] 1)) (T2.setTop (mkF m 6 #[.val (.ref x)] [.ref x, .int (Int32.ofNat V.slots.size)])) := (c1.trans (st2 _ (Steps.refl _))).trans (by
    refine X2.alen hexec hx2.2.2.2.1 rfl rfl (hb hbytes d4) ?_
    refine XS.aloadN X2.here hexec rfl (hb hbytes d5) rfl rfl ?_
    exact Steps.refl _)
  obtain ⟨v4, T4, X4, E4, g4⟩ := X2.callV hexec (Cdr.law l x cd z) hown (wks W (virtW "java/lang/String" 335 "java/lang/String" Cdr.yN Cdr.yN)) rfl (by decide) (wk W Cdr.tab) (W := 1) (Nat.le_of_ble_eq_true rfl) (Nat.le_of_ble_eq_true rfl) (Nat.le_refl _) (Nat.le_refl _) (hx2.1.fc X2.warmed.alike) hx2.1.is (g := (mkF m 6 #[.val (.ref x)] [.ref x, .int (Int32.ofNat V.slots.size)])) rfl (by rw [hml]; rfl) c3 (argsL := []) (rest := [.int (Int32.ofNat V.slots.size)]) rfl rfl (by show 2 * 0 + (1 + 0) ≤ _; decide) (hb hbytes d6) (⟨rfl, hx2.2.2.1, hx.2.2.2.2.1.cd, s1.there X2.warmed.alike hh2, hz⟩)
  obtain ⟨rfl, q4⟩ := E4
  have c5 : Steps p.tables e below (s₁.setTop (entryFrame m #[.ref x] 1)) (T4.setTop (mkF m 10 #[.val (.ref x)] [.int (Int32.ofNat V.slots.size >>> (cd &&& 31))])) := Steps.trans g4 (by
    refine ishr X4.here hexec rfl (hb hbytes d9) rfl ?_
    exact Steps.refl _)
  rw [hx.2.2.2.2.1.len v31] at c5
  exact ⟨T4, some (.int (Int32.ofNat n)), _, _, _, X4, rfl, rfl, rfl, (fun h => by cases h), ⟨rfl, q4.trans hh2⟩, fun fs hl => c5.trans (X4.ireturnOut hexec hret rfl (Or.inl rfl) (hb hbytes d10) hl)⟩
theorem pays {l : Launch} {R : Room} {p : Program} {e : Env} {below : List Frame} {s : State} {sargs : Array Value} {len W : Nat} (x t : Addr) (V : Cell) (cd : Int32) (n : Nat) (f : Nat → Int32) (z : Int32) (htab : tab.before sargs s = true) (hfr : 2 ≤ R.frames) (hlo : W + 25 ≤ R.locals) :
    Back l R p e below s sargs yN len W (fun A₁ a₁ => A₁.cells + 0 ≤ R.cells ∧ A₁.slots + 0 ≤ R.slots ∧ P x t V cd n f z a₁ A₁.U) (fun A₁ _ v₁ B₁ => E n v₁ A₁.U B₁.U ∧ B₁.locs = A₁.locs ++ [] ∧ B₁.cells = A₁.cells + 0 ∧ B₁.slots = A₁.slots + 0) :=
  (law l x t V cd n f z).pays htab hfr (by omega)
end Len
end StrChars
namespace StrChars.Road
open Jvm Sem ClassFile Op Lib Jvm.Stand Jvm.Free Jvm.Free.XT
open Jvm.Lib.Cold (StaticIs)
theorem consq {a : Array Value} {s : State} {c : Jvm.Cond} {L : List Jvm.Cond} (h0 : c.before a s = true) (h : ∀ w ∈ L, w.before a s = true) : ∀ w ∈ c :: L, w.before a s = true := fun w hw => (List.mem_cons.mp hw).elim (fun e => e ▸ h0) (h w)
/-- the words of String.length(), either coding -/
abbrev wordsLen : List Jvm.Cond := [.code Len.yN Len.yB 1 (some .int), .initialized ST, .fieldLink ST 9 ST "value" "[B", .fieldLink ST 38 ST "COMPACT_STRINGS" "Z", .fieldLink ST 15 ST "coder" "B", .code Cdr.yN Cdr.yB 1 (some .byte), .methodLink ST 335 Cdr.yN, .declares Cdr.yN, .selects ST Cdr.yN Cdr.yN, .instanceMethod Cdr.yN]
theorem tabLen_of {a : Array Value} {s : State} (h : ∀ w ∈ wordsLen, w.before a s = true) : Len.tab.before a s = true := by
  have hc : Cdr.tab.before a s = true := unparts (wk h (.code Cdr.yN Cdr.yB 1 (some .byte))) (wks h (.initialized Cdr.yN.cls :: Cdr.site))
  have q := consq hc h
  exact unparts (wk q (.code Len.yN Len.yB 1 (some .int))) (wks q (.initialized Len.yN.cls :: Len.site))
theorem movedLen {Z s : State} {a0 args : Array Value} (hZ : Z.Warmed39 s.vm) (hw : ∀ d ∈ wordsLen, d.before a0 Z = true) : ∀ d ∈ wordsLen, d.before args s = true := fun d hd => by
  have q := hw d hd
  have t : ∀ d ∈ wordsLen, d = .arrayClass .byte ∨ (d.onTables && d.keepsFace) = true := by decide +kernel
  rcases t d hd with rfl | t
  · exact RoadKit.mvA hZ q
  · exact RoadKit.mv hZ q t
/-- the bytes of the chars cs, low before high -/
def wideBytes : List Int32 → List Value
  | [] => []
  | c :: cs => .int (lo8 c) :: .int (hi8 c) :: wideBytes cs
theorem wide_lo (d : Value) : ∀ (cs : List Int32) (j : Nat), j < cs.length → (wideBytes cs).getD (2 * j) d = .int (lo8 (cs.getD j 0))
  | [], j, h => absurd h (Nat.not_lt_zero j)
  | c :: cs, 0, _ => rfl
  | c :: cs, j + 1, h => by
    have q := wide_lo d cs j (by simpa using h)
    rw [show 2 * (j + 1) = 2 * j + 1 + 1 from by omega]
    simpa [wideBytes] using q
theorem wide_hi (d : Value) : ∀ (cs : List Int32) (j : Nat), j < cs.length → (wideBytes cs).getD (2 * j + 1) d = .int (hi8 (cs.getD j 0))
  | [], j, h => absurd h (Nat.not_lt_zero j)
  | c :: cs, 0, _ => rfl
  | c :: cs, j + 1, h => by
    have q := wide_hi d cs j (by simpa using h)
    rw [show 2 * (j + 1) + 1 = 2 * j + 1 + 1 + 1 from by omega]
    simpa [wideBytes] using q
theorem low_at (d : Value) (cs : List Int32) (j : Nat) (h : j < cs.length) : (cs.map fun c => Value.int (lo8 c)).getD j d = .int (lo8 (cs.getD j 0)) := by
  simp [List.getD_eq_getElem?_getD, h]
/-- an array of N2 bytes vs codes the chars cs by the coder cd -/
def CodA (cs : List Int32) (cd N2 : Int32) (vs : List Value) : Prop := (cd = 0 ∧ N2 = Int32.ofNat cs.length ∧ vs = (cs.map fun c => Value.int (lo8 c)) ∧ ∀ c ∈ cs, ¬ 255 < c) ∨ (cd = 1 ∧ N2 = Int32.ofNat (2 * cs.length) ∧ vs = wideBytes cs ∧ ∃ c ∈ cs, 255 < c)
theorem CodA.cod {cs : List Int32} {cd N2 : Int32} {vs : List Value} {V : Cell} (h : CodA cs cd N2 vs) (hn : 2 * cs.length < 2 ^ 31) (hs : V.slots.size = N2.toNatClampNeg) (hv : RoadKit.Has V vs (.int 0)) : Cod cd cs.length (fun j => cs.getD j 0) V := by
  rcases h with ⟨rfl, rfl, rfl, h⟩ | ⟨rfl, rfl, rfl, c, hc, hw⟩
  · rw [n32 (by omega)] at hs
    exact Or.inl ⟨rfl, hs, fun j hj => ⟨by rw [hv j (by omega), low_at _ _ _ hj], by
      have e : cs.getD j 0 = cs[j] := by simp [List.getD_eq_getElem?_getD, hj]
      show ¬ 255 < cs.getD j 0
      rw [e]; exact h _ (List.getElem_mem _)⟩⟩
  · rw [n32 (by omega)] at hs
    obtain ⟨j, hj, rfl⟩ := List.getElem_of_mem hc
    exact Or.inr ⟨rfl, hs, fun j hj => ⟨by rw [hv _ (by omega), wide_lo _ _ _ hj], by rw [hv _ (by omega), wide_hi _ _ _ hj]⟩, j, hj, by
      have e : cs.getD j 0 = cs[j] := by simp [List.getD_eq_getElem?_getD, hj]
      show 255 < cs.getD j 0
      rw [e]; exact hw⟩
/-- an object of exactly java/lang/String, its two fields found: as the laws ask it -/
theorem strObj {Z U : State} {a0 : Array Value} {kI : Nat} (wi : (Jvm.Cond.instantiable ST kI).before a0 Z = true) (al : Z.vm.Alike U.vm) {x : Addr} {v0 c0 : Value} (E : RoadKit.Exa Z U.heap x ST) (V : RoadKit.Fld Z U.heap x ST "value" "[B" v0) (C : RoadKit.Fld Z U.heap x ST "coder" "B" c0) :
    ∃ (D : Cell) (fV fC : Field), Blank ST x D U ∧ Found ST "value" "[B" fV U ∧ Found ST "coder" "B" fC U ∧ D.slots[fV.slot]? = some v0 ∧ D.slots[fC.slot]? = some c0 ∧ RoadKit.slotOf Z ST "value" "[B" = fV.slot ∧ RoadKit.slotOf Z ST "coder" "B" = fC.slot := by
  obtain ⟨D, cfV, kV, iV, fV, hD, gV, stV, knV, obV, asV, slV⟩ := V
  obtain ⟨D', cfC, kC, iC, fC, hD', gC, stC, -, -, asC, slC⟩ := C
  cases hD.symm.trans hD'
  obtain ⟨D2, kD, e1, e2, e3, e4, e5⟩ := E
  cases hD.symm.trans e1
  obtain ⟨c2, k2, i1, i2, i3, -⟩ := Cond.instantiable_spec wi
  cases e2.symm.trans i1
  cases e3.symm.trans i2
  obtain ⟨kU, u1, u2⟩ := al.2.2 _ _ e3
  exact ⟨D, fV, fC, ⟨hD, ⟨knV, fun q hq => by rw [hq] at obV; cases obV⟩, by rw [al.findClass]; exact e2, kU, u1, by rw [u2]; exact i3, by rw [u2]; exact e5 i3⟩, ⟨SBG.found_only al ⟨cfV, kV, iV, gV⟩, stV⟩, ⟨SBG.found_only al ⟨cfC, kC, iC, gC⟩, stC⟩, slV, slC, by simp [RoadKit.slotOf, gV], by simp [RoadKit.slotOf, gC]⟩
theorem sta_is {Z U : State} (al : Z.vm.Alike U.vm) {C n d : String} {v : Value} (S : RoadKit.Sta Z U.heap C n d v) : StaticIs U C n d v := by
  obtain ⟨cfS, iS, kS, fS, st, cS, t1, t2, t3, t4, t5, t6, t7⟩ := S
  exact StaticIs.there (s := { Z with heap := U.heap }) ⟨cfS, iS, kS, fS, st, cS, t1, t2, t3, t4, t5, (fun q => by rw [q] at t6; cases t6), t7⟩ al rfl
/-- **length() OF SUCH A STRING** -/
theorem lenW {p : Program} {l : Launch} {e : Env} {R : Room} {s : State} {args : Array Value} {below : List Frame} {len W : Nat} {Z : State} {a0 : Array Value} {h : Heap} (hZ : Z.Warmed39 s.vm) (hw : ∀ d ∈ wordsLen, d.before a0 Z = true) {kI : Nat} (wi : (Jvm.Cond.instantiable ST kI).before a0 Z = true)
    {x t : Addr} {kb : ClassId} {cs : List Int32} {cd N2 z : Int32} {vs : List Value} (E : RoadKit.Exa Z h x ST) (V : RoadKit.Fld Z h x ST "value" "[B" (.ref t)) (C : RoadKit.Fld Z h x ST "coder" "B" (.int cd)) (K : RoadKit.Arv Z h t kb .byte N2 vs (.int 0)) (hc : CodA cs cd N2 vs) (hb : ∀ c ∈ cs, ¬ c < 0 ∧ ¬ (65535 : Int32) < c)
    (S : RoadKit.Sta Z h ST "COMPACT_STRINGS" "Z" (.int z)) (hz : ¬ z = 0) (l2 : cs.length ≤ 4000) (hfr : 2 ≤ R.frames) (hlo : W + 25 ≤ R.locals) :
    Back l R p e below s args (⟨"java/lang/String", "length", "()I"⟩ : MethodName) len W (fun P a => a = #[.ref x] ∧ P.U.heap = h ∧ P.cells + 0 ≤ R.cells ∧ P.slots + 0 ≤ R.slots)
      (fun P _ v B => ∃ L, (v = some (.int (Int32.ofNat cs.length)) ∧ L = [] ∧ B.U.heap = h) ∧ B.locs = P.locs ++ L ∧ B.cells = P.cells + 0 ∧ B.slots = P.slots + 0) := by
  obtain ⟨A, K1, K2, K3, K4, K5, K6⟩ := K
  have hcod := hc.cod (by omega) K3 K5
  intro m meth c P g ig mk a X hg hsize hdg hW hn hp'
  obtain ⟨rfl, rfl, r1, r2⟩ := hp'
  have al : Z.vm.Alike P.U.vm := hZ.alike.trans X.warmed.alike
  obtain ⟨D, fV, fC, hB, F1, F2, g1, g2, -, -⟩ := strObj wi al E V C
  have hx : Txt x t A cd cs.length (fun j => cs.getD j 0) P.U := ⟨⟨_, hB.2.2.1, D, hB.1, rfl, by cases q : D.vm <;> first | rfl | exact absurd q (hB.2.1.2 _)⟩, Has.of hB F1 g1, Has.of hB F2 g2, ⟨K1.1, State.isArrayOf_alike al K1.2.1, K1.2.2, by rcases hcod with ⟨-, q, -⟩ | ⟨-, q, -⟩ <;> omega⟩, hcod, fun j hj => by
    have e : cs.getD j 0 = cs[j] := by simp [List.getD_eq_getElem?_getD, hj]
    show ¬ cs.getD j 0 < 0 ∧ ¬ 65535 < cs.getD j 0
    rw [e]; exact hb _ (List.getElem_mem _)⟩
  obtain ⟨v, B, X', ⟨⟨hv, hh⟩, hl, hk, hs⟩, st⟩ := Len.pays x t A cd cs.length (fun j => cs.getD j 0) z (tabLen_of (movedLen hZ hw)) hfr hlo m meth c P g ig mk _ X hg hsize hdg hW hn ⟨r1, r2, rfl, hx, sta_is al S, hz⟩
  exact ⟨v, B, X', ⟨[], ⟨hv, rfl, hh⟩, hl, hk, hs⟩, st⟩
end StrChars.Road
namespace StrChars
open Jvm Sem ClassFile Op Lib Jvm.Stand Jvm.Free.XT Jvm.Free.ALB Jvm.Free.JM Jvm.Free
open Jvm.Lib.Cold (StaticIs)
/-- what place i of a byte[]'s cell holds -/
def yv (A : Cell) (i : Nat) : Int32 := match A.slots[i]? with | some (.int x) => x | _ => 0
theorem yv_get {a : Addr} {A : Cell} {U : State} (h : XT.Arr .byte a A U) (ht : Typed .byte A) {i : Nat} (hi : i < A.slots.size) : A.slots[i]? = some (.int (yv A i)) := by
  have e := Array.getElem?_eq_getElem hi
  have f := ht i _ e
  unfold yv; rw [e]
  generalize A.slots[i] = v at f
  cases v <;> simp [fits] at f ⊢
/-- the two arrays are equal, place for place -/
def EqC (A B : Cell) : Prop := A.slots.size = B.slots.size ∧ ∀ i, i < A.slots.size → yv A i = yv B i
/-- a boolean that says whether p -/
def Says01 (q : Prop) (r : Option Value) (s u : State) : Prop := ∃ v : Int32, r = some (.int v) ∧ u.heap = s.heap ∧ ((v = 1 ∧ q) ∨ (v = 0 ∧ ¬ q))
theorem Says01.mv {q : Prop} : ∀ r (U U' V V' : State), U'.heap = U.heap → V.vm.Alike V'.vm → V'.heap = V.heap → Says01 q r U V → Says01 q r U' V' :=
  fun r U U' V V' h1 _ h2 ⟨v, a, b, c⟩ => ⟨v, a, by rw [h1, h2]; exact b, c⟩
namespace LEq
def yN : MethodName := ⟨"java/lang/StringLatin1", "equals", "([B[B)Z"⟩
abbrev yB : ByteArray := jdk_43_method_13_code
theorem d0 : decode yB 0 = .ok (.aload_n 0, 1) := by decide +kernel
theorem d1 : decode yB 1 = .ok (.arraylength, 1) := by decide +kernel
theorem d2 : decode yB 2 = .ok (.aload_n 1, 1) := by decide +kernel
theorem d3 : decode yB 3 = .ok (.arraylength, 1) := by decide +kernel
theorem d4 : decode yB 4 = .ok (.if_icmp (.ne) 30, 3) := by decide +kernel
theorem d7 : decode yB 7 = .ok (.iconst 0, 1) := by decide +kernel
theorem d8 : decode yB 8 = .ok (.istore_n 2, 1) := by decide +kernel
theorem d9 : decode yB 9 = .ok (.iload_n 2, 1) := by decide +kernel
theorem d10 : decode yB 10 = .ok (.aload_n 0, 1) := by decide +kernel
theorem d11 : decode yB 11 = .ok (.arraylength, 1) := by decide +kernel
theorem d12 : decode yB 12 = .ok (.if_icmp (.ge) 20, 3) := by decide +kernel
theorem d15 : decode yB 15 = .ok (.aload_n 0, 1) := by decide +kernel
theorem d16 : decode yB 16 = .ok (.iload_n 2, 1) := by decide +kernel
theorem d17 : decode yB 17 = .ok (.baload, 1) := by decide +kernel
theorem d18 : decode yB 18 = .ok (.aload_n 1, 1) := by decide +kernel
theorem d19 : decode yB 19 = .ok (.iload_n 2, 1) := by decide +kernel
theorem d20 : decode yB 20 = .ok (.baload, 1) := by decide +kernel
theorem d21 : decode yB 21 = .ok (.if_icmp (.eq) 5, 3) := by decide +kernel
theorem d24 : decode yB 24 = .ok (.iconst 0, 1) := by decide +kernel
theorem d25 : decode yB 25 = .ok (.ireturn, 1) := by decide +kernel
theorem d26 : decode yB 26 = .ok (.iinc 2 1, 3) := by decide +kernel
theorem d29 : decode yB 29 = .ok (.goto (-20), 3) := by decide +kernel
theorem d32 : decode yB 32 = .ok (.iconst 1, 1) := by decide +kernel
theorem d33 : decode yB 33 = .ok (.ireturn, 1) := by decide +kernel
theorem d34 : decode yB 34 = .ok (.iconst 0, 1) := by decide +kernel
theorem d35 : decode yB 35 = .ok (.ireturn, 1) := by decide +kernel
def site : List Cond := []
def tab : Cond := tabOf yN yB 3 (some .boolean) site
def P (a : Addr) (A : Cell) (b : Addr) (B : Cell) (args : Array Value) (s : State) : Prop := args = #[.ref a, .ref b] ∧ XT.Arr .byte a A s ∧ Typed .byte A ∧ XT.Arr .byte b B s ∧ Typed .byte B
/-- whether two byte[] are equal, place for place -/
theorem law (l : Launch) (a : Addr) (A : Cell) (b : Addr) (B : Cell) : Law l yN 2 2 0 0 yB 3 (some .boolean) site (P a A b B) (Says01 (EqC A B)) [] 0 0 := by
  refine Law.of_walk (plainFor_of_name (by decide +kernel)) (by decide +kernel) (by decide +kernel) (by decide) (fun _ _ h => by rw [h.1]; rfl) (fun _ U U' hal hh h => ⟨h.1, h.2.1.mv hal hh, h.2.2.1, h.2.2.2.1.mv hal hh, h.2.2.2.2⟩) (fun r U U' V V' h1 hal h2 h => Says01.mv r U U' V V' h1 hal h2 h) ?_
  intro p e s m args below meth c s₁ X0 hexec hbytes hml hret hlk hnm hown hh0 W hP
  obtain ⟨rfl, hA, tA, hB, tB⟩ := hP
  have a31 := hA.2.2.2
  have b31 := hB.2.2.2
  have hA0 := hA.mv X0.warmed.alike hh0
  have hB0 := hB.mv X0.warmed.alike hh0
  have c1 : Steps p.tables e below (s₁.setTop (entryFrame m #[.ref a, .ref b] 3)) (s₁.setTop (mkF m 0 #[.val (.ref a), .val (.ref b), .unset] [])) := entry rfl
  have c2 : Steps p.tables e below (s₁.setTop (entryFrame m #[.ref a, .ref b] 3)) (s₁.setTop (mkF m 4 #[.val (.ref a), .val (.ref b), .unset] [.int (Int32.ofNat B.slots.size), .int (Int32.ofNat A.slots.size)])) := c1.trans (by
    refine XS.aloadN X0.here hexec rfl (hb hbytes d0) rfl rfl ?_
    refine X0.alen hexec hA0 rfl rfl (hb hbytes d1) ?_
    refine XS.aloadN X0.here hexec rfl (hb hbytes d2) rfl rfl ?_
    refine X0.alen hexec hB0 rfl rfl (hb hbytes d3) ?_
    exact Steps.refl _)
  by_cases hs : A.slots.size = B.slots.size
  · have c3 : Steps p.tables e below (s₁.setTop (entryFrame m #[.ref a, .ref b] 3)) (s₁.setTop (mkF m 9 #[.val (.ref a), .val (.ref b), .val (.int 0)] [])) := c2.trans (by
      refine XS.icmpNo X0.here hexec rfl (hb hbytes d4) rfl (ii_ne_f (by rw [hs])) ?_
      refine iconstV X0.here hexec rfl 0 (hb hbytes d7) (by decide) ?_
      refine XS.istoreN X0.here hexec rfl (hb hbytes d8) rfl rfl ?_
      exact Steps.refl _)
    have loop : ∀ (r i : Nat), i + r = A.slots.size → (∀ j, j < i → yv A j = yv B j) → Steps p.tables e below (s₁.setTop (entryFrame m #[.ref a, .ref b] 3)) (s₁.setTop (mkF m 9 #[.val (.ref a), .val (.ref b), .val (.int (Int32.ofNat i))] [])) → ∃ (pc : Nat) (Ls : Array Slot) (v : Int32), (pc = 25 ∨ pc = 33) ∧ ((v = 1 ∧ EqC A B) ∨ (v = 0 ∧ ¬ EqC A B)) ∧ Steps p.tables e below (s₁.setTop (entryFrame m #[.ref a, .ref b] 3)) (s₁.setTop (mkF m pc Ls [.int v])) := by
      intro r
      induction r with
      | zero =>
        intro i hi he cl
        exact ⟨33, _, 1, Or.inr rfl, Or.inl ⟨rfl, hs, fun j hj => he j (by omega)⟩, cl.trans (by
          refine XS.iloadN X0.here hexec rfl (hb hbytes d9) rfl ?_
          refine XS.aloadN X0.here hexec rfl (hb hbytes d10) rfl rfl ?_
          refine X0.alen hexec hA0 rfl rfl (hb hbytes d11) ?_
          refine XS.icmpYes X0.here hexec rfl (pc0 := 12) rfl (hb hbytes d12) rfl (ii_ge_t (nlt32 (by omega) (by omega))) (by decide) rfl ?_
          refine iconstV X0.here hexec rfl 1 (hb hbytes d32) (by decide) ?_
          exact Steps.refl _)⟩
      | succ r ih =>
        intro i hi he cl
        have c4 : Steps p.tables e below (s₁.setTop (entryFrame m #[.ref a, .ref b] 3)) (s₁.setTop (mkF m 21 #[.val (.ref a), .val (.ref b), .val (.int (Int32.ofNat i))] [.int (yv B i), .int (yv A i)])) := cl.trans (by
          refine XS.iloadN X0.here hexec rfl (hb hbytes d9) rfl ?_
          refine XS.aloadN X0.here hexec rfl (hb hbytes d10) rfl rfl ?_
          refine X0.alen hexec hA0 rfl rfl (hb hbytes d11) ?_
          refine XS.icmpNo X0.here hexec rfl (hb hbytes d12) rfl (ii_ge_f (lt32 (by omega) (by omega))) ?_
          refine XS.aloadN X0.here hexec rfl (hb hbytes d15) rfl rfl ?_
          refine XS.iloadN X0.here hexec rfl (hb hbytes d16) rfl ?_
          refine X0.aget hexec hA0 rfl (yv_get hA tA (i := i) (by omega)) rfl rfl (hb hbytes d17) ?_
          refine XS.aloadN X0.here hexec rfl (hb hbytes d18) rfl rfl ?_
          refine XS.iloadN X0.here hexec rfl (hb hbytes d19) rfl ?_
          refine X0.aget hexec hB0 rfl (yv_get hB tB (i := i) (by omega)) rfl rfl (hb hbytes d20) ?_
          exact Steps.refl _)
        by_cases hv : yv A i = yv B i
        · have c5 : Steps p.tables e below (s₁.setTop (entryFrame m #[.ref a, .ref b] 3)) (s₁.setTop (mkF m 9 #[.val (.ref a), .val (.ref b), .val (.int (Int32.ofNat i + 1))] [])) := c4.trans (by
            refine XS.icmpYes X0.here hexec rfl (pc0 := 21) rfl (hb hbytes d21) rfl (ii_eq_t hv) (by decide) rfl ?_
            refine iincV X0.here hexec rfl 1 (hb hbytes d26) (by decide) rfl rfl ?_
            refine XS.goto X0.here hexec rfl (pc0 := 29) rfl (hb hbytes d29) (by decide) rfl ?_
            exact Steps.refl _)
          rw [succ32] at c5
          exact ih (i + 1) (by omega) (fun j hj => by
            by_cases e : j = i
            · rw [e]; exact hv
            · exact he j (by omega)) c5
        · exact ⟨25, _, 0, Or.inl rfl, Or.inr ⟨rfl, fun q => hv (q.2 i (by omega))⟩, c4.trans (by
            refine XS.icmpNo X0.here hexec rfl (hb hbytes d21) rfl (ii_eq_f hv) ?_
            refine iconstV X0.here hexec rfl 0 (hb hbytes d24) (by decide) ?_
            exact Steps.refl _)⟩
    obtain ⟨pc, Ls, v, hpc, hv, cz⟩ := loop A.slots.size 0 (by omega) (fun j hj => absurd hj (Nat.not_lt_zero j)) c3
    have nv : narrow .boolean (.int v) = .int v := by rcases hv with ⟨rfl, -⟩ | ⟨rfl, -⟩ <;> rfl
    rcases hpc with rfl | rfl
    · exact ⟨s₁, some (.int v), _, _, _, X0, rfl, rfl, rfl, (fun h => by cases h), ⟨v, rfl, hh0, hv⟩, fun fs hl => cz.trans (X0.ireturnOut hexec hret nv (Or.inr (Or.inl rfl)) (hb hbytes d25) hl)⟩
    · exact ⟨s₁, some (.int v), _, _, _, X0, rfl, rfl, rfl, (fun h => by cases h), ⟨v, rfl, hh0, hv⟩, fun fs hl => cz.trans (X0.ireturnOut hexec hret nv (Or.inr (Or.inl rfl)) (hb hbytes d33) hl)⟩
  · have c3 : Steps p.tables e below (s₁.setTop (entryFrame m #[.ref a, .ref b] 3)) (s₁.setTop (mkF m 35 #[.val (.ref a), .val (.ref b), .unset] [.int 0])) := c2.trans (by
      refine XS.icmpYes X0.here hexec rfl (pc0 := 4) rfl (hb hbytes d4) rfl (ii_ne_t (ne32 a31 b31 hs)) (by decide) rfl ?_
      refine iconstV X0.here hexec rfl 0 (hb hbytes d34) (by decide) ?_
      exact Steps.refl _)
    exact ⟨s₁, some (.int 0), _, _, _, X0, rfl, rfl, rfl, (fun h => by cases h), ⟨0, rfl, hh0, Or.inr ⟨rfl, fun q => hs q.1⟩⟩, fun fs hl => c3.trans (X0.ireturnOut hexec hret rfl (Or.inr (Or.inl rfl)) (hb hbytes d35) hl)⟩
end LEq
theorem Cod.ty {cd : Int32} {n : Nat} {f : Nat → Int32} {V : Cell} (h : Cod cd n f V) : Typed .byte V := fun i v hv => by
  have hi : i < V.slots.size := (Array.getElem?_eq_some_iff.mp hv).1
  rcases h with ⟨-, k1, k2⟩ | ⟨-, k1, k2, -⟩
  · rw [(k2 i (by omega)).1] at hv; cases hv; exact fits_lo8 _
  · rcases Nat.mod_two_eq_zero_or_one i with e | e
    · obtain ⟨j, rfl⟩ : ∃ j, i = 2 * j := ⟨i / 2, by omega⟩
      rw [(k2 j (by omega)).1] at hv; cases hv; exact fits_lo8 _
    · obtain ⟨j, rfl⟩ : ∃ j, i = 2 * j + 1 := ⟨i / 2, by omega⟩
      rw [(k2 j (by omega)).2] at hv; cases hv; exact fits_lo8 _
/-- the same text -/
def SameT (n : Nat) (f : Nat → Int32) (k : Nat) (g : Nat → Int32) : Prop := n = k ∧ ∀ j, j < n → f j = g j
theorem lo8_inj {x y : Int32} (h0 : ¬ x < 0) (h1 : ¬ 255 < x) (k0 : ¬ y < 0) (k1 : ¬ 255 < y) (h : lo8 x = lo8 y) : x = y := by
  rw [← lo8_mask h0 h1, ← lo8_mask k0 k1, h]
/-- arrays coded by one coder are equal just where the texts are -/
theorem Cod.eqv {cd : Int32} {n k : Nat} {f g : Nat → Int32} {V V' : Cell} (h : Cod cd n f V) (h' : Cod cd k g V') (hf : ∀ j, j < n → ¬ f j < 0 ∧ ¬ 65535 < f j) (hg : ∀ j, j < k → ¬ g j < 0 ∧ ¬ 65535 < g j) : EqC V V' ↔ SameT n f k g := by
  have yvv : ∀ {W : Cell} {i : Nat} {x : Int32}, W.slots[i]? = some (.int x) → yv W i = x := fun q => by unfold yv; rw [q]
  rcases h with ⟨rfl, k1, k2⟩ | ⟨rfl, k1, k2, -⟩
  · rcases h' with ⟨-, m1, m2⟩ | ⟨e, -⟩
    · constructor
      · rintro ⟨e1, e2⟩
        refine ⟨by omega, fun j hj => ?_⟩
        have q := e2 j (by omega)
        rw [yvv (k2 j hj).1, yvv (m2 j (by omega)).1] at q
        exact lo8_inj (hf j hj).1 (k2 j hj).2 (hg j (by omega)).1 (m2 j (by omega)).2 q
      · rintro ⟨rfl, e2⟩
        refine ⟨by omega, fun j hj => ?_⟩
        rw [yvv (k2 j (by omega)).1, yvv (m2 j (by omega)).1, e2 j (by omega)]
    · exact absurd e (by decide)
  · rcases h' with ⟨e, -⟩ | ⟨-, m1, m2, -⟩
    · exact absurd e (by decide)
    · constructor
      · rintro ⟨e1, e2⟩
        refine ⟨by omega, fun j hj => ?_⟩
        have q1 := e2 (2 * j) (by omega)
        have q2 := e2 (2 * j + 1) (by omega)
        rw [yvv (k2 j hj).1, yvv (m2 j (by omega)).1] at q1
        rw [yvv (k2 j hj).2, yvv (m2 j (by omega)).2] at q2
        rw [← pair_says (hf j hj).1 (hf j hj).2, ← pair_says (hg j (by omega)).1 (hg j (by omega)).2, q1, q2]
      · rintro ⟨rfl, e2⟩
        refine ⟨by omega, fun i hi => ?_⟩
        rcases Nat.mod_two_eq_zero_or_one i with e | e
        · obtain ⟨j, rfl⟩ : ∃ j, i = 2 * j := ⟨i / 2, by omega⟩
          rw [yvv (k2 j (by omega)).1, yvv (m2 j (by omega)).1, e2 j (by omega)]
        · obtain ⟨j, rfl⟩ : ∃ j, i = 2 * j + 1 := ⟨i / 2, by omega⟩
          rw [yvv (k2 j (by omega)).2, yvv (m2 j (by omega)).2, e2 j (by omega)]
/-- two codings differ: so do the texts -/
theorem Cod.dif {cd cd' : Int32} {n k : Nat} {f g : Nat → Int32} {V V' : Cell} (h : Cod cd n f V) (h' : Cod cd' k g V') (hne : ¬ cd = cd') : ¬ SameT n f k g := by
  rintro ⟨rfl, e⟩
  rcases h with ⟨rfl, -, k2⟩ | ⟨rfl, -, -, j, hj, hw⟩
  · rcases h' with ⟨rfl, -⟩ | ⟨-, -, -, j, hj, hw⟩
    · exact hne rfl
    · exact (k2 j hj).2 (by rw [e j hj]; exact hw)
  · rcases h' with ⟨-, -, m2⟩ | ⟨rfl, -⟩
    · exact (m2 j hj).2 (by rw [← e j hj]; exact hw)
    · exact hne rfl
/-- an object of exactly C is an instance of C -/
theorem cinst {p : Program} {l : Launch} {e : Env} {R : Room} {s : State} {m : MethodId} {args : Array Value} {below : List Frame} {meth : Method} {c : Code} {T : State} {locs : List Loc} {cells slots : Nat} (X : Stand p l e R s m args below meth c T locs cells slots) (hexec : p.tables.exec = Jvm.exec) {own C : String} {index : Nat} (hown : s.vm.findClass own = some m.cls) (hlink : (Cond.classLink own index C).before args s = true) {a : Addr} (hE : Exact C a T)
    {g : JFrame} (hg : g.method = m) {rest : List Value} (hstack : g.stack = .ref a :: rest) (hdg : decode c.code g.pc = .ok (.instanceof index, 3)) :
    ∃ T', Stand p l e R s m args below meth c T' locs cells slots ∧ T'.heap = T.heap ∧ ∀ target, Steps p.tables e below (T'.setTop { g with pc := g.pc + 3, stack := .int 1 :: rest }) target → Steps p.tables e below (T.setTop g) target := by
  obtain ⟨cB, h1, D, h2, h3, h4⟩ := hE
  have h1' : s.vm.findClass C = some cB := by rw [← X.warmed.alike.findClass]; exact h1
  obtain ⟨vm', X', st⟩ := X.instanceofYes hexec hown hlink h2 h4 h1' (by rw [h3]; exact Jvm.Free.SB.assignable_self _ _) hg hstack hdg
  exact ⟨_, X', rfl, st⟩
theorem cself {p : Program} {l : Launch} {e : Env} {R : Room} {s : State} {m : MethodId} {args : Array Value} {below : List Frame} {meth : Method} {c : Code} {T : State} {locs : List Loc} {cells slots : Nat} (X : Stand p l e R s m args below meth c T locs cells slots) (hexec : p.tables.exec = Jvm.exec) {own C : String} {index : Nat} (hown : s.vm.findClass own = some m.cls) (hlink : (Cond.classLink own index C).before args s = true) {a : Addr} (hE : Exact C a T)
    {g : JFrame} (hg : g.method = m) {rest : List Value} (hstack : g.stack = .ref a :: rest) (hdg : decode c.code g.pc = .ok (.checkcast index, 3)) :
    ∃ T', Stand p l e R s m args below meth c T' locs cells slots ∧ T'.heap = T.heap ∧ ∀ target, Steps p.tables e below (T'.setTop { g with pc := g.pc + 3, stack := .ref a :: rest }) target → Steps p.tables e below (T.setTop g) target := by
  obtain ⟨cB, h1, D, h2, h3, h4⟩ := hE
  have h1' : s.vm.findClass C = some cB := by rw [← X.warmed.alike.findClass]; exact h1
  obtain ⟨vm', X', st⟩ := X.checkcastYes hexec hown hlink h2 h4 h1' (by rw [h3]; exact Jvm.Free.SB.assignable_self _ _) hg hstack hdg
  exact ⟨_, X', rfl, fun t h => st t (by rw [← hstack] at h; exact h)⟩
namespace SEq
def yN : MethodName := ⟨"java/lang/String", "equals", "(Ljava/lang/Object;)Z"⟩
abbrev yB : ByteArray := jdk_42_method_66_code
theorem d0 : decode yB 0 = .ok (.aload_n 0, 1) := by decide +kernel
theorem d1 : decode yB 1 = .ok (.aload_n 1, 1) := by decide +kernel
theorem d2 : decode yB 2 = .ok (.if_acmp (.ne) 5, 3) := by decide +kernel
theorem d5 : decode yB 5 = .ok (.iconst 1, 1) := by decide +kernel
theorem d6 : decode yB 6 = .ok (.ireturn, 1) := by decide +kernel
theorem d7 : decode yB 7 = .ok (.aload_n 1, 1) := by decide +kernel
theorem d8 : decode yB 8 = .ok (.instanceof 10, 3) := by decide +kernel
theorem d11 : decode yB 11 = .ok (.ifCond (.eq) 43, 3) := by decide +kernel
theorem d14 : decode yB 14 = .ok (.aload_n 1, 1) := by decide +kernel
theorem d15 : decode yB 15 = .ok (.checkcast 10, 3) := by decide +kernel
theorem d18 : decode yB 18 = .ok (.astore_n 2, 1) := by decide +kernel
theorem d19 : decode yB 19 = .ok (.getstatic 38, 3) := by decide +kernel
theorem d22 : decode yB 22 = .ok (.ifCond (.eq) 14, 3) := by decide +kernel
theorem d25 : decode yB 25 = .ok (.aload_n 0, 1) := by decide +kernel
theorem d26 : decode yB 26 = .ok (.getfield 15, 3) := by decide +kernel
theorem d29 : decode yB 29 = .ok (.aload_n 2, 1) := by decide +kernel
theorem d30 : decode yB 30 = .ok (.getfield 15, 3) := by decide +kernel
theorem d33 : decode yB 33 = .ok (.if_icmp (.ne) 21, 3) := by decide +kernel
theorem d36 : decode yB 36 = .ok (.aload_n 0, 1) := by decide +kernel
theorem d37 : decode yB 37 = .ok (.getfield 9, 3) := by decide +kernel
theorem d40 : decode yB 40 = .ok (.aload_n 2, 1) := by decide +kernel
theorem d41 : decode yB 41 = .ok (.getfield 9, 3) := by decide +kernel
theorem d44 : decode yB 44 = .ok (.invokestatic 541, 3) := by decide +kernel
theorem d47 : decode yB 47 = .ok (.ifCond (.eq) 7, 3) := by decide +kernel
theorem d50 : decode yB 50 = .ok (.iconst 1, 1) := by decide +kernel
theorem d51 : decode yB 51 = .ok (.goto 4, 3) := by decide +kernel
theorem d54 : decode yB 54 = .ok (.iconst 0, 1) := by decide +kernel
theorem d55 : decode yB 55 = .ok (.ireturn, 1) := by decide +kernel
def site : List Cond := [.classLink "java/lang/String" 10 "java/lang/String", .fieldLink "java/lang/String" 38 "java/lang/String" "COMPACT_STRINGS" "Z", .fieldLink "java/lang/String" 15 "java/lang/String" "coder" "B", .fieldLink "java/lang/String" 9 "java/lang/String" "value" "[B", LEq.tab] ++ staticW "java/lang/String" 541 LEq.yN
def tab : Cond := tabOf yN yB 3 (some .boolean) site
def P (x t : Addr) (V : Cell) (cd : Int32) (n : Nat) (f : Nat → Int32) (y t' : Addr) (V' : Cell) (cd' : Int32) (k : Nat) (g : Nat → Int32) (z : Int32) (args : Array Value) (s : State) : Prop := args = #[.ref x, .ref y] ∧ Txt x t V cd n f s ∧ Txt y t' V' cd' k g s ∧ StaticIs s "java/lang/String" "COMPACT_STRINGS" "Z" (.int z) ∧ ¬ z = 0
/-- equals(Object) of two Strings: whether the texts are the same -/
theorem law (l : Launch) (x t : Addr) (V : Cell) (cd : Int32) (n : Nat) (f : Nat → Int32) (y t' : Addr) (V' : Cell) (cd' : Int32) (k : Nat) (g : Nat → Int32) (z : Int32) : Law l yN 2 1 1 14 yB 3 (some .boolean) site (P x t V cd n f y t' V' cd' k g z) (Says01 (SameT n f k g)) [] 0 0 := by
  refine Law.of_walk (plainFor_of_name (by decide +kernel)) (by decide +kernel) (by decide +kernel) (by decide) (fun _ _ h => by rw [h.1]; rfl) (fun _ U U' hal hh h => ⟨h.1, h.2.1.mv hal hh, h.2.2.1.mv hal hh, h.2.2.2.1.there hal hh, h.2.2.2.2⟩) (fun r U U' V V' h1 hal h2 h => Says01.mv r U U' V V' h1 hal h2 h) ?_
  intro p e s m args below meth c s₁ X0 hexec hbytes hml hret hlk hnm hown hh0 W hP
  obtain ⟨rfl, hx, hy, s1, hz⟩ := hP
  have c1 : Steps p.tables e below (s₁.setTop (entryFrame m #[.ref x, .ref y] 3)) (s₁.setTop (mkF m 2 #[.val (.ref x), .val (.ref y), .unset] [.ref y, .ref x])) := Steps.trans (entry rfl) (by
    show Steps p.tables e below (s₁.setTop (mkF m 0 #[.val (.ref x), .val (.ref y), .unset] [])) _
    refine XS.aloadN X0.here hexec rfl (hb hbytes d0) rfl rfl ?_
    refine XS.aloadN X0.here hexec rfl (hb hbytes d1) rfl rfl ?_
    exact Steps.refl _)
  by_cases hxy : x = y
  · have c2 : Steps p.tables e below (s₁.setTop (entryFrame m #[.ref x, .ref y] 3)) (s₁.setTop (mkF m 6 #[.val (.ref x), .val (.ref y), .unset] [.int 1])) := c1.trans (by
      refine acmpNo X0.here hexec rfl (hb hbytes d2) rfl rfl rfl (by simp [acmp, hxy]) ?_
      refine iconstV X0.here hexec rfl 1 (hb hbytes d5) (by decide) ?_
      exact Steps.refl _)
    subst hxy
    have ec : cd = cd' := by
      obtain ⟨D, fd, a1, a2, a3⟩ := hx.2.2.1
      obtain ⟨D', fd', b1, b2, b3⟩ := hy.2.2.1
      cases a1.symm.trans b1
      obtain ⟨q1, q2, q3, q4⟩ := a2.1
      obtain ⟨r1, r2, r3, r4⟩ := b2.1
      cases q4.symm.trans r4
      cases a3.symm.trans b3; rfl
    have et : t = t' := by
      obtain ⟨D, fd, a1, a2, a3⟩ := hx.2.1
      obtain ⟨D', fd', b1, b2, b3⟩ := hy.2.1
      cases a1.symm.trans b1
      obtain ⟨q1, q2, q3, q4⟩ := a2.1
      obtain ⟨r1, r2, r3, r4⟩ := b2.1
      cases q4.symm.trans r4
      cases a3.symm.trans b3; rfl
    subst ec et
    have ev : V = V' := by cases hx.2.2.2.1.1.symm.trans hy.2.2.2.1.1; rfl
    subst ev
    have hs : SameT n f k g := (Cod.eqv hx.2.2.2.2.1 hy.2.2.2.2.1 hx.2.2.2.2.2 hy.2.2.2.2.2).mp ⟨rfl, fun _ _ => rfl⟩
    exact ⟨s₁, some (.int 1), _, _, _, X0, rfl, rfl, rfl, (fun h => by cases h), ⟨1, rfl, hh0, Or.inl ⟨rfl, hs⟩⟩, fun fs hl => c2.trans (X0.ireturnOut hexec hret rfl (Or.inr (Or.inl rfl)) (hb hbytes d6) hl)⟩
  · have c2 : Steps p.tables e below (s₁.setTop (entryFrame m #[.ref x, .ref y] 3)) (s₁.setTop (mkF m 8 #[.val (.ref x), .val (.ref y), .unset] [.ref y])) := c1.trans (by
      refine acmpYes X0.here hexec rfl (pc0 := 2) rfl (hb hbytes d2) rfl rfl rfl (by simp [acmp, hxy]) (by decide) rfl ?_
      refine XS.aloadN X0.here hexec rfl (hb hbytes d7) rfl rfl ?_
      exact Steps.refl _)
    obtain ⟨T3, X3, q3, st3⟩ := cinst X0 hexec hown (wk W (.classLink "java/lang/String" 10 "java/lang/String")) (hy.mv X0.warmed.alike hh0).1 (g := (mkF m 8 #[.val (.ref x), .val (.ref y), .unset] [.ref y])) rfl (rest := []) rfl (hb hbytes d8)
    have hh3 := q3.trans hh0
    have c4 : Steps p.tables e below (s₁.setTop (entryFrame m #[.ref x, .ref y] 3)) (T3.setTop (mkF m 15 #[.val (.ref x), .val (.ref y), .unset] [.ref y])) := (c2.trans (st3 _ (Steps.refl _))).trans (by
      refine XS.ifNo X3.here hexec rfl (hb hbytes d11) rfl (i0_eq_f (by decide)) ?_
      refine XS.aloadN X3.here hexec rfl (hb hbytes d14) rfl rfl ?_
      exact Steps.refl _)
    obtain ⟨T5, X5, q5, st5⟩ := cself X3 hexec hown (wk W (.classLink "java/lang/String" 10 "java/lang/String")) (hy.mv X3.warmed.alike hh3).1 (g := (mkF m 15 #[.val (.ref x), .val (.ref y), .unset] [.ref y])) rfl (rest := []) rfl (hb hbytes d15)
    have hh5 := q5.trans hh3
    have c6 : Steps p.tables e below (s₁.setTop (entryFrame m #[.ref x, .ref y] 3)) (T5.setTop (mkF m 19 #[.val (.ref x), .val (.ref y), .val (.ref y)] [])) := (c4.trans (st5 _ (Steps.refl _))).trans (by
      refine XS.astoreN X5.here hexec rfl (hb hbytes d18) rfl rfl rfl ?_
      exact Steps.refl _)
    obtain ⟨T7, X7, q7, st7⟩ := X5.sget hexec hown (wk W (.fieldLink "java/lang/String" 38 "java/lang/String" "COMPACT_STRINGS" "Z")) s1 (fun _ _ h => by rw [hh5]; exact h) (g := (mkF m 19 #[.val (.ref x), .val (.ref y), .val (.ref y)] [])) rfl (hb hbytes d19)
    have hh7 := q7.trans hh5
    have c8 : Steps p.tables e below (s₁.setTop (entryFrame m #[.ref x, .ref y] 3)) (T7.setTop (mkF m 26 #[.val (.ref x), .val (.ref y), .val (.ref y)] [.ref x])) := (c6.trans (st7 _ (Steps.refl _))).trans (by
      refine XS.ifNo X7.here hexec rfl (hb hbytes d22) rfl (i0_eq_f hz) ?_
      refine XS.aloadN X7.here hexec rfl (hb hbytes d25) rfl rfl ?_
      exact Steps.refl _)
    obtain ⟨T9, X9, q9, st9⟩ := X7.hget hexec hown (wk W (.fieldLink "java/lang/String" 15 "java/lang/String" "coder" "B")) (hx.mv X7.warmed.alike hh7).2.2.1 (g := (mkF m 26 #[.val (.ref x), .val (.ref y), .val (.ref y)] [.ref x])) rfl (rest := []) rfl (hb hbytes d26)
    have hh9 := q9.trans hh7
    have c10 : Steps p.tables e below (s₁.setTop (entryFrame m #[.ref x, .ref y] 3)) (T9.setTop (mkF m 30 #[.val (.ref x), .val (.ref y), .val (.ref y)] [.ref y, .int cd])) := (c8.trans (st9 _ (Steps.refl _))).trans (by
      refine XS.aloadN X9.here hexec rfl (hb hbytes d29) rfl rfl ?_
      exact Steps.refl _)
    obtain ⟨T11, X11, q11, st11⟩ := X9.hget hexec hown (wk W (.fieldLink "java/lang/String" 15 "java/lang/String" "coder" "B")) (hy.mv X9.warmed.alike hh9).2.2.1 (g := (mkF m 30 #[.val (.ref x), .val (.ref y), .val (.ref y)] [.ref y, .int cd])) rfl (rest := [.int cd]) rfl (hb hbytes d30)
    have hh11 := q11.trans hh9
    have c12 : Steps p.tables e below (s₁.setTop (entryFrame m #[.ref x, .ref y] 3)) (T11.setTop (mkF m 33 #[.val (.ref x), .val (.ref y), .val (.ref y)] [.int cd', .int cd])) := c10.trans (st11 _ (Steps.refl _))
    by_cases hcd : cd = cd'
    · subst hcd
      have c13 : Steps p.tables e below (s₁.setTop (entryFrame m #[.ref x, .ref y] 3)) (T11.setTop (mkF m 37 #[.val (.ref x), .val (.ref y), .val (.ref y)] [.ref x])) := c12.trans (by
        refine XS.icmpNo X11.here hexec rfl (hb hbytes d33) rfl (ii_ne_f rfl) ?_
        refine XS.aloadN X11.here hexec rfl (hb hbytes d36) rfl rfl ?_
        exact Steps.refl _)
      obtain ⟨T14, X14, q14, st14⟩ := X11.hget hexec hown (wk W (.fieldLink "java/lang/String" 9 "java/lang/String" "value" "[B")) (hx.mv X11.warmed.alike hh11).2.1 (g := (mkF m 37 #[.val (.ref x), .val (.ref y), .val (.ref y)] [.ref x])) rfl (rest := []) rfl (hb hbytes d37)
      have hh14 := q14.trans hh11
      have c15 : Steps p.tables e below (s₁.setTop (entryFrame m #[.ref x, .ref y] 3)) (T14.setTop (mkF m 41 #[.val (.ref x), .val (.ref y), .val (.ref y)] [.ref y, .ref t])) := (c13.trans (st14 _ (Steps.refl _))).trans (by
        refine XS.aloadN X14.here hexec rfl (hb hbytes d40) rfl rfl ?_
        exact Steps.refl _)
      obtain ⟨T16, X16, q16, st16⟩ := X14.hget hexec hown (wk W (.fieldLink "java/lang/String" 9 "java/lang/String" "value" "[B")) (hy.mv X14.warmed.alike hh14).2.1 (g := (mkF m 41 #[.val (.ref x), .val (.ref y), .val (.ref y)] [.ref y, .ref t])) rfl (rest := [.ref t]) rfl (hb hbytes d41)
      have hh16 := q16.trans hh14
      have c17 : Steps p.tables e below (s₁.setTop (entryFrame m #[.ref x, .ref y] 3)) (T16.setTop (mkF m 44 #[.val (.ref x), .val (.ref y), .val (.ref y)] [.ref t', .ref t])) := c15.trans (st16 _ (Steps.refl _))
      obtain ⟨v18, T18, X18, E18, g18⟩ := X16.callS hexec (LEq.law l t V t' V') hown (wks W (staticW "java/lang/String" 541 LEq.yN)) (wk W LEq.tab) (W := 0) (Nat.le_of_ble_eq_true rfl) (Nat.le_of_ble_eq_true rfl) (Nat.le_refl _) (Nat.le_refl _) (g := (mkF m 44 #[.val (.ref x), .val (.ref y), .val (.ref y)] [.ref t', .ref t])) rfl (by rw [hml]; rfl) c17 (argsL := [.ref t, .ref t']) (rest := []) rfl rfl (by show 2 * 0 + 0 ≤ _; decide) (hb hbytes d44) (⟨rfl, hx.2.2.2.1.mv X16.warmed.alike hh16, hx.2.2.2.2.1.ty, hy.2.2.2.1.mv X16.warmed.alike hh16, hy.2.2.2.2.1.ty⟩)
      obtain ⟨v, rfl, q18, hv⟩ := E18
      have iff := Cod.eqv hx.2.2.2.2.1 hy.2.2.2.2.1 hx.2.2.2.2.2 hy.2.2.2.2.2
      rcases hv with ⟨rfl, he⟩ | ⟨rfl, he⟩
      · have c19 : Steps p.tables e below (s₁.setTop (entryFrame m #[.ref x, .ref y] 3)) (T18.setTop (mkF m 55 #[.val (.ref x), .val (.ref y), .val (.ref y)] [.int 1])) := Steps.trans g18 (by
          refine XS.ifNo X18.here hexec rfl (hb hbytes d47) rfl (i0_eq_f (by decide)) ?_
          refine iconstV X18.here hexec rfl 1 (hb hbytes d50) (by decide) ?_
          refine XS.goto X18.here hexec rfl (pc0 := 51) rfl (hb hbytes d51) (by decide) rfl ?_
          exact Steps.refl _)
        exact ⟨T18, some (.int 1), _, _, _, X18, rfl, rfl, rfl, (fun h => by cases h), ⟨1, rfl, q18.trans hh16, Or.inl ⟨rfl, iff.mp he⟩⟩, fun fs hl => c19.trans (X18.ireturnOut hexec hret rfl (Or.inr (Or.inl rfl)) (hb hbytes d55) hl)⟩
      · have c19 : Steps p.tables e below (s₁.setTop (entryFrame m #[.ref x, .ref y] 3)) (T18.setTop (mkF m 55 #[.val (.ref x), .val (.ref y), .val (.ref y)] [.int 0])) := Steps.trans g18 (by
          refine XS.ifYes X18.here hexec rfl (pc0 := 47) rfl (hb hbytes d47) rfl (i0_eq_t rfl) (by decide) rfl ?_
          refine iconstV X18.here hexec rfl 0 (hb hbytes d54) (by decide) ?_
          exact Steps.refl _)
        exact ⟨T18, some (.int 0), _, _, _, X18, rfl, rfl, rfl, (fun h => by cases h), ⟨0, rfl, q18.trans hh16, Or.inr ⟨rfl, fun q => he (iff.mpr q)⟩⟩, fun fs hl => c19.trans (X18.ireturnOut hexec hret rfl (Or.inr (Or.inl rfl)) (hb hbytes d55) hl)⟩
    · have c13 : Steps p.tables e below (s₁.setTop (entryFrame m #[.ref x, .ref y] 3)) (T11.setTop (mkF m 55 #[.val (.ref x), .val (.ref y), .val (.ref y)] [.int 0])) := c12.trans (by
        refine XS.icmpYes X11.here hexec rfl (pc0 := 33) rfl (hb hbytes d33) rfl (ii_ne_t hcd) (by decide) rfl ?_
        refine iconstV X11.here hexec rfl 0 (hb hbytes d54) (by decide) ?_
        exact Steps.refl _)
      exact ⟨T11, some (.int 0), _, _, _, X11, rfl, rfl, rfl, (fun h => by cases h), ⟨0, rfl, hh11, Or.inr ⟨rfl, Cod.dif hx.2.2.2.2.1 hy.2.2.2.2.1 hcd⟩⟩, fun fs hl => c13.trans (X11.ireturnOut hexec hret rfl (Or.inr (Or.inl rfl)) (hb hbytes d55) hl)⟩
theorem pays {l : Launch} {R : Room} {p : Program} {e : Env} {below : List Frame} {s : State} {sargs : Array Value} {len W : Nat} (x t : Addr) (V : Cell) (cd : Int32) (n : Nat) (f : Nat → Int32) (y t' : Addr) (V' : Cell) (cd' : Int32) (k : Nat) (g : Nat → Int32) (z : Int32) (htab : tab.before sargs s = true) (hfr : 2 ≤ R.frames) (hlo : W + 28 ≤ R.locals) :
    Back l R p e below s sargs yN len W (fun A₁ a₁ => A₁.cells + 0 ≤ R.cells ∧ A₁.slots + 0 ≤ R.slots ∧ P x t V cd n f y t' V' cd' k g z a₁ A₁.U) (fun A₁ _ v₁ B₁ => Says01 (SameT n f k g) v₁ A₁.U B₁.U ∧ B₁.locs = A₁.locs ++ [] ∧ B₁.cells = A₁.cells + 0 ∧ B₁.slots = A₁.slots + 0) :=
  (law l x t V cd n f y t' V' cd' k g z).pays htab hfr (by omega)
end SEq
end StrChars
namespace StrChars.Road
open Jvm Sem ClassFile Op Lib Jvm.Stand Jvm.Free Jvm.Free.XT
open Jvm.Lib.Cold (StaticIs)
/-- the words of String.equals(Object) -/
abbrev wordsEq : List Jvm.Cond := [.code SEq.yN SEq.yB 3 (some .boolean), .initialized ST, .classLink ST 10 ST, .fieldLink ST 38 ST "COMPACT_STRINGS" "Z", .fieldLink ST 15 ST "coder" "B", .fieldLink ST 9 ST "value" "[B", .methodLink ST 541 LEq.yN, .static LEq.yN, .code LEq.yN LEq.yB 3 (some .boolean), .initialized "java/lang/StringLatin1"]
theorem tabEq_of {a : Array Value} {s : State} (h : ∀ w ∈ wordsEq, w.before a s = true) : SEq.tab.before a s = true := by
  have hl : LEq.tab.before a s = true := unparts (wk h (.code LEq.yN LEq.yB 3 (some .boolean))) (wks h (.initialized LEq.yN.cls :: LEq.site))
  have q := consq hl h
  exact unparts (wk q (.code SEq.yN SEq.yB 3 (some .boolean))) (wks q (.initialized SEq.yN.cls :: SEq.site))
theorem movedEq {Z s : State} {a0 args : Array Value} (hZ : Z.Warmed39 s.vm) (hw : ∀ d ∈ wordsEq, d.before a0 Z = true) : ∀ d ∈ wordsEq, d.before args s = true := fun d hd => by
  have t : ∀ d ∈ wordsEq, (d.onTables && d.keepsFace) = true := by decide +kernel
  exact RoadKit.mv hZ (hw d hd) (t d hd)
/-- the road's facts of a String, as the laws ask it -/
theorem txt_of {Z U : State} {a0 : Array Value} {kI : Nat} (wi : (Jvm.Cond.instantiable ST kI).before a0 Z = true) (al : Z.vm.Alike U.vm) {x t : Addr} {kb : ClassId} {cs : List Int32} {cd N2 : Int32} {vs : List Value} (E : RoadKit.Exa Z U.heap x ST) (V : RoadKit.Fld Z U.heap x ST "value" "[B" (.ref t)) (C : RoadKit.Fld Z U.heap x ST "coder" "B" (.int cd)) (K : RoadKit.Arv Z U.heap t kb .byte N2 vs (.int 0)) (hc : CodA cs cd N2 vs) (hb : ∀ c ∈ cs, ¬ c < 0 ∧ ¬ (65535 : Int32) < c) (l2 : cs.length ≤ 4000) :
    ∃ A, Txt x t A cd cs.length (fun j => cs.getD j 0) U := by
  obtain ⟨A, K1, K2, K3, K4, K5, K6⟩ := K
  have hcod := hc.cod (by omega) K3 K5
  obtain ⟨D, fV, fC, hB, F1, F2, g1, g2, -, -⟩ := strObj wi al E V C
  exact ⟨A, ⟨_, hB.2.2.1, D, hB.1, rfl, by cases q : D.vm <;> first | rfl | exact absurd q (hB.2.1.2 _)⟩, Has.of hB F1 g1, Has.of hB F2 g2, ⟨K1.1, State.isArrayOf_alike al K1.2.1, K1.2.2, by rcases hcod with ⟨-, q, -⟩ | ⟨-, q, -⟩ <;> omega⟩, hcod, fun j hj => by
    have e : cs.getD j 0 = cs[j] := by simp [List.getD_eq_getElem?_getD, hj]
    show ¬ cs.getD j 0 < 0 ∧ ¬ 65535 < cs.getD j 0
    rw [e]; exact hb _ (List.getElem_mem _)⟩
theorem same_list (cs ds : List Int32) : SameT cs.length (fun j => cs.getD j 0) ds.length (fun j => ds.getD j 0) ↔ cs = ds := by
  constructor
  · rintro ⟨e, q⟩
    refine List.ext_getElem e fun j h1 h2 => ?_
    have := q j h1
    simpa [List.getD_eq_getElem?_getD, h1, h2] using this
  · rintro rfl
    exact ⟨rfl, fun _ _ => rfl⟩
/-- **equals(Object) OF TWO SUCH STRINGS**: 1 just where the chars are the same -/
theorem eqW {p : Program} {l : Launch} {e : Env} {R : Room} {s : State} {args : Array Value} {below : List Frame} {len W : Nat} {Z : State} {a0 : Array Value} {h : Heap} (hZ : Z.Warmed39 s.vm) (hw : ∀ d ∈ wordsEq, d.before a0 Z = true) {kI : Nat} (wi : (Jvm.Cond.instantiable ST kI).before a0 Z = true)
    {x t : Addr} {kb : ClassId} {cs : List Int32} {cd N2 : Int32} {vs : List Value} (E : RoadKit.Exa Z h x ST) (V : RoadKit.Fld Z h x ST "value" "[B" (.ref t)) (C : RoadKit.Fld Z h x ST "coder" "B" (.int cd)) (K : RoadKit.Arv Z h t kb .byte N2 vs (.int 0)) (hc : CodA cs cd N2 vs) (hb : ∀ c ∈ cs, ¬ c < 0 ∧ ¬ (65535 : Int32) < c) (l2 : cs.length ≤ 4000)
    {y t' : Addr} {kb' : ClassId} {ds : List Int32} {cd' N2' : Int32} {vs' : List Value} (E' : RoadKit.Exa Z h y ST) (V' : RoadKit.Fld Z h y ST "value" "[B" (.ref t')) (C' : RoadKit.Fld Z h y ST "coder" "B" (.int cd')) (K' : RoadKit.Arv Z h t' kb' .byte N2' vs' (.int 0)) (hc' : CodA ds cd' N2' vs') (hb' : ∀ c ∈ ds, ¬ c < 0 ∧ ¬ (65535 : Int32) < c) (l2' : ds.length ≤ 4000)
    {z : Int32} (S : RoadKit.Sta Z h ST "COMPACT_STRINGS" "Z" (.int z)) (hz : ¬ z = 0) (hfr : 2 ≤ R.frames) (hlo : W + 28 ≤ R.locals) :
    Back l R p e below s args (⟨"java/lang/String", "equals", "(Ljava/lang/Object;)Z"⟩ : MethodName) len W (fun P a => a = #[.ref x, .ref y] ∧ P.U.heap = h ∧ P.cells + 0 ≤ R.cells ∧ P.slots + 0 ≤ R.slots)
      (fun P _ v B => ∃ L, (((v = some (.int 1) ∧ cs = ds) ∨ (v = some (.int 0) ∧ ¬ cs = ds)) ∧ L = [] ∧ B.U.heap = h) ∧ B.locs = P.locs ++ L ∧ B.cells = P.cells + 0 ∧ B.slots = P.slots + 0) := by
  intro m meth c P g ig mk a X hg hsize hdg hW hn hp'
  obtain ⟨rfl, rfl, r1, r2⟩ := hp'
  have al : Z.vm.Alike P.U.vm := hZ.alike.trans X.warmed.alike
  obtain ⟨A, hx⟩ := txt_of wi al E V C K hc hb l2
  obtain ⟨A', hy⟩ := txt_of wi al E' V' C' K' hc' hb' l2'
  obtain ⟨v, B, X', ⟨⟨w, hv, hh, hq⟩, hl, hk, hs⟩, st⟩ := SEq.pays x t A cd cs.length (fun j => cs.getD j 0) y t' A' cd' ds.length (fun j => ds.getD j 0) z (tabEq_of (movedEq hZ hw)) hfr hlo m meth c P g ig mk _ X hg hsize hdg hW hn ⟨r1, r2, rfl, hx, hy, sta_is al S, hz⟩
  refine ⟨v, B, X', ⟨[], ⟨?_, rfl, hh⟩, hl, hk, hs⟩, st⟩
  rcases hq with ⟨rfl, q⟩ | ⟨rfl, q⟩
  · exact Or.inl ⟨hv, (same_list cs ds).mp q⟩
  · exact Or.inr ⟨hv, fun e => q ((same_list cs ds).mpr e)⟩
end StrChars.Road
namespace StrChars.Road
open Jvm Sem ClassFile Op Lib Jvm.Stand Jvm.Free Jvm.Free.XT
open Jvm.Lib.Cold (StaticIs)
/-- what backV says of its String, as the contracts of this text ask it: cs's low bytes, coder 0 -/
theorem codOf {cs : List Int32} {n : Nat} (hn : cs.length = n) (hb : ∀ c ∈ cs, ¬ 255 < c) : CodA cs 0 (Int32.ofNat n) ((cs.map lo8).map Value.int) := Or.inl ⟨rfl, by rw [hn], by simp [List.map_map, Function.comp_def], hb⟩
end StrChars.Road
end Jvm.Pilot.@@N@@

namespace Jvm.Pilot.@@N@@
open Jvm Jvm.ClassFile Sem Op Lib Jvm.Free Jvm.Stand Jvm.LawKit Jvm.RoadKit Bundle
namespace Own
section K1
variable {p : Program} {l : Launch} {e : Env} {R : Room} {s : State} {m : MethodId} {args : Array Value} {below : List Frame} {meth : Method} {c : Code} {y : MethodName} {bc : ByteArray} {mL : Nat} {rt : Option FieldType} {Z : State} {a0 : Array Value} {EL : List (String × Nat)} {nw : Bool} {h0 h h' : Heap} {T T' : State} {fr fr' fr0 : List Addr} {ce sl : Nat} {rm : Room} {Q : Option Value → Heap → Prop}
/-- where a walk stands: tables, heap, places freed, what may be written, what the frame's method is -/
def Wk (p : Program) (l : Launch) (e : Env) (R : Room) (s : State) (m : MethodId) (args : Array Value) (below : List Frame) (meth : Method) (c : Code) (y : MethodName) (bc : ByteArray) (mL : Nat) (rt : Option FieldType) (Z : State) (a0 : Array Value) (EL : List (String × Nat)) (nw : Bool) (h0 : Heap) (T : State) (h : Heap) (fr : List Addr) (ce sl : Nat) : Prop :=
  ∃ (vm : Vm) (k : Nat) (locs : List Loc), Stand p l e R (s.setVm vm) m args below meth c T locs ce sl ∧ T.heap = h ∧ (s.Since vm k ∧ k ≤ h.size ∧ Z.Warmed39 vm ∧ vm.findClass y.cls = some m.cls ∧ (nw = true → s.WarmedH vm)) ∧
    (EW Z a0 EL ∧ CHr Z EL s.vm h0 vm h) ∧ (Fr Z.heap.size locs ∧ Ext Z.heap h ∧ ∀ x ∈ fr, Z.heap.size ≤ x ∧ x < h.size ∧ Safe Z EL vm h x) ∧ p.tables.exec = Jvm.exec ∧ c.code = bc ∧ c.maxLocals = mL ∧ meth.sig.returnType = rt ∧ meth.locks = false ∧ meth.name = y.name
/-- how a call ends -/
def Post (Z : State) (EL : List (String × Nat)) (nw : Bool) (s : State) (h0 : Heap) (fr0 : List Addr) (Q : Option Value → Heap → Prop) (rm : Room) (o : Outcome) (U : State) : Prop :=
  ∃ v L, o = .returned v ∧ (Keep h0 U.heap fr0 ∧ Q v U.heap ∧ Fr Z.heap.size L) ∧ CHr Z EL s.vm h0 U.vm U.heap ∧ (nw = true → s.WarmedH U.vm) ∧ ReturnedEndW s o U L rm.cells rm.slots
/-- from here the body comes to its end -/
def Goes (p : Program) (e : Env) (below : List Frame) (s : State) (Z : State) (EL : List (String × Nat)) (nw : Bool) (h0 : Heap) (fr0 : List Addr) (Q : Option Value → Heap → Prop) (rm : Room) (T : State) (g : JFrame) : Prop :=
  ∃ s₂ o, Steps p.tables e below (T.setTop g) s₂ ∧ s₂.status = .running ∧ Ended s₂ below o ∧ Post Z EL nw s h0 fr0 Q rm o s₂
/-- a method's contract -/
def Met (l : Launch) (Z : State) (EL : List (String × Nat)) (nw : Bool) (y : MethodName) (bc : ByteArray) (mL : Nat) (rt : Option FieldType) (ws : List Jvm.Cond) (rm : Room) (as : Array Value) (h : Heap) (fr : List Addr) (Q : Option Value → Heap → Prop) : Prop :=
  MetFree l y (head1 (Jvm.Cond.code y bc mL rt :: ws) rm) (fun a U => a = as ∧ Z.Warmed39 U.vm ∧ U.heap = h ∧ CHv Z EL U.vm h ∧ ∀ x ∈ fr, Safe Z EL U.vm h x) (fun _ _ _ _ _ => True) (fun _ U o U' => Post Z EL nw U h fr Q rm o U')
theorem Wk.here (W : Wk p l e R s m args below meth c y bc mL rt Z a0 EL nw h0 T h fr ce sl) : At T m c below := by obtain ⟨vm, k, locs, X, -⟩ := W; exact X.here
theorem Wk.hx (W : Wk p l e R s m args below meth c y bc mL rt Z a0 EL nw h0 T h fr ce sl) : p.tables.exec = Jvm.exec := by obtain ⟨vm, k, locs, -, -, -, -, -, hx, -⟩ := W; exact hx
theorem Wk.hby (W : Wk p l e R s m args below meth c y bc mL rt Z a0 EL nw h0 T h fr ce sl) : c.code = bc := by obtain ⟨vm, k, locs, -, -, -, -, -, -, hb, -⟩ := W; exact hb
theorem Wk.hml (W : Wk p l e R s m args below meth c y bc mL rt Z a0 EL nw h0 T h fr ce sl) : c.maxLocals = mL := by obtain ⟨vm, k, locs, -, -, -, -, -, -, -, hb, -⟩ := W; exact hb
theorem Wk.ext (W : Wk p l e R s m args below meth c y bc mL rt Z a0 EL nw h0 T h fr ce sl) : Ext Z.heap h := by obtain ⟨vm, k, locs, -, -, -, -, ⟨-, q, -⟩, -⟩ := W; exact q
theorem Wk.frs (W : Wk p l e R s m args below meth c y bc mL rt Z a0 EL nw h0 T h fr ce sl) : ∀ x ∈ fr, Z.heap.size ≤ x ∧ x < h.size := by obtain ⟨vm, k, locs, -, -, -, -, ⟨-, -, q⟩, -⟩ := W; exact fun x hx => ⟨(q x hx).1, (q x hx).2.1⟩
theorem Wk.ew (W : Wk p l e R s m args below meth c y bc mL rt Z a0 EL nw h0 T h fr ce sl) : EW Z a0 EL := by obtain ⟨vm, k, locs, -, -, -, ⟨q, -⟩, -⟩ := W; exact q
theorem Wk.less (W : Wk p l e R s m args below meth c y bc mL rt Z a0 EL nw h0 T h fr ce sl) (q : ∀ x ∈ fr', x ∈ fr) : Wk p l e R s m args below meth c y bc mL rt Z a0 EL nw h0 T h fr' ce sl := by
  obtain ⟨vm, k, locs, X, w1, w2, w3, ⟨w4, w5, w6⟩, w7⟩ := W
  exact ⟨vm, k, locs, X, w1, w2, w3, ⟨w4, w5, fun x hx => w6 x (q x hx)⟩, w7⟩
theorem Wk.more {ce' sl' : Nat} (W : Wk p l e R s m args below meth c y bc mL rt Z a0 EL nw h0 T h fr ce sl) (q1 : ce ≤ ce') (q2 : sl ≤ sl') : Wk p l e R s m args below meth c y bc mL rt Z a0 EL nw h0 T h fr ce' sl' := by
  obtain ⟨vm, k, locs, X, w1⟩ := W
  exact ⟨vm, k, locs, X.more q1 q2, w1⟩
theorem Goes.step {g g' : JFrame} (st : ∀ t, Steps p.tables e below (T'.setTop g') t → Steps p.tables e below (T.setTop g) t) (K : Goes p e below s Z EL nw h0 fr0 Q rm T' g') : Goes p e below s Z EL nw h0 fr0 Q rm T g := by
  obtain ⟨s2, o, q1, q2⟩ := K; exact ⟨s2, o, st _ q1, q2⟩
theorem Goes.cast {g g' : JFrame} (q : g = g') (K : Goes p e below s Z EL nw h0 fr0 Q rm T g') : Goes p e below s Z EL nw h0 fr0 Q rm T g := q ▸ K
theorem Met.intro {ws : List Jvm.Cond} {as : Array Value} (hn : plainFor y = true) (hEL : EW Z a0 EL) (hX : Ext Z.heap h) (hfr : ∀ x ∈ fr, Z.heap.size ≤ x ∧ x < h.size)
    (body : ∀ p e s m below meth c T, Wk p l e rm s m as below meth c y bc mL rt Z a0 EL nw h T h fr 0 0 → Goes p e below s Z EL nw h fr Q rm T (entryFrame m as mL)) : Met l Z EL nw y bc mL rt ws rm as h fr Q := by
  refine MetFree.of_bodySF hn hisR ?_
  intro p e s m args below meth c s₁ Bd hml hP hK
  obtain ⟨rfl, hZ, hh, hC, hS⟩ := hP
  have e0 : s₁.heap = h := by rw [← hh, Bd.state]; rfl
  have hX0 : Stand p l e rm s m args below meth c s₁ [] 0 0 := Stand.of_body Bd
  exact body p e s m below meth c s₁ ⟨s.vm, 0, [], hX0, e0, ⟨(State.WarmedH.refl s).since 0, Nat.zero_le _, hZ, findClass_of_methodNamed Bd.named, fun _ => State.WarmedH.refl s⟩, ⟨hEL, CHr.refl hC⟩, ⟨Fr.nil _, hX, fun x hx => ⟨(hfr x hx).1, (hfr x hx).2, hS x hx⟩⟩, Bd.exec, Bd.bytes, hml, Bd.returns, Bd.notSynchronized, (name_of_methodNamed Bd.named Bd.method).1⟩
/-- the end -/
theorem fin {pc : Nat} {L : Array Slot} {S : List Value} {v : Option Value} (W : Wk p l e R s m args below meth c y bc mL rt Z a0 EL nw h0 T h fr ce sl) (hv : rt = none → v = none) (hK : Keep h0 h fr0) (hQ : Q v h) (hc : ce ≤ rm.cells) (hs : sl ≤ rm.slots)
    (st : ∀ locs vm, Stand p l e R (s.setVm vm) m args below meth c T locs ce sl → meth.sig.returnType = rt → ∀ fs : List Frame, (∀ (f : JFrame) (acts : List Action), f.method = m → f.locked = none → f.entered = [] → (doReturn e (T.setTop f) acts v).1 = T.setFrames fs) → Steps p.tables e below (T.setTop (mkF m pc L S)) (T.setFrames fs)) :
    Goes p e below s Z EL nw h0 fr0 Q rm T (mkF m pc L S) := by
  obtain ⟨vm, k, locs, X, eT, ⟨a1, a2, a3, a4, a5⟩, ⟨b1, b2⟩, ⟨d1, d2, d3⟩, hx, hby, hml, hrt, hlk, hnm⟩ := W
  subst eT
  obtain ⟨fs, q1, q2, q3, q4⟩ := X.leaveW a1 a2 (v := v) (fun z => hv (hrt.symm.trans z)) hlk
  refine ⟨_, _, st locs vm X hrt fs q1, q2, q3, v, locs, rfl, ⟨hK, hQ, d1⟩, ?_, fun z => ?_, q4.1, q4.2.1, q4.2.2.1, q4.2.2.2.mono hc hs⟩
  · show CHr Z EL s.vm h0 T.vm T.heap
    exact b2.trans (CHv.at X a3 b1 b2.1)
  · show s.WarmedH T.vm
    exact State.WarmedH.trans (t := s.setVm vm) (a5 z) X.warmed
theorem g_return {pc : Nat} {L : Array Slot} (W : Wk p l e R s m args below meth c y bc mL none Z a0 EL nw h0 T h fr ce sl) (hd : decode bc pc = .ok (.return_, 1)) (hK : Keep h0 h fr0) (hQ : Q none h) (hc : ce ≤ rm.cells) (hs : sl ≤ rm.slots) : Goes p e below s Z EL nw h0 fr0 Q rm T (mkF m pc L []) :=
  fin W (fun _ => rfl) hK hQ hc hs fun locs vm X hrt fs q => X.returnOut W.hx hrt (hb W.hby hd) q
theorem g_areturn {pc : Nat} {L : Array Slot} {S : List Value} {w : Value} {t : FieldType} (W : Wk p l e R s m args below meth c y bc mL (some t) Z a0 EL nw h0 T h fr ce sl) (hd : decode bc pc = .ok (.areturn, 1)) (ht : t.isReference = true) (hw : w.isRef = true) (hn : narrow t w = w) (hK : Keep h0 h fr0) (hQ : Q (some w) h) (hc : ce ≤ rm.cells) (hs : sl ≤ rm.slots) : Goes p e below s Z EL nw h0 fr0 Q rm T (mkF m pc L (w :: S)) :=
  fin W (fun z => nomatch z) hK hQ hc hs fun locs vm X hrt fs q => retOut X W.hx hrt hn (Or.inr (Or.inr (Or.inr (Or.inr ⟨rfl, ht, hw⟩)))) (hb W.hby hd) q
theorem g_ireturn {pc : Nat} {L : Array Slot} {S : List Value} {z : Int32} {t : FieldType} (W : Wk p l e R s m args below meth c y bc mL (some t) Z a0 EL nw h0 T h fr ce sl) (hd : decode bc pc = .ok (.ireturn, 1)) (ht : t = .int ∨ t = .boolean ∨ t = .byte ∨ t = .char ∨ t = .short) (hn : narrow t (.int z) = .int z) (hK : Keep h0 h fr0) (hQ : Q (some (.int z)) h) (hc : ce ≤ rm.cells) (hs : sl ≤ rm.slots) : Goes p e below s Z EL nw h0 fr0 Q rm T (mkF m pc L (.int z :: S)) :=
  fin W (fun z => nomatch z) hK hQ hc hs fun locs vm X hrt fs q => retOut X W.hx hrt hn (Or.inl ⟨rfl, ht, z, rfl⟩) (hb W.hby hd) q
theorem g_ireturnN {pc : Nat} {L : Array Slot} {S : List Value} {z : Int32} {t : FieldType} (W : Wk p l e R s m args below meth c y bc mL (some t) Z a0 EL nw h0 T h fr ce sl) (hd : decode bc pc = .ok (.ireturn, 1)) (ht : t = .boolean ∨ t = .byte ∨ t = .char ∨ t = .short) (hK : Keep h0 h fr0) (hQ : Q (some (.int (RoadKit.nar t z))) h) (hc : ce ≤ rm.cells) (hs : sl ≤ rm.slots) : Goes p e below s Z EL nw h0 fr0 Q rm T (mkF m pc L (.int z :: S)) :=
  fin W (fun z => nomatch z) hK hQ hc hs fun locs vm X hrt fs q => retN X W.hx hrt ht (hb W.hby hd) q
/-- a step that writes nothing of the heap: a new Stand at the same heap -/
theorem Wk.same {T' : State} (W : Wk p l e R s m args below meth c y bc mL rt Z a0 EL nw h0 T h fr ce sl) (q : ∀ vm locs, Z.Warmed39 vm → vm.findClass y.cls = some m.cls → Stand p l e R (s.setVm vm) m args below meth c T locs ce sl → Stand p l e R (s.setVm vm) m args below meth c T' locs ce sl) (e' : T'.heap = h) : Wk p l e R s m args below meth c y bc mL rt Z a0 EL nw h0 T' h fr ce sl := by
  obtain ⟨vm, k, locs, X, eT, w2, w3, w4, w5⟩ := W
  exact ⟨vm, k, locs, q vm locs w2.2.2.1 w2.2.2.2.1 X, e', w2, w3, w4, w5⟩
theorem g_getfield (W : Wk p l e R s m args below meth c y bc mL rt Z a0 EL nw h0 T h fr ce sl) {R0 O n d host : String} {index pc pc' : Nat} {L : Array Slot} {S : List Value} {a : Addr} {v : Value} (hd : decode bc pc = .ok (.getfield index, 3)) (hp : pc + 3 = pc') (w : (Jvm.Cond.fieldLink y.cls index R0 n d).before a0 Z = true ∨ (Jvm.Cond.fieldLinkNest y.cls index R0 n d host).before a0 Z = true) (via : Via Z R0 O n d) (F : Fld Z h a O n d v)
    (K : ∀ T', Wk p l e R s m args below meth c y bc mL rt Z a0 EL nw h0 T' h fr ce sl → Goes p e below s Z EL nw h0 fr0 Q rm T' (mkF m pc' L (v :: S))) : Goes p e below s Z EL nw h0 fr0 Q rm T (mkF m pc L (.ref a :: S)) := by
  have hx := W.hx
  have hby := W.hby
  obtain ⟨vm, k, locs, X, eT, w2, w3, w4, w5⟩ := W
  subst hp
  obtain ⟨T', X', e', st⟩ := getF X hx w2.2.2.1 (own := y.cls) w2.2.2.2.1 w via eT F (g := mkF m pc L (.ref a :: S)) rfl rfl (hb hby hd)
  exact Goes.step st (K T' ⟨vm, k, locs, X', e', w2, w3, w4, w5⟩)
theorem g_getstatic (W : Wk p l e R s m args below meth c y bc mL rt Z a0 EL nw h0 T h fr ce sl) {R0 O n d : String} {index pc pc' : Nat} {L : Array Slot} {S : List Value} {v : Value} (hd : decode bc pc = .ok (.getstatic index, 3)) (hp : pc + 3 = pc') (w : (Jvm.Cond.fieldLink y.cls index R0 n d).before a0 Z = true) (via : Via Z R0 O n d) (F : Sta Z Z.heap O n d v)
    (K : ∀ T', Wk p l e R s m args below meth c y bc mL rt Z a0 EL nw h0 T' h fr ce sl → Goes p e below s Z EL nw h0 fr0 Q rm T' (mkF m pc' L (v :: S))) : Goes p e below s Z EL nw h0 fr0 Q rm T (mkF m pc L S) := by
  have hx := W.hx
  have hby := W.hby
  have hE := W.ext
  obtain ⟨vm, k, locs, X, eT, w2, w3, w4, w5⟩ := W
  subst hp
  obtain ⟨T', X', e', st⟩ := getS X hx w2.2.2.1 (own := y.cls) (host := "") w2.2.2.2.1 w via eT (F.ext hE) (g := mkF m pc L S) rfl (hb hby hd)
  exact Goes.step st (K T' ⟨vm, k, locs, X', e', w2, w3, w4, w5⟩)
theorem g_checkcast (W : Wk p l e R s m args below meth c y bc mL rt Z a0 EL nw h0 T h fr ce sl) {K0 : String} {index pc pc' : Nat} {L : Array Slot} {S : List Value} {a : Addr} (hd : decode bc pc = .ok (.checkcast index, 3)) (hp : pc + 3 = pc') (w : (Jvm.Cond.classLink y.cls index K0).before a0 Z = true) (F : Ins Z h a K0 true)
    (K : ∀ T', Wk p l e R s m args below meth c y bc mL rt Z a0 EL nw h0 T' h fr ce sl → Goes p e below s Z EL nw h0 fr0 Q rm T' (mkF m pc' L (.ref a :: S))) : Goes p e below s Z EL nw h0 fr0 Q rm T (mkF m pc L (.ref a :: S)) := by
  have hx := W.hx
  have hby := W.hby
  obtain ⟨vm, k, locs, X, eT, w2, w3, w4, w5⟩ := W
  subst hp
  obtain ⟨T', X', e', st⟩ := castY X hx w2.2.2.1 (own := y.cls) w2.2.2.2.1 w eT F (g := mkF m pc L (.ref a :: S)) rfl rfl (hb hby hd)
  exact Goes.step st (K T' ⟨vm, k, locs, X', e', w2, w3, w4, w5⟩)
theorem g_instY (W : Wk p l e R s m args below meth c y bc mL rt Z a0 EL nw h0 T h fr ce sl) {K0 : String} {index pc pc' : Nat} {L : Array Slot} {S : List Value} {a : Addr} (hd : decode bc pc = .ok (.instanceof index, 3)) (hp : pc + 3 = pc') (w : (Jvm.Cond.classLink y.cls index K0).before a0 Z = true) (F : Ins Z h a K0 true)
    (K : ∀ T', Wk p l e R s m args below meth c y bc mL rt Z a0 EL nw h0 T' h fr ce sl → Goes p e below s Z EL nw h0 fr0 Q rm T' (mkF m pc' L (.int 1 :: S))) : Goes p e below s Z EL nw h0 fr0 Q rm T (mkF m pc L (.ref a :: S)) := by
  have hx := W.hx
  have hby := W.hby
  obtain ⟨vm, k, locs, X, eT, w2, w3, w4, w5⟩ := W
  subst hp
  obtain ⟨T', X', e', st⟩ := instY X hx w2.2.2.1 (own := y.cls) w2.2.2.2.1 w eT F (g := mkF m pc L (.ref a :: S)) rfl rfl (hb hby hd)
  exact Goes.step st (K T' ⟨vm, k, locs, X', e', w2, w3, w4, w5⟩)
theorem g_initO (W : Wk p l e R s m args below meth c y bc mL rt Z a0 EL nw h0 T h fr ce sl) {idx pc pc' Wd : Nat} {L : Array Slot} {S : List Value} {a : Addr} (hd : decode bc pc = .ok (.invokespecial idx, 3)) (hp : pc + 3 = pc') (w1 : (Jvm.Cond.methodLink y.cls idx Lib.objectInit).before a0 Z = true) (w2 : (Jvm.Cond.instanceMethod Lib.objectInit).before a0 Z = true) (w3 : (Jvm.Cond.code Lib.objectInit ⟨#[0xb1]⟩ 1 none).before a0 Z = true)
    (hL : L.size = mL) (hW : (S.map fun v => v.category).sum = Wd) (hf : 1 ≤ R.frames) (hl : Wd + 12 ≤ R.locals)
    (K : ∀ T', Wk p l e R s m args below meth c y bc mL rt Z a0 EL nw h0 T' h fr ce sl → Goes p e below s Z EL nw h0 fr0 Q rm T' (mkF m pc' L S)) : Goes p e below s Z EL nw h0 fr0 Q rm T (mkF m pc L (.ref a :: S)) := by
  have hx := W.hx
  have hby := W.hby
  have hml := W.hml
  obtain ⟨vm, k, locs, X, eT, q2, q3, q4, q5⟩ := W
  subst hp
  obtain ⟨T', X', e', st⟩ := initO X hx q2.2.2.1 (own := y.cls) q2.2.2.2.1 w1 w2 w3 eT (g := mkF m pc L (.ref a :: S)) rfl (by rw [hml]; exact hL) rfl (hb hby hd) hf (W := Wd) (by show 2 * 0 + _ ≤ _; rw [hW]; exact Nat.le_of_eq (Nat.zero_add _)) hl
  exact Goes.step st (K T' ⟨vm, k, locs, X', e', q2, q3, q4, q5⟩)
/-- a fresh place may be written -/
theorem g_new (W : Wk p l e R s m args below meth c y bc mL rt Z a0 EL nw h0 T h fr ce sl) {C : String} {index n pc pc' : Nat} {L : Array Slot} {S : List Value} (hd : decode bc pc = .ok (.new index, 3)) (hp : pc + 3 = pc') (w : (Jvm.Cond.classLink y.cls index C).before a0 Z = true) (wi : (Jvm.Cond.instantiable C n).before a0 Z = true) (wz : (Jvm.Cond.initialized C).before a0 Z = true) (hc : ce + 1 ≤ R.cells) (hs : sl + n ≤ R.slots)
    (K : ∀ T' h' a, a = h.size → Wk p l e R s m args below meth c y bc mL rt Z a0 EL nw h0 T' h' (a :: fr) (ce + 1) (sl + n) → Ext h h' → Exa Z h' a C → (∀ {O nm d : String} {ty : FieldType}, Laid Z a0 C O nm d → parseFieldDescriptor d = some ty → Fld Z h' a O nm d (defaultValue ty)) → Goes p e below s Z EL nw h0 fr0 Q rm T' (mkF m pc' L (.ref a :: S))) : Goes p e below s Z EL nw h0 fr0 Q rm T (mkF m pc L S) := by
  have hx := W.hx
  have hby := W.hby
  have hE := W.ext
  obtain ⟨vm, k, locs, X, eT, q2, q3, q4, q5⟩ := W
  subst hp
  obtain ⟨T', h', X', e', E, A, D, -, st⟩ := newO X hx q2.2.2.1 (own := y.cls) q2.2.2.2.1 w wi wz eT (g := mkF m pc L S) rfl (hb hby hd) hc hs
  refine Goes.step st (K T' h' _ rfl ⟨vm, k, locs, X', e', ⟨q2.1, Nat.le_trans q2.2.1 E.1, q2.2.2⟩, ⟨q3.1, q3.2.trans (CHr.ext E q3.2.1)⟩, ⟨q4.1, ⟨Nat.le_trans hE.1 E.1, fun a c q => E.2 a c (hE.2 a c q)⟩, fun x hx => ?_⟩, q5⟩ E A D)
  rcases List.mem_cons.mp hx with rfl | hx
  · exact ⟨hE.1, A.lt, (Safe.new (Nat.le_refl _)).ext E q3.2.1⟩
  · exact ⟨(q4.2.2 x hx).1, Nat.lt_of_lt_of_le (q4.2.2 x hx).2.1 E.1, (q4.2.2 x hx).2.2.ext E q3.2.1⟩
theorem g_newarray (W : Wk p l e R s m args below meth c y bc mL rt Z a0 EL nw h0 T h fr ce sl) {aty : ArrayType} {pc pc' cap : Nat} {L : Array Slot} {S : List Value} {n : Int32} (hd : decode bc pc = .ok (.newarray aty, 2)) (hp : pc + 2 = pc') (w : (Jvm.Cond.arrayClass (newarray.typeOf aty)).before a0 Z = true) (hn : ¬ n < 0) (hcap : n.toNatClampNeg ≤ cap) (hbig : cap * 8 ≤ 536870912) (hc : ce + 1 ≤ R.cells) (hs : sl + cap ≤ R.slots)
    (K : ∀ T' h' a kA, a = h.size → Wk p l e R s m args below meth c y bc mL rt Z a0 EL nw h0 T' h' (a :: fr) (ce + 1) (sl + cap) → Ext h h' → Arv Z h' a kA (newarray.typeOf aty) n [] (defaultValue (newarray.typeOf aty)) → Goes p e below s Z EL nw h0 fr0 Q rm T' (mkF m pc' L (.ref a :: S))) : Goes p e below s Z EL nw h0 fr0 Q rm T (mkF m pc L (.int n :: S)) := by
  have hx := W.hx
  have hby := W.hby
  have hE := W.ext
  obtain ⟨vm, k, locs, X, eT, q2, q3, q4, q5⟩ := W
  subst hp
  obtain ⟨T', h', kA, X', e', E, A, st⟩ := newP X hx q2.2.2.1 w eT (g := mkF m pc L (.int n :: S)) rfl (hb hby hd) rfl hn hcap hbig hc hs
  refine Goes.step st (K T' h' _ kA rfl ⟨vm, k, locs, X', e', ⟨q2.1, Nat.le_trans q2.2.1 E.1, q2.2.2⟩, ⟨q3.1, q3.2.trans (CHr.ext E q3.2.1)⟩, ⟨q4.1, ⟨Nat.le_trans hE.1 E.1, fun a c q => E.2 a c (hE.2 a c q)⟩, fun x hx => ?_⟩, q5⟩ E (Arv.new A hn))
  rcases List.mem_cons.mp hx with rfl | hx
  · exact ⟨hE.1, A.lt, (Safe.new (Nat.le_refl _)).ext E q3.2.1⟩
  · exact ⟨(q4.2.2 x hx).1, Nat.lt_of_lt_of_le (q4.2.2 x hx).2.1 E.1, (q4.2.2 x hx).2.2.ext E q3.2.1⟩
/-- behind one write -/
theorem Wk.wrote {vm : Vm} {k : Nat} {locs : List Loc} {a : Addr} {j : Nat} {v : Value} (hm : a ∈ fr) (Wr0 : Wr h h' a j v)
    (X' : Stand p l e R (s.setVm vm) m args below meth c T' (locs ++ [⟨a, j⟩]) ce sl) (e' : T'.heap = h') (q2 : s.Since vm k ∧ k ≤ h.size ∧ Z.Warmed39 vm ∧ vm.findClass y.cls = some m.cls ∧ (nw = true → s.WarmedH vm)) (q3 : EW Z a0 EL ∧ CHr Z EL s.vm h0 vm h) (q4 : Fr Z.heap.size locs ∧ Ext Z.heap h ∧ ∀ x ∈ fr, Z.heap.size ≤ x ∧ x < h.size ∧ Safe Z EL vm h x) (q5 : p.tables.exec = Jvm.exec ∧ c.code = bc ∧ c.maxLocals = mL ∧ meth.sig.returnType = rt ∧ meth.locks = false ∧ meth.name = y.name) :
    Wk p l e R s m args below meth c y bc mL rt Z a0 EL nw h0 T' h' fr ce sl := by
  have hS := (q4.2.2 a hm).2.2
  have K0 := Keep.of_wr Wr0
  exact ⟨vm, k, _, X', e', ⟨q2.1, Nat.le_trans q2.2.1 K0.1, q2.2.2⟩, ⟨q3.1, q3.2.trans (CHr.wr Wr0 hS q3.2.1)⟩, ⟨Fr.snoc X' q4.1 (q4.2.2 a hm).1, ((show Old Z Z.heap.size h from ⟨rfl, q4.2.1⟩).wr Wr0 (q4.2.2 a hm).1).2, fun x hx => ⟨(q4.2.2 x hx).1, Nat.lt_of_lt_of_le (q4.2.2 x hx).2.1 K0.1, Safe.wr Wr0 hS q3.2.1 (q4.2.2 x hx).2.2⟩⟩, q5⟩
theorem g_putfield (W : Wk p l e R s m args below meth c y bc mL rt Z a0 EL nw h0 T h fr ce sl) {R0 O n d host C : String} {index kk pc pc' : Nat} {ty : FieldType} {L : Array Slot} {S : List Value} {a : Addr} {v old : Value} (hd : decode bc pc = .ok (.putfield index, 3)) (hp : pc + 3 = pc') (w : (Jvm.Cond.fieldLink y.cls index R0 n d).before a0 Z = true ∨ (Jvm.Cond.fieldLinkNest y.cls index R0 n d host).before a0 Z = true) (via : Via Z R0 O n d) (F : Fld Z h a O n d old) (E : Exa Z h a C)
    (Lw : (Jvm.Cond.lays C O n d).before a0 Z = true ∨ ((Jvm.Cond.laysFinal C O n d).before a0 Z = true ∧ y.cls = O ∧ y.name = "<init>")) (wi : (Jvm.Cond.instantiable C kk).before a0 Z = true) (hty : parseFieldDescriptor d = some ty) (hn : narrow ty v = v) (hf : fits ty v = true) (hm : a ∈ fr)
    (K : ∀ T' h', Wk p l e R s m args below meth c y bc mL rt Z a0 EL nw h0 T' h' fr ce sl → Wr h h' a (RoadKit.slotOf Z O n d) v → Goes p e below s Z EL nw h0 fr0 Q rm T' (mkF m pc' L S)) : Goes p e below s Z EL nw h0 fr0 Q rm T (mkF m pc L (v :: .ref a :: S)) := by
  have hx := W.hx
  have hby := W.hby
  obtain ⟨vm, k, locs, X, eT, q2, q3, q4, q5⟩ := W
  subst hp
  obtain ⟨T', h', X', e', W', st⟩ := putF X hx q2.2.2.1 (own := y.cls) q2.2.2.2.1 w via eT F E (Lw.imp id fun z => ⟨z.1, z.2.1, q5.2.2.2.2.2.trans z.2.2⟩) wi hty hn hf (g := mkF m pc L (v :: .ref a :: S)) rfl rfl (hb hby hd)
  exact Goes.step st (K T' h' (Wk.wrote hm W' X' e' q2 q3 q4 q5) W')
theorem g_castore (W : Wk p l e R s m args below meth c y bc mL rt Z a0 EL nw h0 T h fr ce sl) {pc pc' i : Nat} {kA : ClassId} {L : Array Slot} {S : List Value} {a : Addr} {j x x' n : Int32} {vs : List Value} {dv : Value} (hd : decode bc pc = .ok (.castore, 1)) (hp : pc + 1 = pc') (hx' : RoadKit.nar .char x = x') (A : Arv Z h a kA .char n vs dv) (hj : ¬ j < 0 ∧ j < n) (hi : j.toNatClampNeg = i) (hl : i < vs.length) (hm : a ∈ fr)
    (K : ∀ T' h', Wk p l e R s m args below meth c y bc mL rt Z a0 EL nw h0 T' h' fr ce sl → Wr h h' a j.toNatClampNeg (.int x') → Arv Z h' a kA .char n (vs.set i (.int x')) dv → Goes p e below s Z EL nw h0 fr0 Q rm T' (mkF m pc' L S)) : Goes p e below s Z EL nw h0 fr0 Q rm T (mkF m pc L (.int x :: .int j :: .ref a :: S)) := by
  have hx := W.hx
  have hby := W.hby
  obtain ⟨vm, k, locs, X, eT, q2, q3, q4, q5⟩ := W
  subst hp hx'
  obtain ⟨cl, A1, A2, A3, A4, A5, A6⟩ := A
  obtain ⟨T', h', X', e', W', st⟩ := stC X hx q2.2.2.1 eT A1 (j := j) (x := x) (inb_of A3 hj) (g := mkF m pc L (.int x :: .int j :: .ref a :: S)) rfl rfl (hb hby hd)
  exact Goes.step st (K T' h' (Wk.wrote hm W' X' e' q2 q3 q4 q5) W' (Arv.set A1 A2 A3 A4 A5 A6 (fits_nar_char _) W' i hi hl))
theorem g_bastore (W : Wk p l e R s m args below meth c y bc mL rt Z a0 EL nw h0 T h fr ce sl) {pc pc' i : Nat} {kA : ClassId} {L : Array Slot} {S : List Value} {a : Addr} {j x x' n : Int32} {vs : List Value} {dv : Value} (hd : decode bc pc = .ok (.bastore, 1)) (hp : pc + 1 = pc') (hx' : RoadKit.nar .byte x = x') (A : Arv Z h a kA .byte n vs dv) (hj : ¬ j < 0 ∧ j < n) (hi : j.toNatClampNeg = i) (hl : i < vs.length) (hm : a ∈ fr)
    (K : ∀ T' h', Wk p l e R s m args below meth c y bc mL rt Z a0 EL nw h0 T' h' fr ce sl → Wr h h' a j.toNatClampNeg (.int x') → Arv Z h' a kA .byte n (vs.set i (.int x')) dv → Goes p e below s Z EL nw h0 fr0 Q rm T' (mkF m pc' L S)) : Goes p e below s Z EL nw h0 fr0 Q rm T (mkF m pc L (.int x :: .int j :: .ref a :: S)) := by
  have hx := W.hx
  have hby := W.hby
  obtain ⟨vm, k, locs, X, eT, q2, q3, q4, q5⟩ := W
  subst hp hx'
  obtain ⟨cl, A1, A2, A3, A4, A5, A6⟩ := A
  obtain ⟨T', h', X', e', W', st⟩ := stB X hx q2.2.2.1 eT A1 (j := j) (x := x) (inb_of A3 hj) (g := mkF m pc L (.int x :: .int j :: .ref a :: S)) rfl rfl (hb hby hd)
  exact Goes.step st (K T' h' (Wk.wrote hm W' X' e' q2 q3 q4 q5) W' (Arv.set A1 A2 A3 A4 A5 A6 (fits_nar_byte _) W' i hi hl))
theorem g_arraylength (W : Wk p l e R s m args below meth c y bc mL rt Z a0 EL nw h0 T h fr ce sl) {pc pc' : Nat} {kA : ClassId} {ty : FieldType} {L : Array Slot} {S vs : List Value} {a : Addr} {n : Int32} {dv : Value} (hd : decode bc pc = .ok (.arraylength, 1)) (hp : pc + 1 = pc') (A : Arv Z h a kA ty n vs dv) (K : Goes p e below s Z EL nw h0 fr0 Q rm T (mkF m pc' L (.int n :: S))) : Goes p e below s Z EL nw h0 fr0 Q rm T (mkF m pc L (.ref a :: S)) := by
  have hx := W.hx
  have hby := W.hby
  obtain ⟨vm, k, locs, X, eT, q2, q3, q4, q5⟩ := W
  subst hp
  obtain ⟨cl, A1, A2, A3, A4, A5, A6⟩ := A
  refine Goes.step (fun t q => X.arraylength hx (by rw [eT]; exact A1.1) (State.isArrayOf_alike q2.2.2.1.alike A1.2.1) (g := mkF m pc L (.ref a :: S)) rfl rfl (hb hby hd) t ?_) K
  rw [len_of A3 A4]; exact q
theorem g_caload (W : Wk p l e R s m args below meth c y bc mL rt Z a0 EL nw h0 T h fr ce sl) {pc pc' : Nat} {kA : ClassId} {L : Array Slot} {S vs : List Value} {a : Addr} {n j : Int32} {dv v : Value} (hd : decode bc pc = .ok (.caload, 1)) (hp : pc + 1 = pc') (A : Arv Z h a kA .char n vs dv) (hj : ¬ j < 0 ∧ j < n) (hv : vs.getD j.toNatClampNeg dv = v) (K : Goes p e below s Z EL nw h0 fr0 Q rm T (mkF m pc' L (v :: S))) : Goes p e below s Z EL nw h0 fr0 Q rm T (mkF m pc L (.int j :: .ref a :: S)) := by
  have hx := W.hx
  have hby := W.hby
  obtain ⟨vm, k, locs, X, eT, q2, q3, q4, q5⟩ := W
  subst hp
  obtain ⟨cl, A1, A2, A3, A4, A5, A6⟩ := A
  exact Goes.step (fun t q => X.caload hx (j := j) (v := v) (by rw [eT]; exact A1.1) (State.isArrayOf_alike q2.2.2.1.alike A1.2.1) A1.2.2 (inb_of A3 hj) (A5.at (inb_of A3 hj) hv) (g := mkF m pc L (.int j :: .ref a :: S)) rfl rfl (hb hby hd) t q) K
theorem g_baload (W : Wk p l e R s m args below meth c y bc mL rt Z a0 EL nw h0 T h fr ce sl) {pc pc' : Nat} {kA : ClassId} {L : Array Slot} {S vs : List Value} {a : Addr} {n j : Int32} {dv v : Value} (hd : decode bc pc = .ok (.baload, 1)) (hp : pc + 1 = pc') (A : Arv Z h a kA .byte n vs dv) (hj : ¬ j < 0 ∧ j < n) (hv : vs.getD j.toNatClampNeg dv = v) (K : Goes p e below s Z EL nw h0 fr0 Q rm T (mkF m pc' L (v :: S))) : Goes p e below s Z EL nw h0 fr0 Q rm T (mkF m pc L (.int j :: .ref a :: S)) := by
  have hx := W.hx
  have hby := W.hby
  obtain ⟨vm, k, locs, X, eT, q2, q3, q4, q5⟩ := W
  subst hp
  obtain ⟨cl, A1, A2, A3, A4, A5, A6⟩ := A
  exact Goes.step (fun t q => X.baloadBytes hx (j := j) (v := v) (by rw [eT]; exact A1.1) (State.isArrayOf_alike q2.2.2.1.alike A1.2.1) A1.2.2 (inb_of A3 hj) (A5.at (inb_of A3 hj) hv) (g := mkF m pc L (.int j :: .ref a :: S)) rfl rfl (hb hby hd) t q) K
theorem g_aaload (W : Wk p l e R s m args below meth c y bc mL rt Z a0 EL nw h0 T h fr ce sl) {pc pc' : Nat} {kA : ClassId} {ty : FieldType} {L : Array Slot} {S vs : List Value} {a : Addr} {n j : Int32} {dv v : Value} (hd : decode bc pc = .ok (.aaload, 1)) (hp : pc + 1 = pc') (A : Arv Z h a kA ty n vs dv) (hty : ty.isReference = true) (hj : ¬ j < 0 ∧ j < n) (hv : vs.getD j.toNatClampNeg dv = v) (K : Goes p e below s Z EL nw h0 fr0 Q rm T (mkF m pc' L (v :: S))) : Goes p e below s Z EL nw h0 fr0 Q rm T (mkF m pc L (.int j :: .ref a :: S)) := by
  have hx := W.hx
  have hby := W.hby
  obtain ⟨vm, k, locs, X, eT, q2, q3, q4, q5⟩ := W
  subst hp
  obtain ⟨cl, A1, A2, A3, A4, A5, A6⟩ := A
  exact Goes.step (fun t q => X.aaload hx (j := j) (v := v) (by rw [eT]; exact A1.1) (State.isArrayOf_alike q2.2.2.1.alike A1.2.1) hty A1.2.2 (inb_of A3 hj) (A5.at (inb_of A3 hj) hv) (g := mkF m pc L (.int j :: .ref a :: S)) rfl rfl (hb hby hd) t q) K
theorem g_irem (W : Wk p l e R s m args below meth c y bc mL rt Z a0 EL nw h0 T h fr ce sl) {pc pc' : Nat} {L : Array Slot} {S : List Value} {x z : Int32} (hd : decode bc pc = .ok (.irem, 1)) (hp : pc + 1 = pc') (hz : z ≠ 0) (K : Goes p e below s Z EL nw h0 fr0 Q rm T (mkF m pc' L (.int (x % z) :: S))) : Goes p e below s Z EL nw h0 fr0 Q rm T (mkF m pc L (.int z :: .int x :: S)) := by
  have hx := W.hx
  have hby := W.hby
  obtain ⟨vm, k, locs, X, -⟩ := W
  subst hp
  exact Goes.step (fun t q => iremM X hx (g := mkF m pc L (.int z :: .int x :: S)) rfl (hb hby hd) rfl hz q) K
theorem g_ldcI (W : Wk p l e R s m args below meth c y bc mL rt Z a0 EL nw h0 T h fr ce sl) {pc pc' index : Nat} {L : Array Slot} {S : List Value} {v : Int32} (hd : decode bc pc = .ok (.ldc index, 2)) (hp : pc + 2 = pc') (w : (Jvm.Cond.constant y.cls index v).before a0 Z = true) (K : Goes p e below s Z EL nw h0 fr0 Q rm T (mkF m pc' L (.int v :: S))) : Goes p e below s Z EL nw h0 fr0 Q rm T (mkF m pc L S) := by
  have hx := W.hx
  have hby := W.hby
  obtain ⟨vm, k, locs, X, eT, q2, q3, q4, q5⟩ := W
  subst hp
  exact Goes.step (fun t q => X.ldcI hx (own := y.cls) q2.2.2.2.1 (mvT q2.2.2.1 w) (g := mkF m pc L S) rfl (hb hby hd) q) K
end K1
section K2
variable {p : Program} {l : Launch} {e : Env} {R : Room} {s : State} {m : MethodId} {args : Array Value} {below : List Frame} {meth : Method} {c : Code} {y z : MethodName} {bc bc' : ByteArray} {mL mL' : Nat} {rt rt' : Option FieldType} {Z : State} {a0 : Array Value} {EL : List (String × Nat)} {nw : Bool} {h0 h h' : Heap} {T T' U : State} {fr fr' fr0 : List Addr} {ce sl kc ks len Wd : Nat} {rm rm' : Room} {Q Q' : Option Value → Heap → Prop} {as : Array Value}
theorem safe_at {vm vm1 : Vm} {x : Addr} (A : CHr Z EL vm h vm1 h) (S : Safe Z EL vm h x) : Safe Z EL vm1 h x := fun B => by
  rcases A.2.2 x B with q | q
  · exact S q
  · obtain ⟨cell, hc⟩ := Bk.there B
    exact absurd (Array.getElem?_eq_some_iff.mp hc).1 (Nat.not_lt.mpr q)
/-- who pays a call -/
def Pays (l : Launch) (R : Room) (p : Program) (e : Env) (below : List Frame) (s : State) (args : Array Value) (Z : State) (EL : List (String × Nat)) (nw : Bool) (y : MethodName) (len Wd : Nat) (as : Array Value) (h : Heap) (fr' : List Addr) (Q : Option Value → Heap → Prop) (kc ks : Nat) : Prop :=
  ∀ vm : Vm, Z.Warmed39 vm → CHv Z EL vm h → (∀ x ∈ fr', Safe Z EL vm h x) → BackS l R p e below (s.setVm vm) args y len Wd (fun A a => a = as ∧ A.U.heap = h ∧ A.cells + kc ≤ R.cells ∧ A.slots + ks ≤ R.slots)
    (fun A _ v B => ∃ L, (Keep h B.U.heap fr' ∧ Q v B.U.heap ∧ Fr Z.heap.size L) ∧ B.locs = A.locs ++ L ∧ B.cells = A.cells + kc ∧ B.slots = A.slots + ks ∧ CHr Z EL vm h B.U.vm B.U.heap ∧ (nw = true → (s.setVm vm).WarmedH B.U.vm))
theorem Met.pays (M : Met l Z EL nw y bc mL rt [] rm as h fr' Q) (wc : (Jvm.Cond.code y bc mL rt).before a0 Z = true) (wz : (Jvm.Cond.initialized y.cls).before a0 Z = true) (hEL : EW Z a0 EL) (hf : rm.frames + 1 ≤ R.frames) (hl : Wd + (mL + 11) + rm.locals ≤ R.locals) :
    Pays l R p e below s args Z EL nw y len Wd as h fr' Q rm.cells rm.slots := fun vm hZ H hS =>
  BackS.of_freeW (bytes := bc) (maxL := mL) (ret := rt) (E := fun _ first o t L k n => k = rm.cells ∧ n = rm.slots ∧ ∃ v, o = .returned v ∧ (Keep h t.heap fr' ∧ Q v t.heap ∧ Fr Z.heap.size L) ∧ CHr Z EL first.vm h t.vm t.heap ∧ (nw = true → first.WarmedH t.vm)) M hf hl
    (fun m meth c A a Y hp => have hU : Z.Warmed39 A.U.vm := wtrans (s := s.setVm vm) hZ Y.warmed
      ⟨by show (Jvm.Cond.and _ .tt).before a A.U = true; rw [Cond.before_and, mv hU wc]; rfl, mv hU wc, mv hU wz, hp.2.2.1, hp.2.2.2⟩)
    (fun m meth c A a g mk Y hp => by
      have C0 := CHv.at Y hZ hEL H
      exact ⟨hp.1, wtrans (s := s.setVm vm) hZ Y.warmed, hp.2.1, C0.1, fun x hx => safe_at C0 (hS x hx)⟩) (fun _ _ _ _ _ _ _ _ _ => trivial)
    (fun _ _ _ _ ⟨v, L, g1, g2, g3, g4, g5⟩ => ⟨L, _, _, g5, rfl, rfl, v, g1, g2, g3, g4⟩)
    (fun m meth c A a g mk v t L k n Y hp _ _ ⟨e1, e2, v', e3, e4, e5, e6⟩ => by
      cases e3; subst e1 e2
      exact ⟨L, e4, rfl, rfl, rfl, (CHv.at Y hZ hEL H).trans e5, fun q => State.WarmedH.trans (s := s.setVm vm) Y.warmed (e6 q)⟩)
theorem pays_back {Q0 : Option Value → Heap → List Loc → Prop} (hEL : EW Z a0 EL)
    (K : ∀ vm : Vm, Z.Warmed39 vm → Back l R p e below (s.setVm vm) args y len Wd (fun P a => a = as ∧ P.U.heap = h ∧ P.cells + kc ≤ R.cells ∧ P.slots + ks ≤ R.slots) (fun P _ v B => ∃ L, Q0 v B.U.heap L ∧ B.locs = P.locs ++ L ∧ B.cells = P.cells + kc ∧ B.slots = P.slots + ks))
    (q : ∀ v h' L, Q0 v h' L → Keep h h' fr' ∧ Q v h' ∧ Fr Z.heap.size L) : Pays l R p e below s args Z EL nw y len Wd as h fr' Q kc ks := fun vm hZ H hS m meth c A g ig mk a X hg hsize hdg hW hn hp => by
  obtain ⟨v, B, X', ⟨L, hq, e1, e2, e3⟩, st⟩ := K vm hZ m meth c A g ig mk a X hg hsize hdg hW hn hp
  obtain ⟨k1, k2, k3⟩ := q _ _ _ hq
  refine ⟨v, B, X'.retabled X'.warmed.wide, X'.warmed.since _, ?_, ⟨L, ⟨k1, k2, k3⟩, e1, e2, e3, ?_, fun _ => X'.warmed⟩, st⟩
  · rw [hp.2.1]; exact k1.1
  · exact (CHr.keep k1 hS H).trans (CHv.at X' hZ hEL (CHv.keep k1 hS H))
theorem Wk.back {vm : Vm} {k : Nat} {locs L' : List Loc} (eT : T.heap = h) (q2 : s.Since vm k ∧ k ≤ h.size ∧ Z.Warmed39 vm ∧ vm.findClass y.cls = some m.cls ∧ (nw = true → s.WarmedH vm)) (q3 : EW Z a0 EL ∧ CHr Z EL s.vm h0 vm h) (q4 : Fr Z.heap.size locs ∧ Ext Z.heap h ∧ ∀ x ∈ fr, Z.heap.size ≤ x ∧ x < h.size ∧ Safe Z EL vm h x) (q5 : p.tables.exec = Jvm.exec ∧ c.code = bc ∧ c.maxLocals = mL ∧ meth.sig.returnType = rt ∧ meth.locks = false ∧ meth.name = y.name)
    (hm : ∀ x ∈ fr', x ∈ fr) (X' : Stand p l e R ((s.setVm vm).setVm U.vm) m args below meth c U (locs ++ L') (ce + kc) (sl + ks)) (hS' : (s.setVm vm).Since U.vm U.heap.size) (hg : T.heap.size ≤ U.heap.size) (k1 : Keep h U.heap fr') (k3 : Fr Z.heap.size L') (hC : CHr Z EL vm h U.vm U.heap) (hN : nw = true → (s.setVm vm).WarmedH U.vm) :
    Wk p l e R s m args below meth c y bc mL rt Z a0 EL nw h0 U U.heap fr (ce + kc) (sl + ks) :=
  ⟨U.vm, U.heap.size, locs ++ L', X', rfl, ⟨q2.1.trans hS' (Nat.le_trans q2.2.1 (eT ▸ hg)), Nat.le_refl _, State.Warmed39.trans (t := s.setVm vm) q2.2.2.1 hS'.1, (hS'.1.alike.findClass _ _).trans q2.2.2.2.1, fun w => State.WarmedH.trans (t := s.setVm vm) (q2.2.2.2.2 w) (hN w)⟩,
    ⟨q3.1, q3.2.trans hC⟩, ⟨q4.1.app k3, ((show Old Z Z.heap.size h from ⟨rfl, q4.2.1⟩).keep k1 fun x hx => (q4.2.2 x (hm x hx)).1).2, fun x hx => ⟨(q4.2.2 x hx).1, Nat.lt_of_lt_of_le (q4.2.2 x hx).2.1 k1.1, hC.safe (q4.2.2 x hx).2.1 (q4.2.2 x hx).2.2⟩⟩, q5⟩
theorem g_static (W : Wk p l e R s m args below meth c y bc mL rt Z a0 EL nw h0 T h fr ce sl) {index pc pc' : Nat} {L : Array Slot} {S argsL rest : List Value} (hd : decode bc pc = .ok (.invokestatic index, 3)) (hp : pc + 3 = pc')
    (wl : (Jvm.Cond.methodLink y.cls index z).before a0 Z = true) (ws : (Jvm.Cond.static z).before a0 Z = true) (wz : (Jvm.Cond.initialized z.cls).before a0 Z = true) (wc : (Jvm.Cond.code z bc' mL' rt').before a0 Z = true) (hy : z.cls ≠ "java/lang/invoke/MethodHandle" ∧ z.cls ≠ "java/lang/invoke/VarHandle")
    (hL : L.size = mL) (hSt : S = argsL.reverse ++ rest) (hlen : ∀ sig, parseMethodDescriptor z.desc = some sig → argsL.length = sig.parameters.length) (hW : (rest.map fun v => v.category).sum = Wd) (hm : ∀ x ∈ fr', x ∈ fr) (hc : ce + kc ≤ R.cells) (hs : sl + ks ≤ R.slots)
    (P : Pays l R p e below s args Z EL nw z 3 Wd argsL.toArray h fr' Q' kc ks)
    (K : ∀ v T' h', Wk p l e R s m args below meth c y bc mL rt Z a0 EL nw h0 T' h' fr (ce + kc) (sl + ks) → Keep h h' fr' → Q' v h' → Goes p e below s Z EL nw h0 fr0 Q rm T' (mkF m pc' L (v.toList ++ rest))) : Goes p e below s Z EL nw h0 fr0 Q rm T (mkF m pc L S) := by
  have hx := W.hx
  have hby := W.hby
  have hml := W.hml
  obtain ⟨vm, k, locs, X, eT, q2, q3, q4, q5⟩ := W
  subst hp
  obtain ⟨v, vm1, ⟨U, Lc, kc', ks'⟩, hv1, X', hS', hg, ⟨L', ⟨k1, k2, k3⟩, e1, e2, e3, hC, hN⟩, st⟩ := callSS X hx (own := y.cls) q2.2.2.2.1 (mvT q2.2.2.1 wl) (mvT q2.2.2.1 ws) (mvT q2.2.2.1 wz) (mvT q2.2.2.1 wc) hy (P vm q2.2.2.1 q3.2.1 fun x hx => (q4.2.2 x (hm x hx)).2.2) (g := mkF m pc L S) rfl (by rw [hml]; exact hL) (argsL := argsL) (rest := rest) hlen hSt (by show 2 * 0 + _ ≤ _; rw [hW]; exact Nat.le_of_eq (Nat.zero_add _)) (hb hby hd) (fun _ _ => ⟨rfl, eT, hc, hs⟩)
  dsimp only [Pt.U, Pt.locs, Pt.cells, Pt.slots] at X' hS' hg k1 k2 e1 e2 e3 hC hN st
  subst e1 e2 e3
  exact Goes.step (fun t q => st.trans q) (K v U U.heap (Wk.back eT q2 q3 q4 q5 hm X' hS' hg k1 k3 hC hN) k1 k2)
theorem g_special (W : Wk p l e R s m args below meth c y bc mL rt Z a0 EL nw h0 T h fr ce sl) {index pc pc' : Nat} {L : Array Slot} {S argsL rest : List Value} {a : Addr} (hd : decode bc pc = .ok (.invokespecial index, 3)) (hp : pc + 3 = pc') (hi : z.name = "<init>")
    (wl : (Jvm.Cond.methodLink y.cls index z).before a0 Z = true) (wi : (Jvm.Cond.instanceMethod z).before a0 Z = true) (wc : (Jvm.Cond.code z bc' mL' none).before a0 Z = true) (hy : z.cls ≠ "java/lang/invoke/MethodHandle" ∧ z.cls ≠ "java/lang/invoke/VarHandle")
    (hL : L.size = mL) (hSt : S = argsL.reverse ++ .ref a :: rest) (hlen : ∀ sig, parseMethodDescriptor z.desc = some sig → argsL.length = sig.parameters.length) (hW : (rest.map fun v => v.category).sum = Wd) (hm : ∀ x ∈ fr', x ∈ fr) (hc : ce + kc ≤ R.cells) (hs : sl + ks ≤ R.slots)
    (P : Pays l R p e below s args Z EL nw z 3 Wd (.ref a :: argsL).toArray h fr' Q' kc ks)
    (K : ∀ v T' h', Wk p l e R s m args below meth c y bc mL rt Z a0 EL nw h0 T' h' fr (ce + kc) (sl + ks) → Keep h h' fr' → Q' v h' → Goes p e below s Z EL nw h0 fr0 Q rm T' (mkF m pc' L (v.toList ++ rest))) : Goes p e below s Z EL nw h0 fr0 Q rm T (mkF m pc L S) := by
  have hx := W.hx
  have hby := W.hby
  have hml := W.hml
  obtain ⟨vm, k, locs, X, eT, q2, q3, q4, q5⟩ := W
  subst hp
  obtain ⟨v, vm1, ⟨U, Lc, kc', ks'⟩, hv1, X', hS', hg, ⟨L', ⟨k1, k2, k3⟩, e1, e2, e3, hC, hN⟩, st⟩ := X.specialBackS hx hi (own := y.cls) q2.2.2.2.1 (mvT q2.2.2.1 wl) (mvT q2.2.2.1 wi) (mvT q2.2.2.1 wc) hy (P vm q2.2.2.1 q3.2.1 fun x hx => (q4.2.2 x (hm x hx)).2.2) (g := mkF m pc L S) rfl (by rw [hml]; exact hL) (Steps.refl _) (a := a) (argsL := argsL) (rest := rest) hlen hSt (by show 2 * 0 + _ ≤ _; rw [hW]; exact Nat.le_of_eq (Nat.zero_add _)) (hb hby hd) (fun _ _ => ⟨rfl, eT, hc, hs⟩)
  dsimp only [Pt.U, Pt.locs, Pt.cells, Pt.slots] at X' hS' hg k1 k2 e1 e2 e3 hC hN st
  subst e1 e2 e3
  exact Goes.step (fun t q => st.trans q) (K v U U.heap (Wk.back eT q2 q3 q4 q5 hm X' hS' hg k1 k3 hC hN) k1 k2)
theorem g_virtual (W : Wk p l e R s m args below meth c y bc mL rt Z a0 EL nw h0 T h fr ce sl) {y' : MethodName} {C : String} {index pc pc' : Nat} {L : Array Slot} {S argsL rest : List Value} {a : Addr} (hd : decode bc pc = .ok (.invokevirtual index, 3)) (hp : pc + 3 = pc')
    (wl : (Jvm.Cond.methodLink y.cls index y').before a0 Z = true) (wd : (Jvm.Cond.declares y').before a0 Z = true) (ws : (Jvm.Cond.selects C y' y').before a0 Z = true) (wi : (Jvm.Cond.instanceMethod y').before a0 Z = true) (hy : y'.cls ≠ "java/lang/invoke/MethodHandle" ∧ y'.cls ≠ "java/lang/invoke/VarHandle") (E : Exa Z h a C)
    (hL : L.size = mL) (hSt : S = argsL.reverse ++ .ref a :: rest) (hlen : ∀ sig, parseMethodDescriptor y'.desc = some sig → argsL.length = sig.parameters.length) (hW : (rest.map fun v => v.category).sum = Wd) (hm : ∀ x ∈ fr', x ∈ fr) (hc : ce + kc ≤ R.cells) (hs : sl + ks ≤ R.slots)
    (P : Pays l R p e below s args Z EL nw y' 3 Wd (.ref a :: argsL).toArray h fr' Q' kc ks)
    (K : ∀ v T' h', Wk p l e R s m args below meth c y bc mL rt Z a0 EL nw h0 T' h' fr (ce + kc) (sl + ks) → Keep h h' fr' → Q' v h' → Goes p e below s Z EL nw h0 fr0 Q rm T' (mkF m pc' L (v.toList ++ rest))) : Goes p e below s Z EL nw h0 fr0 Q rm T (mkF m pc L S) := by
  have hx := W.hx
  have hby := W.hby
  have hml := W.hml
  obtain ⟨vm, k, locs, X, eT, q2, q3, q4, q5⟩ := W
  subst hp
  obtain ⟨cB, kB, r1, r2, r3⟩ := isOf (s := s.setVm vm) q2.2.2.1 eT E
  obtain ⟨v, vm1, ⟨U, Lc, kc', ks'⟩, hv1, X', hS', hg, ⟨L', ⟨k1, k2, k3⟩, e1, e2, e3, hC, hN⟩, st⟩ := X.virtualBackS hx (own := y.cls) q2.2.2.2.1 (mvT q2.2.2.1 wl) (mvT q2.2.2.1 wd) (notFace_of_selects (args := #[]) (mvT q2.2.2.1 ws)) (mvT q2.2.2.1 ws) (mvT q2.2.2.1 wi) hy (P vm q2.2.2.1 q3.2.1 fun x hx => (q4.2.2 x (hm x hx)).2.2) r1 r3 (g := mkF m pc L S) rfl (by rw [hml]; exact hL) (Steps.refl _) (argsL := argsL) (rest := rest) hlen hSt (by show 2 * 0 + _ ≤ _; rw [hW]; exact Nat.le_of_eq (Nat.zero_add _)) (hb hby hd) (fun _ _ => ⟨rfl, eT, hc, hs⟩)
  dsimp only [Pt.U, Pt.locs, Pt.cells, Pt.slots] at X' hS' hg k1 k2 e1 e2 e3 hC hN st
  subst e1 e2 e3
  exact Goes.step (fun t q => st.trans q) (K v U U.heap (Wk.back eT q2 q3 q4 q5 hm X' hS' hg k1 k3 hC hN) k1 k2)
/-- ldc of a String constant -/
theorem g_ldc (W : Wk p l e R s m args below meth c y bc mL rt Z a0 EL false h0 T h fr ce sl) {text : String} {index pc pc' n : Nat} {L : Array Slot} {S vs : List Value} {zz : Int32} (hd : decode bc pc = .ok (.ldc index, 2)) (hp : pc + 2 = pc') (w : (Jvm.Cond.stringLink y.cls index text).before a0 Z = true) (wS : ∀ a ∈ Bundle.stringAtoms, a.before a0 Z = true) (hmem : (y.cls, index) ∈ EL)
    (ht : (∀ c ∈ text.toList, c.toNat < 256) ∧ text.toList.map (fun c => Value.int (Jvm.Lit.byteI c.toNat.toUInt16)) = vs) (hz : ¬ zz < 0) (hl : zz.toNatClampNeg = vs.length) (hn : 4 * text.toList.length ≤ n) (hbig : n ≤ 536870912) (hc : ce + 2 ≤ R.cells) (hs : sl + (n + 4) ≤ R.slots)
    (K : ∀ T' h' a b k, Wk p l e R s m args below meth c y bc mL rt Z a0 EL false h0 T' h' fr (ce + 2) (sl + (n + 4)) → Ext h h' → Exa Z h' a "java/lang/String" → Fld Z h' a "java/lang/String" "coder" "B" (.int 0) → Fld Z h' a "java/lang/String" "value" "[B" (.ref b) → Arv Z h' b k .byte zz vs (.int 0) → (∀ x ∈ fr, x ≠ a ∧ x ≠ b) → Goes p e below s Z EL false h0 fr0 Q rm T' (mkF m pc' L (.ref a :: S))) : Goes p e below s Z EL false h0 fr0 Q rm T (mkF m pc L S) := by
  have hx := W.hx
  have hby := W.hby
  obtain ⟨vm, k, locs, X, eT, q2, q3, q4, q5⟩ := W
  subst hp
  obtain ⟨a, T', h', k1, b, kb, X', e', E, hS, hk, hZ, hf, x1, x2, x3, x4, x5, x6, hC, -, hne, st⟩ := ldcCH X hx q2.2.2.1 (own := y.cls) q2.2.2.2.1 w wS eT q2.1 q2.2.1 q3.1 hmem q3.2.1 ht hz hl (g := mkF m pc L S) rfl (hb hby hd) hn hbig hc hs
  have hfr : ∀ x ∈ fr, Safe Z EL T'.vm h' x := fun x hx => hC.safe (q4.2.2 x hx).2.1 (q4.2.2 x hx).2.2
  exact Goes.step st (K T' h' a b kb ⟨T'.vm, k1, locs, X', e', ⟨hS, hk, hZ, hf, fun w => nomatch w⟩, ⟨q3.1, q3.2.trans hC⟩, ⟨q4.1, ⟨Nat.le_trans q4.2.1.1 E.1, fun a c q => E.2 a c (q4.2.1.2 a c q)⟩, fun x hx => ⟨(q4.2.2 x hx).1, Nat.lt_of_lt_of_le (q4.2.2 x hx).2.1 E.1, hfr x hx⟩⟩, q5⟩ E x1 x2 x3 x4 fun x hx => hne x (hfr x hx))
/-- ldc of a String constant of which nothing is known -/
theorem g_ldcO (W : Wk p l e R s m args below meth c y bc mL rt Z a0 EL false h0 T h fr ce sl) {text : String} {index pc pc' n : Nat} {L : Array Slot} {S : List Value} (hd : decode bc pc = .ok (.ldc index, 2)) (hp : pc + 2 = pc') (w : (Jvm.Cond.stringLink y.cls index text).before a0 Z = true) (wS : ∀ a ∈ Bundle.stringAtoms, a.before a0 Z = true)
    (hn : 4 * text.toList.length ≤ n) (hbig : n ≤ 536870912) (hc : ce + 2 ≤ R.cells) (hs : sl + (n + 4) ≤ R.slots)
    (K : ∀ T' h' a, Wk p l e R s m args below meth c y bc mL rt Z a0 EL false h0 T' h' fr (ce + 2) (sl + (n + 4)) → Ext h h' → Goes p e below s Z EL false h0 fr0 Q rm T' (mkF m pc' L (.ref a :: S))) : Goes p e below s Z EL false h0 fr0 Q rm T (mkF m pc L S) := by
  have hx := W.hx
  have hby := W.hby
  obtain ⟨vm, k, locs, X, eT, q2, q3, q4, q5⟩ := W
  subst hp
  obtain ⟨a, T', h', k1, X', e', E, hS, hk, hZ, hf, hC, -, st⟩ := ldcOH X hx q2.2.2.1 (own := y.cls) q2.2.2.2.1 w wS eT q2.1 q2.2.1 q3.1 q3.2.1 (g := mkF m pc L S) rfl (hb hby hd) hn hbig hc hs
  have hfr : ∀ x ∈ fr, Safe Z EL T'.vm h' x := fun x hx => hC.safe (q4.2.2 x hx).2.1 (q4.2.2 x hx).2.2
  exact Goes.step st (K T' h' a ⟨T'.vm, k1, locs, X', e', ⟨hS, hk, hZ, hf, fun w => nomatch w⟩, ⟨q3.1, q3.2.trans hC⟩, ⟨q4.1, ⟨Nat.le_trans q4.2.1.1 E.1, fun a c q => E.2 a c (q4.2.1.2 a c q)⟩, fun x hx => ⟨(q4.2.2 x hx).1, Nat.lt_of_lt_of_le (q4.2.2 x hx).2.1 E.1, hfr x hx⟩⟩, q5⟩ E)
end K2
section K3
variable {p : Program} {l : Launch} {e : Env} {R : Room} {s : State} {m : MethodId} {args : Array Value} {below : List Frame} {meth : Method} {c : Code} {y : MethodName} {bc : ByteArray} {mL : Nat} {rt : Option FieldType} {Z : State} {a0 : Array Value} {EL : List (String × Nat)} {nw : Bool} {h0 h h' : Heap} {T : State} {fr fr0 : List Addr} {ce sl : Nat} {rm : Room} {Q : Option Value → Heap → Prop}
theorem g_aload_n (W : Wk p l e R s m args below meth c y bc mL rt Z a0 EL nw h0 T h fr ce sl) {pc pc' : Nat} {L : Array Slot} {S : List Value} {k : Fin 4} {v : Value} (hd : decode bc pc = .ok (.aload_n k, 1)) (hp : pc + 1 = pc') (hl : L[k.val]? = some (.val v)) (hv : v.isRef = true) (K : Goes p e below s Z EL nw h0 fr0 Q rm T (mkF m pc' L (v :: S))) : Goes p e below s Z EL nw h0 fr0 Q rm T (mkF m pc L S) := by
  subst hp
  exact Goes.step (fun _ q => XS.aloadN W.here W.hx rfl (hb W.hby hd) hl hv q) K
theorem g_aload (W : Wk p l e R s m args below meth c y bc mL rt Z a0 EL nw h0 T h fr ce sl) {pc pc' : Nat} {L : Array Slot} {S : List Value} {k : Nat} {v : Value} (hd : decode bc pc = .ok (.aload k, 2)) (hp : pc + 2 = pc') (hl : L[k]? = some (.val v)) (hv : v.isRef = true) (K : Goes p e below s Z EL nw h0 fr0 Q rm T (mkF m pc' L (v :: S))) : Goes p e below s Z EL nw h0 fr0 Q rm T (mkF m pc L S) := by
  subst hp
  exact Goes.step (fun _ q => XS.aload W.here W.hx rfl (hb W.hby hd) hl hv q) K
theorem g_iload_n (W : Wk p l e R s m args below meth c y bc mL rt Z a0 EL nw h0 T h fr ce sl) {pc pc' : Nat} {L : Array Slot} {S : List Value} {k : Fin 4} {v : Int32} (hd : decode bc pc = .ok (.iload_n k, 1)) (hp : pc + 1 = pc') (hl : L[k.val]? = some (.val (.int v))) (K : Goes p e below s Z EL nw h0 fr0 Q rm T (mkF m pc' L (.int v :: S))) : Goes p e below s Z EL nw h0 fr0 Q rm T (mkF m pc L S) := by
  subst hp
  exact Goes.step (fun _ q => XS.iloadN W.here W.hx rfl (hb W.hby hd) hl q) K
theorem g_iload (W : Wk p l e R s m args below meth c y bc mL rt Z a0 EL nw h0 T h fr ce sl) {pc pc' : Nat} {L : Array Slot} {S : List Value} {k : Nat} {v : Int32} (hd : decode bc pc = .ok (.iload k, 2)) (hp : pc + 2 = pc') (hl : L[k]? = some (.val (.int v))) (K : Goes p e below s Z EL nw h0 fr0 Q rm T (mkF m pc' L (.int v :: S))) : Goes p e below s Z EL nw h0 fr0 Q rm T (mkF m pc L S) := by
  subst hp
  exact Goes.step (fun _ q => XS.iload W.here W.hx rfl (hb W.hby hd) hl q) K
theorem g_lload_n (W : Wk p l e R s m args below meth c y bc mL rt Z a0 EL nw h0 T h fr ce sl) {pc pc' : Nat} {L : Array Slot} {S : List Value} {k : Fin 4} {v : Int64} (hd : decode bc pc = .ok (.lload_n k, 1)) (hp : pc + 1 = pc') (hl : L[k.val]? = some (.val (.long v))) (K : Goes p e below s Z EL nw h0 fr0 Q rm T (mkF m pc' L (.long v :: S))) : Goes p e below s Z EL nw h0 fr0 Q rm T (mkF m pc L S) := by
  subst hp
  exact Goes.step (fun _ q => Jvm.Free.XT.lloadN W.here W.hx rfl (hb W.hby hd) hl q) K
theorem g_lload (W : Wk p l e R s m args below meth c y bc mL rt Z a0 EL nw h0 T h fr ce sl) {pc pc' : Nat} {L : Array Slot} {S : List Value} {k : Nat} {v : Int64} (hd : decode bc pc = .ok (.lload k, 2)) (hp : pc + 2 = pc') (hl : L[k]? = some (.val (.long v))) (K : Goes p e below s Z EL nw h0 fr0 Q rm T (mkF m pc' L (.long v :: S))) : Goes p e below s Z EL nw h0 fr0 Q rm T (mkF m pc L S) := by
  subst hp
  exact Goes.step (fun _ q => Jvm.Free.XT.lload W.here W.hx rfl (hb W.hby hd) hl q) K
theorem g_iconst (W : Wk p l e R s m args below meth c y bc mL rt Z a0 EL nw h0 T h fr ce sl) {pc pc' : Nat} {L : Array Slot} {S : List Value} {i : Int} {v : Int32} (hd : decode bc pc = .ok (.iconst i, 1)) (hp : pc + 1 = pc') (hv : Int32.ofInt i = v) (K : Goes p e below s Z EL nw h0 fr0 Q rm T (mkF m pc' L (.int v :: S))) : Goes p e below s Z EL nw h0 fr0 Q rm T (mkF m pc L S) := by
  subst hp
  exact Goes.step (fun _ q => Jvm.Free.XT.iconstV W.here W.hx rfl v (hb W.hby hd) hv q) K
theorem g_bipush (W : Wk p l e R s m args below meth c y bc mL rt Z a0 EL nw h0 T h fr ce sl) {pc pc' : Nat} {L : Array Slot} {S : List Value} {i : Int} {v : Int32} (hd : decode bc pc = .ok (.bipush i, 2)) (hp : pc + 2 = pc') (hv : (Int8.ofInt i).toInt32 = v) (K : Goes p e below s Z EL nw h0 fr0 Q rm T (mkF m pc' L (.int v :: S))) : Goes p e below s Z EL nw h0 fr0 Q rm T (mkF m pc L S) := by
  subst hp
  exact Goes.step (fun _ q => Jvm.Free.XT.bipushV W.here W.hx rfl v (hb W.hby hd) hv q) K
theorem g_sipush (W : Wk p l e R s m args below meth c y bc mL rt Z a0 EL nw h0 T h fr ce sl) {pc pc' : Nat} {L : Array Slot} {S : List Value} {i : Int} {v : Int32} (hd : decode bc pc = .ok (.sipush i, 3)) (hp : pc + 3 = pc') (hv : (Int16.ofInt i).toInt32 = v) (K : Goes p e below s Z EL nw h0 fr0 Q rm T (mkF m pc' L (.int v :: S))) : Goes p e below s Z EL nw h0 fr0 Q rm T (mkF m pc L S) := by
  subst hp
  exact Goes.step (fun _ q => Jvm.Free.XT.sipushV W.here W.hx rfl v (hb W.hby hd) hv q) K
theorem g_aconst_null (W : Wk p l e R s m args below meth c y bc mL rt Z a0 EL nw h0 T h fr ce sl) {pc pc' : Nat} {L : Array Slot} {S : List Value}  (hd : decode bc pc = .ok (.aconst_null, 1)) (hp : pc + 1 = pc')  (K : Goes p e below s Z EL nw h0 fr0 Q rm T (mkF m pc' L (.null :: S))) : Goes p e below s Z EL nw h0 fr0 Q rm T (mkF m pc L S) := by
  subst hp
  exact Goes.step (fun _ q => XS.aconstNull W.here W.hx rfl (hb W.hby hd)  q) K
theorem g_iadd (W : Wk p l e R s m args below meth c y bc mL rt Z a0 EL nw h0 T h fr ce sl) {pc pc' : Nat} {L : Array Slot} {S : List Value} {x z : Int32} (hd : decode bc pc = .ok (.iadd, 1)) (hp : pc + 1 = pc')  (K : Goes p e below s Z EL nw h0 fr0 Q rm T (mkF m pc' L (.int (x + z) :: S))) : Goes p e below s Z EL nw h0 fr0 Q rm T (mkF m pc L (.int z :: .int x :: S)) := by
  subst hp
  exact Goes.step (fun _ q => XS.iadd W.here W.hx rfl (hb W.hby hd) rfl q) K
theorem g_isub (W : Wk p l e R s m args below meth c y bc mL rt Z a0 EL nw h0 T h fr ce sl) {pc pc' : Nat} {L : Array Slot} {S : List Value} {x z : Int32} (hd : decode bc pc = .ok (.isub, 1)) (hp : pc + 1 = pc')  (K : Goes p e below s Z EL nw h0 fr0 Q rm T (mkF m pc' L (.int (x - z) :: S))) : Goes p e below s Z EL nw h0 fr0 Q rm T (mkF m pc L (.int z :: .int x :: S)) := by
  subst hp
  exact Goes.step (fun _ q => XS.isub W.here W.hx rfl (hb W.hby hd) rfl q) K
theorem g_iand (W : Wk p l e R s m args below meth c y bc mL rt Z a0 EL nw h0 T h fr ce sl) {pc pc' : Nat} {L : Array Slot} {S : List Value} {x z : Int32} (hd : decode bc pc = .ok (.iand, 1)) (hp : pc + 1 = pc')  (K : Goes p e below s Z EL nw h0 fr0 Q rm T (mkF m pc' L (.int (x &&& z) :: S))) : Goes p e below s Z EL nw h0 fr0 Q rm T (mkF m pc L (.int z :: .int x :: S)) := by
  subst hp
  exact Goes.step (fun _ q => XS.iand W.here W.hx rfl (hb W.hby hd) rfl q) K
theorem g_imul (W : Wk p l e R s m args below meth c y bc mL rt Z a0 EL nw h0 T h fr ce sl) {pc pc' : Nat} {L : Array Slot} {S : List Value} {x z : Int32} (hd : decode bc pc = .ok (.imul, 1)) (hp : pc + 1 = pc')  (K : Goes p e below s Z EL nw h0 fr0 Q rm T (mkF m pc' L (.int (x * z) :: S))) : Goes p e below s Z EL nw h0 fr0 Q rm T (mkF m pc L (.int z :: .int x :: S)) := by
  subst hp
  exact Goes.step (fun _ q => XS.imul W.here W.hx rfl (hb W.hby hd) rfl q) K
theorem g_ior (W : Wk p l e R s m args below meth c y bc mL rt Z a0 EL nw h0 T h fr ce sl) {pc pc' : Nat} {L : Array Slot} {S : List Value} {x z : Int32} (hd : decode bc pc = .ok (.ior, 1)) (hp : pc + 1 = pc')  (K : Goes p e below s Z EL nw h0 fr0 Q rm T (mkF m pc' L (.int (x ||| z) :: S))) : Goes p e below s Z EL nw h0 fr0 Q rm T (mkF m pc L (.int z :: .int x :: S)) := by
  subst hp
  exact Goes.step (fun _ q => Jvm.Free.XT.ior W.here W.hx rfl (hb W.hby hd) rfl q) K
theorem g_ixor (W : Wk p l e R s m args below meth c y bc mL rt Z a0 EL nw h0 T h fr ce sl) {pc pc' : Nat} {L : Array Slot} {S : List Value} {x z : Int32} (hd : decode bc pc = .ok (.ixor, 1)) (hp : pc + 1 = pc')  (K : Goes p e below s Z EL nw h0 fr0 Q rm T (mkF m pc' L (.int (x ^^^ z) :: S))) : Goes p e below s Z EL nw h0 fr0 Q rm T (mkF m pc L (.int z :: .int x :: S)) := by
  subst hp
  exact Goes.step (fun _ q => Jvm.Free.XT.ixor W.here W.hx rfl (hb W.hby hd) rfl q) K
theorem g_ishl (W : Wk p l e R s m args below meth c y bc mL rt Z a0 EL nw h0 T h fr ce sl) {pc pc' : Nat} {L : Array Slot} {S : List Value} {x z : Int32} (hd : decode bc pc = .ok (.ishl, 1)) (hp : pc + 1 = pc')  (K : Goes p e below s Z EL nw h0 fr0 Q rm T (mkF m pc' L (.int (x <<< (z &&& 31)) :: S))) : Goes p e below s Z EL nw h0 fr0 Q rm T (mkF m pc L (.int z :: .int x :: S)) := by
  subst hp
  exact Goes.step (fun _ q => Jvm.Free.XT.ishl W.here W.hx rfl (hb W.hby hd) rfl q) K
theorem g_ishr (W : Wk p l e R s m args below meth c y bc mL rt Z a0 EL nw h0 T h fr ce sl) {pc pc' : Nat} {L : Array Slot} {S : List Value} {x z : Int32} (hd : decode bc pc = .ok (.ishr, 1)) (hp : pc + 1 = pc')  (K : Goes p e below s Z EL nw h0 fr0 Q rm T (mkF m pc' L (.int (x >>> (z &&& 31)) :: S))) : Goes p e below s Z EL nw h0 fr0 Q rm T (mkF m pc L (.int z :: .int x :: S)) := by
  subst hp
  exact Goes.step (fun _ q => Jvm.Free.XT.ishr W.here W.hx rfl (hb W.hby hd) rfl q) K
theorem g_iushr (W : Wk p l e R s m args below meth c y bc mL rt Z a0 EL nw h0 T h fr ce sl) {pc pc' : Nat} {L : Array Slot} {S : List Value} {x z : Int32} (hd : decode bc pc = .ok (.iushr, 1)) (hp : pc + 1 = pc')  (K : Goes p e below s Z EL nw h0 fr0 Q rm T (mkF m pc' L (.int ((x.toUInt32 >>> (z &&& 31).toUInt32).toInt32) :: S))) : Goes p e below s Z EL nw h0 fr0 Q rm T (mkF m pc L (.int z :: .int x :: S)) := by
  subst hp
  exact Goes.step (fun _ q => Jvm.Free.XT.iushr W.here W.hx rfl (hb W.hby hd) rfl q) K
theorem g_land (W : Wk p l e R s m args below meth c y bc mL rt Z a0 EL nw h0 T h fr ce sl) {pc pc' : Nat} {L : Array Slot} {S : List Value} {x z : Int64} (hd : decode bc pc = .ok (.land, 1)) (hp : pc + 1 = pc')  (K : Goes p e below s Z EL nw h0 fr0 Q rm T (mkF m pc' L (.long (x &&& z) :: S))) : Goes p e below s Z EL nw h0 fr0 Q rm T (mkF m pc L (.long z :: .long x :: S)) := by
  subst hp
  exact Goes.step (fun _ q => Jvm.Free.XT.land W.here W.hx rfl (hb W.hby hd) rfl q) K
theorem g_lxor (W : Wk p l e R s m args below meth c y bc mL rt Z a0 EL nw h0 T h fr ce sl) {pc pc' : Nat} {L : Array Slot} {S : List Value} {x z : Int64} (hd : decode bc pc = .ok (.lxor, 1)) (hp : pc + 1 = pc')  (K : Goes p e below s Z EL nw h0 fr0 Q rm T (mkF m pc' L (.long (x ^^^ z) :: S))) : Goes p e below s Z EL nw h0 fr0 Q rm T (mkF m pc L (.long z :: .long x :: S)) := by
  subst hp
  exact Goes.step (fun _ q => Jvm.Free.XT.lxor W.here W.hx rfl (hb W.hby hd) rfl q) K
theorem g_lushr (W : Wk p l e R s m args below meth c y bc mL rt Z a0 EL nw h0 T h fr ce sl) {pc pc' : Nat} {L : Array Slot} {S : List Value} {x : Int64} {z : Int32} (hd : decode bc pc = .ok (.lushr, 1)) (hp : pc + 1 = pc')  (K : Goes p e below s Z EL nw h0 fr0 Q rm T (mkF m pc' L (.long (Jvm.Free.XT.ushrL x z) :: S))) : Goes p e below s Z EL nw h0 fr0 Q rm T (mkF m pc L (.int z :: .long x :: S)) := by
  subst hp
  exact Goes.step (fun _ q => Jvm.Free.XT.lushr W.here W.hx rfl (hb W.hby hd) rfl q) K
theorem g_lshr (W : Wk p l e R s m args below meth c y bc mL rt Z a0 EL nw h0 T h fr ce sl) {pc pc' : Nat} {L : Array Slot} {S : List Value} {x : Int64} {z : Int32} (hd : decode bc pc = .ok (.lshr, 1)) (hp : pc + 1 = pc')  (K : Goes p e below s Z EL nw h0 fr0 Q rm T (mkF m pc' L (.long (x >>> (z.toInt64 &&& 63)) :: S))) : Goes p e below s Z EL nw h0 fr0 Q rm T (mkF m pc L (.int z :: .long x :: S)) := by
  subst hp
  exact Goes.step (fun _ q => Jvm.Free.XT.lshr W.here W.hx rfl (hb W.hby hd) rfl q) K
theorem g_l2i (W : Wk p l e R s m args below meth c y bc mL rt Z a0 EL nw h0 T h fr ce sl) {pc pc' : Nat} {L : Array Slot} {S : List Value} {x : Int64} (hd : decode bc pc = .ok (.l2i, 1)) (hp : pc + 1 = pc')  (K : Goes p e below s Z EL nw h0 fr0 Q rm T (mkF m pc' L (.int x.toInt32 :: S))) : Goes p e below s Z EL nw h0 fr0 Q rm T (mkF m pc L (.long x :: S)) := by
  subst hp
  exact Goes.step (fun _ q => Jvm.Free.XT.l2i W.here W.hx rfl (hb W.hby hd) rfl q) K
theorem g_i2l (W : Wk p l e R s m args below meth c y bc mL rt Z a0 EL nw h0 T h fr ce sl) {pc pc' : Nat} {L : Array Slot} {S : List Value} {x : Int32} (hd : decode bc pc = .ok (.i2l, 1)) (hp : pc + 1 = pc')  (K : Goes p e below s Z EL nw h0 fr0 Q rm T (mkF m pc' L (.long x.toInt64 :: S))) : Goes p e below s Z EL nw h0 fr0 Q rm T (mkF m pc L (.int x :: S)) := by
  subst hp
  exact Goes.step (fun _ q => Jvm.Free.XT.i2l W.here W.hx rfl (hb W.hby hd) rfl q) K
theorem g_i2b (W : Wk p l e R s m args below meth c y bc mL rt Z a0 EL nw h0 T h fr ce sl) {pc pc' : Nat} {L : Array Slot} {S : List Value} {x : Int32} (hd : decode bc pc = .ok (.i2b, 1)) (hp : pc + 1 = pc')  (K : Goes p e below s Z EL nw h0 fr0 Q rm T (mkF m pc' L (.int x.toInt8.toInt32 :: S))) : Goes p e below s Z EL nw h0 fr0 Q rm T (mkF m pc L (.int x :: S)) := by
  subst hp
  exact Goes.step (fun _ q => Jvm.Free.XT.i2b W.here W.hx rfl (hb W.hby hd) rfl q) K
theorem g_i2c (W : Wk p l e R s m args below meth c y bc mL rt Z a0 EL nw h0 T h fr ce sl) {pc pc' : Nat} {L : Array Slot} {S : List Value} {x : Int32} (hd : decode bc pc = .ok (.i2c, 1)) (hp : pc + 1 = pc')  (K : Goes p e below s Z EL nw h0 fr0 Q rm T (mkF m pc' L (.int x.toUInt32.toUInt16.toUInt32.toInt32 :: S))) : Goes p e below s Z EL nw h0 fr0 Q rm T (mkF m pc L (.int x :: S)) := by
  subst hp
  exact Goes.step (fun _ q => Jvm.Free.XT.i2c W.here W.hx rfl (hb W.hby hd) rfl q) K
theorem g_dup (W : Wk p l e R s m args below meth c y bc mL rt Z a0 EL nw h0 T h fr ce sl) {pc pc' : Nat} {L : Array Slot} {S : List Value} {v : Value} (hd : decode bc pc = .ok (.dup, 1)) (hp : pc + 1 = pc') (hc : v.category = 1) (K : Goes p e below s Z EL nw h0 fr0 Q rm T (mkF m pc' L (v :: v :: S))) : Goes p e below s Z EL nw h0 fr0 Q rm T (mkF m pc L (v :: S)) := by
  subst hp
  exact Goes.step (fun _ q => XS.dup W.here W.hx rfl (hb W.hby hd) rfl hc q) K
theorem g_dup_x1 (W : Wk p l e R s m args below meth c y bc mL rt Z a0 EL nw h0 T h fr ce sl) {pc pc' : Nat} {L : Array Slot} {S : List Value} {v w : Value} (hd : decode bc pc = .ok (.dup_x1, 1)) (hp : pc + 1 = pc') (hc : v.category = 1) (hc' : w.category = 1) (K : Goes p e below s Z EL nw h0 fr0 Q rm T (mkF m pc' L (v :: w :: v :: S))) : Goes p e below s Z EL nw h0 fr0 Q rm T (mkF m pc L (v :: w :: S)) := by
  subst hp
  exact Goes.step (fun _ q => Jvm.Free.XT.dupX1 W.here W.hx rfl (hb W.hby hd) rfl hc hc' q) K
theorem g_pop (W : Wk p l e R s m args below meth c y bc mL rt Z a0 EL nw h0 T h fr ce sl) {pc pc' : Nat} {L : Array Slot} {S : List Value} {v : Value} (hd : decode bc pc = .ok (.pop, 1)) (hp : pc + 1 = pc') (hc : v.category = 1) (K : Goes p e below s Z EL nw h0 fr0 Q rm T (mkF m pc' L S)) : Goes p e below s Z EL nw h0 fr0 Q rm T (mkF m pc L (v :: S)) := by
  subst hp
  exact Goes.step (fun _ q => Jvm.Free.XT.pop W.here W.hx rfl (hb W.hby hd) rfl hc q) K
theorem g_istore_n (W : Wk p l e R s m args below meth c y bc mL rt Z a0 EL nw h0 T h fr ce sl) {pc pc' : Nat} {L : Array Slot} {S : List Value} {k : Fin 4} {x : Int32} {L' : Array Slot} (hd : decode bc pc = .ok (.istore_n k, 1)) (hp : pc + 1 = pc') (hl : storeLocals L k.val (.int x) = some L') (K : Goes p e below s Z EL nw h0 fr0 Q rm T (mkF m pc' L' S)) : Goes p e below s Z EL nw h0 fr0 Q rm T (mkF m pc L (.int x :: S)) := by
  subst hp
  exact Goes.step (fun _ q => XS.istoreN W.here W.hx rfl (hb W.hby hd) rfl hl q) K
theorem g_istore (W : Wk p l e R s m args below meth c y bc mL rt Z a0 EL nw h0 T h fr ce sl) {pc pc' : Nat} {L : Array Slot} {S : List Value} {k : Nat} {x : Int32} {L' : Array Slot} (hd : decode bc pc = .ok (.istore k, 2)) (hp : pc + 2 = pc') (hl : storeLocals L k (.int x) = some L') (K : Goes p e below s Z EL nw h0 fr0 Q rm T (mkF m pc' L' S)) : Goes p e below s Z EL nw h0 fr0 Q rm T (mkF m pc L (.int x :: S)) := by
  subst hp
  exact Goes.step (fun _ q => XS.istore W.here W.hx rfl (hb W.hby hd) rfl hl q) K
theorem g_astore_n (W : Wk p l e R s m args below meth c y bc mL rt Z a0 EL nw h0 T h fr ce sl) {pc pc' : Nat} {L : Array Slot} {S : List Value} {k : Fin 4} {v : Value} {L' : Array Slot} (hd : decode bc pc = .ok (.astore_n k, 1)) (hp : pc + 1 = pc') (hv : v.isRef = true) (hl : storeLocals L k.val v = some L') (K : Goes p e below s Z EL nw h0 fr0 Q rm T (mkF m pc' L' S)) : Goes p e below s Z EL nw h0 fr0 Q rm T (mkF m pc L (v :: S)) := by
  subst hp
  exact Goes.step (fun _ q => XS.astoreN W.here W.hx rfl (hb W.hby hd) rfl hv hl q) K
theorem g_astore (W : Wk p l e R s m args below meth c y bc mL rt Z a0 EL nw h0 T h fr ce sl) {pc pc' : Nat} {L : Array Slot} {S : List Value} {k : Nat} {v : Value} {L' : Array Slot} (hd : decode bc pc = .ok (.astore k, 2)) (hp : pc + 2 = pc') (hv : v.isRef = true) (hl : storeLocals L k v = some L') (K : Goes p e below s Z EL nw h0 fr0 Q rm T (mkF m pc' L' S)) : Goes p e below s Z EL nw h0 fr0 Q rm T (mkF m pc L (v :: S)) := by
  subst hp
  exact Goes.step (fun _ q => XS.astore W.here W.hx rfl (hb W.hby hd) rfl hv hl q) K
theorem g_lstore_n (W : Wk p l e R s m args below meth c y bc mL rt Z a0 EL nw h0 T h fr ce sl) {pc pc' : Nat} {L : Array Slot} {S : List Value} {k : Fin 4} {x : Int64} {L' : Array Slot} (hd : decode bc pc = .ok (.lstore_n k, 1)) (hp : pc + 1 = pc') (hl : storeLocals L k.val (.long x) = some L') (K : Goes p e below s Z EL nw h0 fr0 Q rm T (mkF m pc' L' S)) : Goes p e below s Z EL nw h0 fr0 Q rm T (mkF m pc L (.long x :: S)) := by
  subst hp
  exact Goes.step (fun _ q => Jvm.Free.XT.lstoreN W.here W.hx rfl (hb W.hby hd) rfl hl q) K
theorem g_lstore (W : Wk p l e R s m args below meth c y bc mL rt Z a0 EL nw h0 T h fr ce sl) {pc pc' : Nat} {L : Array Slot} {S : List Value} {k : Nat} {x : Int64} {L' : Array Slot} (hd : decode bc pc = .ok (.lstore k, 2)) (hp : pc + 2 = pc') (hl : storeLocals L k (.long x) = some L') (K : Goes p e below s Z EL nw h0 fr0 Q rm T (mkF m pc' L' S)) : Goes p e below s Z EL nw h0 fr0 Q rm T (mkF m pc L (.long x :: S)) := by
  subst hp
  exact Goes.step (fun _ q => Jvm.Free.XT.lstore W.here W.hx rfl (hb W.hby hd) rfl hl q) K
theorem g_iinc (W : Wk p l e R s m args below meth c y bc mL rt Z a0 EL nw h0 T h fr ce sl) {pc pc' : Nat} {L : Array Slot} {S : List Value} {k : Nat} {cst : Int} {x v : Int32} {L' : Array Slot} (hd : decode bc pc = .ok (.iinc k cst, 3)) (hp : pc + 3 = pc') (hv : Int32.ofInt cst = v) (hl : L[k]? = some (.val (.int x))) (hl' : storeLocals L k (.int (x + v)) = some L') (K : Goes p e below s Z EL nw h0 fr0 Q rm T (mkF m pc' L' S)) : Goes p e below s Z EL nw h0 fr0 Q rm T (mkF m pc L S) := by
  subst hp
  exact Goes.step (fun _ q => Jvm.Free.XT.iincV W.here W.hx rfl v (hb W.hby hd) hv hl hl' q) K
theorem g_goto (W : Wk p l e R s m args below meth c y bc mL rt Z a0 EL nw h0 T h fr ce sl) {pc pc' : Nat} {o : Int} {L : Array Slot} {S : List Value} (hd : decode bc pc = .ok (.goto o, 3)) (ho : 0 ≤ (pc : Int) + o) (hp : ((pc : Int) + o).toNat = pc') (K : Goes p e below s Z EL nw h0 fr0 Q rm T (mkF m pc' L S)) : Goes p e below s Z EL nw h0 fr0 Q rm T (mkF m pc L S) :=
  Goes.step (fun _ q => XS.goto W.here W.hx rfl rfl (hb W.hby hd) ho hp q) K
theorem g_ifY (W : Wk p l e R s m args below meth c y bc mL rt Z a0 EL nw h0 T h fr ce sl) {pc pc' : Nat} {o : Int} {L : Array Slot} {S : List Value} {cd : ClassFile.Cond} {x : Int32} (hd : decode bc pc = .ok (.ifCond cd o, 3)) (ho : 0 ≤ (pc : Int) + o) (hp : ((pc : Int) + o).toNat = pc') (hc : ifCond.holds cd x = true) (K : Goes p e below s Z EL nw h0 fr0 Q rm T (mkF m pc' L S)) : Goes p e below s Z EL nw h0 fr0 Q rm T (mkF m pc L (.int x :: S)) :=
  Goes.step (fun _ q => XS.ifYes W.here W.hx rfl rfl (hb W.hby hd) rfl hc ho hp q) K
theorem g_icmpY (W : Wk p l e R s m args below meth c y bc mL rt Z a0 EL nw h0 T h fr ce sl) {pc pc' : Nat} {o : Int} {L : Array Slot} {S : List Value} {cd : ClassFile.Cond} {x z : Int32} (hd : decode bc pc = .ok (.if_icmp cd o, 3)) (ho : 0 ≤ (pc : Int) + o) (hp : ((pc : Int) + o).toNat = pc') (hc : if_icmp.holds cd x z = true) (K : Goes p e below s Z EL nw h0 fr0 Q rm T (mkF m pc' L S)) : Goes p e below s Z EL nw h0 fr0 Q rm T (mkF m pc L (.int z :: .int x :: S)) :=
  Goes.step (fun _ q => XS.icmpYes W.here W.hx rfl rfl (hb W.hby hd) rfl hc ho hp q) K
theorem g_nullY (W : Wk p l e R s m args below meth c y bc mL rt Z a0 EL nw h0 T h fr ce sl) {pc pc' : Nat} {o : Int} {L : Array Slot} {S : List Value} {v : Value} (hd : decode bc pc = .ok (.ifnull o, 3)) (ho : 0 ≤ (pc : Int) + o) (hp : ((pc : Int) + o).toNat = pc') (hv : v = .null) (K : Goes p e below s Z EL nw h0 fr0 Q rm T (mkF m pc' L S)) : Goes p e below s Z EL nw h0 fr0 Q rm T (mkF m pc L (v :: S)) :=
  Goes.step (fun _ q => Jvm.Free.XT.nullYes W.here W.hx rfl rfl (hb W.hby hd) rfl hv ho hp q) K
theorem g_nonnullY (W : Wk p l e R s m args below meth c y bc mL rt Z a0 EL nw h0 T h fr ce sl) {pc pc' : Nat} {o : Int} {L : Array Slot} {S : List Value} {v : Value} (hd : decode bc pc = .ok (.ifnonnull o, 3)) (ho : 0 ≤ (pc : Int) + o) (hp : ((pc : Int) + o).toNat = pc') (hr : v.isRef = true) (hv : ¬ v = .null) (K : Goes p e below s Z EL nw h0 fr0 Q rm T (mkF m pc' L S)) : Goes p e below s Z EL nw h0 fr0 Q rm T (mkF m pc L (v :: S)) :=
  Goes.step (fun _ q => Jvm.Free.XT.nonnullYes W.here W.hx rfl rfl (hb W.hby hd) rfl hr hv ho hp q) K
theorem g_acmpY (W : Wk p l e R s m args below meth c y bc mL rt Z a0 EL nw h0 T h fr ce sl) {pc pc' : Nat} {o : Int} {L : Array Slot} {S : List Value} {cd : ACond} {v w : Value} (hd : decode bc pc = .ok (.if_acmp cd o, 3)) (ho : 0 ≤ (pc : Int) + o) (hp : ((pc : Int) + o).toNat = pc') (h1 : v.isRef = true) (h2 : w.isRef = true) (hc : Jvm.Free.XT.acmp cd v w = true) (K : Goes p e below s Z EL nw h0 fr0 Q rm T (mkF m pc' L S)) : Goes p e below s Z EL nw h0 fr0 Q rm T (mkF m pc L (w :: v :: S)) :=
  Goes.step (fun _ q => Jvm.Free.XT.acmpYes W.here W.hx rfl rfl (hb W.hby hd) rfl h1 h2 hc ho hp q) K
theorem g_ifN (W : Wk p l e R s m args below meth c y bc mL rt Z a0 EL nw h0 T h fr ce sl) {pc pc' : Nat} {L : Array Slot} {S : List Value} {cd : ClassFile.Cond} {o : Int} {x : Int32} (hd : decode bc pc = .ok (.ifCond cd o, 3)) (hp : pc + 3 = pc') (hc : ifCond.holds cd x = false) (K : Goes p e below s Z EL nw h0 fr0 Q rm T (mkF m pc' L S)) : Goes p e below s Z EL nw h0 fr0 Q rm T (mkF m pc L (.int x :: S)) := by
  subst hp
  exact Goes.step (fun _ q => XS.ifNo W.here W.hx rfl (hb W.hby hd) rfl hc q) K
theorem g_icmpN (W : Wk p l e R s m args below meth c y bc mL rt Z a0 EL nw h0 T h fr ce sl) {pc pc' : Nat} {L : Array Slot} {S : List Value} {cd : ClassFile.Cond} {o : Int} {x z : Int32} (hd : decode bc pc = .ok (.if_icmp cd o, 3)) (hp : pc + 3 = pc') (hc : if_icmp.holds cd x z = false) (K : Goes p e below s Z EL nw h0 fr0 Q rm T (mkF m pc' L S)) : Goes p e below s Z EL nw h0 fr0 Q rm T (mkF m pc L (.int z :: .int x :: S)) := by
  subst hp
  exact Goes.step (fun _ q => XS.icmpNo W.here W.hx rfl (hb W.hby hd) rfl hc q) K
theorem g_nullN (W : Wk p l e R s m args below meth c y bc mL rt Z a0 EL nw h0 T h fr ce sl) {pc pc' : Nat} {L : Array Slot} {S : List Value} {o : Int} {v : Value} (hd : decode bc pc = .ok (.ifnull o, 3)) (hp : pc + 3 = pc') (hr : v.isRef = true) (hv : ¬ v = .null) (K : Goes p e below s Z EL nw h0 fr0 Q rm T (mkF m pc' L S)) : Goes p e below s Z EL nw h0 fr0 Q rm T (mkF m pc L (v :: S)) := by
  subst hp
  exact Goes.step (fun _ q => Jvm.Free.XT.nullNo W.here W.hx rfl (hb W.hby hd) rfl hr hv q) K
theorem g_nonnullN (W : Wk p l e R s m args below meth c y bc mL rt Z a0 EL nw h0 T h fr ce sl) {pc pc' : Nat} {L : Array Slot} {S : List Value} {o : Int} {v : Value} (hd : decode bc pc = .ok (.ifnonnull o, 3)) (hp : pc + 3 = pc') (hv : v = .null) (K : Goes p e below s Z EL nw h0 fr0 Q rm T (mkF m pc' L S)) : Goes p e below s Z EL nw h0 fr0 Q rm T (mkF m pc L (v :: S)) := by
  subst hp
  exact Goes.step (fun _ q => Jvm.Free.XT.nonnullNo W.here W.hx rfl (hb W.hby hd) rfl hv q) K
theorem g_acmpN (W : Wk p l e R s m args below meth c y bc mL rt Z a0 EL nw h0 T h fr ce sl) {pc pc' : Nat} {L : Array Slot} {S : List Value} {cd : ACond} {o : Int} {v w : Value} (hd : decode bc pc = .ok (.if_acmp cd o, 3)) (hp : pc + 3 = pc') (h1 : v.isRef = true) (h2 : w.isRef = true) (hc : Jvm.Free.XT.acmp cd v w = false) (K : Goes p e below s Z EL nw h0 fr0 Q rm T (mkF m pc' L S)) : Goes p e below s Z EL nw h0 fr0 Q rm T (mkF m pc L (w :: v :: S)) := by
  subst hp
  exact Goes.step (fun _ q => Jvm.Free.XT.acmpNo W.here W.hx rfl (hb W.hby hd) rfl h1 h2 hc q) K
end K3
section K4
variable {l : Launch} {Z : State} {a0 : Array Value} {EL : List (String × Nat)} {nw : Bool} {h h' h1 h2 : Heap} {a b : Addr} {C : String} {v old : Value} {ws : List Addr}
theorem cat_ref (a : Addr) : (Value.ref a).category = 1 := rfl
theorem cat_int (x : Int32) : (Value.int x).category = 1 := rfl
theorem cat_null : Value.null.category = 1 := rfl
theorem cat_long (x : Int64) : (Value.long x).category = 2 := rfl
/-- a field's key: owner, name, descriptor -/
abbrev FK := String × String × String
def FldL (Z : State) (h : Heap) (a : Addr) (fs : List (FK × Value)) : Prop := ∀ (i : Nat) (k : FK) (v : Value), fs[i]? = some (k, v) → Fld Z h a k.1 k.2.1 k.2.2 v
theorem FldL.nil : FldL Z h a [] := fun i k v q => by simp at q
theorem FldL.cons {O n d : String} {r : List (FK × Value)} (F : Fld Z h a O n d v) (R : FldL Z h a r) : FldL Z h a (((O, n, d), v) :: r) := fun i k w q => by
  cases i with
  | zero => simp only [List.getElem?_cons_zero, Option.some.injEq, Prod.mk.injEq] at q; obtain ⟨rfl, rfl⟩ := q; exact F
  | succ i => simp only [List.getElem?_cons_succ] at q; exact R i k w q
/-- an object: its exact class, and what its fields hold -/
def Obj (Z : State) (h : Heap) (a : Addr) (C : String) (fs : List (FK × Value)) : Prop := Exa Z h a C ∧ FldL Z h a fs
theorem Obj.get {fs : List (FK × Value)} (F : Obj Z h a C fs) (i : Nat) {O n d : String} (q : fs[i]? = some ((O, n, d), v)) : Fld Z h a O n d v := F.2 i _ _ q
theorem Obj.keep {fs : List (FK × Value)} (F : Obj Z h a C fs) (K : Keep h h' ws) (q : a ∉ ws) : Obj Z h' a C fs := ⟨F.1.keep K, fun i k v z => (F.2 i k v z).keep K q⟩
theorem Obj.mv {fs : List (FK × Value)} (F : Obj Z h a C fs) (K : Keep h h' []) : Obj Z h' a C fs := F.keep K nin0
theorem Obj.ext {fs : List (FK × Value)} (F : Obj Z h a C fs) (E : Ext h h') : Obj Z h' a C fs := ⟨F.1.ext E, fun i k v z => (F.2 i k v z).ext E⟩
theorem Obj.lt {fs : List (FK × Value)} (F : Obj Z h a C fs) : a < h.size := F.1.lt
def Dis (Z : State) (ks : List FK) : Prop := ∀ (i j : Nat) (k k' : FK), i ≠ j → ks[i]? = some k → ks[j]? = some k' → RoadKit.slotOf Z k.1 k.2.1 k.2.2 ≠ RoadKit.slotOf Z k'.1 k'.2.1 k'.2.2
def LaidL (Z : State) (a0 : Array Value) (C : String) (ks : List FK) : Prop := ∀ k ∈ ks, Laid Z a0 C k.1 k.2.1 k.2.2 ∧ ∃ t, parseFieldDescriptor k.2.2 = some t
theorem LaidL.nil : LaidL Z a0 C [] := fun _ q => nomatch q
theorem LaidL.cons {O n d : String} {ks : List FK} (L : Laid Z a0 C O n d) (t : FieldType) (ht : parseFieldDescriptor d = some t) (R : LaidL Z a0 C ks) : LaidL Z a0 C ((O, n, d) :: ks) := fun k q => by
  rcases List.mem_cons.mp q with rfl | q
  · exact ⟨L, t, ht⟩
  · exact R k q
theorem Dis.of {ks : List FK} (L : LaidL Z a0 C ks) (nd : (ks.map fun k => k.2.1).Nodup) : Dis Z ks := fun i j k k' hij hi hj => by
  obtain ⟨l1, t1, p1⟩ := L k (List.mem_of_getElem? hi)
  obtain ⟨l2, t2, p2⟩ := L k' (List.mem_of_getElem? hj)
  refine slot_ne l1 l2 (fun q => hij ?_) p1 p2
  refine (List.getElem?_inj (l := ks.map fun k => k.2.1) ?_ nd).mp ?_
  · rw [List.length_map]; exact (List.getElem?_eq_some_iff.mp hi).1
  · simp [List.getElem?_map, hi, hj, q]
theorem Obj.put {fs : List (FK × Value)} {O n d : String} (F : Obj Z h a C fs) (W : Wr h h' a (RoadKit.slotOf Z O n d) v) (i : Nat) (q : fs[i]? = some ((O, n, d), old)) (D : Dis Z (fs.map Prod.fst)) : Obj Z h' a C (fs.set i ((O, n, d), v)) := by
  refine ⟨F.1.wr W, fun j k w z => ?_⟩
  by_cases e : i = j
  · subst e
    have hlt := (List.getElem?_eq_some_iff.mp q).1
    rw [List.getElem?_set_self hlt] at z
    cases z
    exact (F.2 i _ _ q).same W
  · rw [List.getElem?_set_ne e] at z
    refine (F.2 j k w z).other W (Or.inr (D j i k (O, n, d) (Ne.symm e) ?_ ?_))
    · simp [List.getElem?_map, z]
    · simp [List.getElem?_map, q]
theorem fits_ref0 {t : FieldType} (ht : t.isReference = true) (hv : v.isRef = true) : fits t v = true := by
  rcases ref_cases hv with rfl | ⟨x, rfl⟩ <;> cases t <;> first | rfl | cases ht
theorem narrow_ref0 {t : FieldType} (ht : t.isReference = true) : narrow t v = v := by cases t <;> first | rfl | cases ht
theorem Keep.newInit (E : Ext h h1) (K : Keep h1 h2 [a]) (g : a = h.size) : Keep h h2 [] := ((Keep.refl h []).ext E).trans K fun x q => by cases List.mem_singleton.mp q; exact Or.inr (Nat.le_of_eq g.symm)
theorem Keep.of_ext (E : Ext h h') : Keep h h' [] := (Keep.refl h []).ext E
theorem Keep.next (K : Keep h h1 []) (K' : Keep h1 h2 []) : Keep h h2 [] := K.trans K' fun _ q => nomatch q
theorem Keep.ofEq (e : h' = h) : Keep h h' ws := e ▸ Keep.refl _ _
/-- a getter of a reference or a number -/
theorem met_getter {y : MethodName} {bc : ByteArray} {t : FieldType} {rm : Room} {lc : List Jvm.Cond} {O n d : String} {ix : Nat} (hn : plainFor y = true) (hEL : EW Z a0 EL) (hX : Ext Z.heap h) (d0 : decode bc 0 = .ok (.aload_n 0, 1)) (d1 : decode bc 1 = .ok (.getfield ix, 3)) (w : (Jvm.Cond.fieldLink y.cls ix O n d).before a0 Z = true) (F : Fld Z h a O n d v)
    (hv : (decode bc 4 = .ok (.areturn, 1) ∧ t.isReference = true ∧ v.isRef = true) ∨ (decode bc 4 = .ok (.ireturn, 1) ∧ (t = .int ∨ t = .boolean ∨ t = .byte ∨ t = .char ∨ t = .short) ∧ narrow t v = v ∧ ∃ z, v = .int z)) :
    Met l Z EL nw y bc 1 (some t) lc rm #[.ref a] h [] (fun r h' => h = h' ∧ r = some v) := by
  refine Met.intro hn hEL hX (fun _ q => nomatch q) ?_
  intro p e s m below meth c T W
  refine Goes.cast (show entryFrame m #[.ref a] 1 = mkF m 0 #[.val (.ref a)] [] by simp [entryFrame, mkF, argsToLocals, Value.category]) ?_
  refine g_aload_n W d0 (pc' := 1) rfl rfl rfl ?_
  refine g_getfield W d1 (pc' := 4) (host := "") rfl (Or.inl w) Via.refl F fun T1 W1 => ?_
  rcases hv with ⟨d4, ht, hr⟩ | ⟨d4, ht, hr, z, rfl⟩
  · exact g_areturn W1 d4 ht hr (narrow_ref0 ht) (Keep.refl _ _) ⟨rfl, rfl⟩ (Nat.zero_le _) (Nat.zero_le _)
  · exact g_ireturn W1 d4 ht hr (Keep.refl _ _) ⟨rfl, rfl⟩ (Nat.zero_le _) (Nat.zero_le _)
end K4
section K5
variable {p : Program} {l : Launch} {e : Env} {R : Room} {s : State} {args : Array Value} {below : List Frame} {Z : State} {a0 : Array Value} {EL : List (String × Nat)} {nw : Bool} {h h' : Heap} {Wd len : Nat} {x b : Addr} {cs ds : List Int32}
/-- a String at x spells cs -/
def Str (Z : State) (h : Heap) (x : Addr) (cs : List Int32) : Prop := ∃ (t : Addr) (kb : ClassId) (cd N2 : Int32) (vs : List Value), Exa Z h x "java/lang/String" ∧ Fld Z h x "java/lang/String" "value" "[B" (.ref t) ∧ Fld Z h x "java/lang/String" "coder" "B" (.int cd) ∧ Arv Z h t kb .byte N2 vs (.int 0) ∧ StrChars.Road.CodA cs cd N2 vs ∧ (∀ c ∈ cs, ¬ c < 0 ∧ ¬ (65535 : Int32) < c) ∧ cs.length ≤ 4000
theorem Str.mv (F : Str Z h x cs) (K : Keep h h' []) : Str Z h' x cs := by
  obtain ⟨t, kb, cd, N2, vs, q1, q2, q3, q4, q5⟩ := F
  exact ⟨t, kb, cd, N2, vs, q1.keep K, q2.keep K nin0, q3.keep K nin0, q4.keep K nin0, q5⟩
theorem Str.exa (F : Str Z h x cs) : Exa Z h x "java/lang/String" := by obtain ⟨t, kb, cd, N2, vs, q1, -⟩ := F; exact q1
theorem Str.lt (F : Str Z h x cs) : x < h.size := F.exa.lt
theorem up16 (hp : ∀ c ∈ cs, ¬ c < 0 ∧ ¬ (255 : Int32) < c) : ∀ c ∈ cs, ¬ c < 0 ∧ ¬ (65535 : Int32) < c := fun c q => ⟨(hp c q).1, fun z => (hp c q).2 (by rw [Int32.lt_iff_toInt_lt] at z ⊢; have e1 : (65535 : Int32).toInt = 65535 := (by decide); have e2 : (255 : Int32).toInt = 255 := (by decide); omega)⟩
theorem nar_mask (x : Int32) : RoadKit.nar .char ((x &&& 255).toUInt32.toUInt16.toUInt32.toInt32) = x &&& 255 := by
  show ((x &&& 255).toUInt32.toUInt16.toUInt32.toInt32).toUInt32.toUInt16.toUInt32.toInt32 = x &&& 255
  rw [i2c_mask, i2c_mask]
theorem nar_mask1 (x : Int32) : RoadKit.nar .char (x &&& 255) = x &&& 255 := i2c_mask x
theorem low255 (x : Int32) : ¬ (x &&& 255) < 0 ∧ ¬ (255 : Int32) < (x &&& 255) := by
  have q := c_and x 255 (by decide)
  have e : (255 : Int32).toInt = 255 := (by decide)
  have e0 : (0 : Int32).toInt = 0 := (by decide)
  constructor <;> (rw [Int32.lt_iff_toInt_lt]; omega)
theorem lowN : ∀ c ∈ ([] : List Int32), ¬ c < 0 ∧ ¬ (255 : Int32) < c := fun _ q => nomatch q
theorem lowC (x : Int32) {cs : List Int32} (h : ∀ c ∈ cs, ¬ c < 0 ∧ ¬ (255 : Int32) < c) : ∀ c ∈ (x &&& 255) :: cs, ¬ c < 0 ∧ ¬ (255 : Int32) < c := fun c q => by
  rcases List.mem_cons.mp q with rfl | q
  · exact low255 x
  · exact h c q
theorem lowK {x : Int32} (hx : ¬ x < 0 ∧ ¬ (255 : Int32) < x) {cs : List Int32} (h : ∀ c ∈ cs, ¬ c < 0 ∧ ¬ (255 : Int32) < c) : ∀ c ∈ x :: cs, ¬ c < 0 ∧ ¬ (255 : Int32) < c := fun c q => by
  rcases List.mem_cons.mp q with rfl | q
  · exact hx
  · exact h c q
/-- new String(char[]) of 1 to 4000 chars below 256 -/
theorem pays_newStr {v0 c0 d : Value} {kC : ClassId} {N z : Int32} {n : Nat} (hEL : EW Z a0 EL) (hws : ∀ d ∈ StrChars.Road.words, d.before a0 Z = true) (wi : (Jvm.Cond.instantiable "java/lang/String" 4).before a0 Z = true) (O : Obj Z h x "java/lang/String" [(("java/lang/String", "value", "[B"), v0), (("java/lang/String", "coder", "B"), c0)]) (K : Arv Z h b kC .char N (cs.map Value.int) d) (Sc : Sta Z Z.heap "java/lang/String" "COMPACT_STRINGS" "Z" (.int z)) (hz : ¬ z = 0) (hX : Ext Z.heap h) (hx0 : Z.heap.size ≤ x)
    (hn : cs.length = n) (hN : N = Int32.ofNat n) (l0 : 0 < n) (l2 : n ≤ 4000) (hp : ∀ c ∈ cs, ¬ c < 0 ∧ ¬ (255 : Int32) < c) (hfr : 4 ≤ R.frames) (hlo : Wd + 65 ≤ R.locals) :
    Pays l R p e below s args Z EL nw (⟨"java/lang/String", "<init>", "([C)V"⟩ : MethodName) len Wd #[.ref x, .ref b] h [x] (fun v h' => v = none ∧ Str Z h' x cs) 1 n :=
  pays_back hEL (fun vm hZ => StrChars.Road.backV (W := Wd) (s := s.setVm vm) hZ hws wi hx0 hX.1 O.1 (O.get 0 rfl) (O.get 1 rfl) K (Sc.ext hX) hz hn hN l0 l2 hp rfl hfr hlo) fun v h' L q => by
    obtain ⟨rfl, q1, q2, q3, q4, t, kb, -, -, -, q5, q6⟩ := q
    refine ⟨q2, ⟨rfl, t, kb, 0, N, _, q3, q5, q4, q6, ?_, up16 hp, by rw [hn]; exact l2⟩, q1⟩
    rw [hN]
    exact StrChars.Road.codOf hn fun c q => (hp c q).2
end K5
section K6
theorem of_toInt {x : Int32} {k : Int} {c : Int32} (h : x.toInt = k) (e : c.toInt = k) : x = c := Int32.toInt_inj.mp (h.trans e.symm)
theorem and3 (x : Int32) : x &&& 3 = 0 ∨ x &&& 3 = 1 ∨ x &&& 3 = 2 ∨ x &&& 3 = 3 := by
  have q := c_and x 3 (by decide)
  have e : (3 : Int32).toInt = 3 := (by decide)
  rcases (by omega : (x &&& 3).toInt = 0 ∨ (x &&& 3).toInt = 1 ∨ (x &&& 3).toInt = 2 ∨ (x &&& 3).toInt = 3) with h | h | h | h
  · exact Or.inl (of_toInt h (by decide))
  · exact Or.inr (Or.inl (of_toInt h (by decide)))
  · exact Or.inr (Or.inr (Or.inl (of_toInt h (by decide))))
  · exact Or.inr (Or.inr (Or.inr (of_toInt h (by decide))))
end K6
theorem mod3 (x : Int32) : (x &&& 2147483647) % 3 = 0 ∨ (x &&& 2147483647) % 3 = 1 ∨ (x &&& 2147483647) % 3 = 2 := by
  have q := c_and x 2147483647 (by decide)
  have r := (c_iremV (x &&& 2147483647) 3).1 q.1 (by decide)
  have e : (3 : Int32).toInt = 3 := (by decide)
  rcases (by omega : ((x &&& 2147483647) % 3).toInt = 0 ∨ ((x &&& 2147483647) % 3).toInt = 1 ∨ ((x &&& 2147483647) % 3).toInt = 2) with h | h | h
  · exact Or.inl (of_toInt h (by decide))
  · exact Or.inr (Or.inl (of_toInt h (by decide)))
  · exact Or.inr (Or.inr (of_toInt h (by decide)))
theorem pays_len {p : Program} {l : Launch} {e : Env} {R : Room} {s : State} {args : Array Value} {below : List Frame} {Z : State} {a0 : Array Value} {EL : List (String × Nat)} {nw : Bool} {h : Heap} {Wd len : Nat} {x : Addr} {cs : List Int32} {z : Int32} (hEL : EW Z a0 EL) (hws : ∀ d ∈ StrChars.Road.wordsLen, d.before a0 Z = true) (wi : (Jvm.Cond.instantiable "java/lang/String" 4).before a0 Z = true) (F : Str Z h x cs) (Sc : Sta Z Z.heap "java/lang/String" "COMPACT_STRINGS" "Z" (.int z)) (hz : ¬ z = 0) (hX : Ext Z.heap h) (hfr : 2 ≤ R.frames) (hlo : Wd + 25 ≤ R.locals) :
    Pays l R p e below s args Z EL nw (⟨"java/lang/String", "length", "()I"⟩ : MethodName) len Wd #[.ref x] h [] (fun v h' => h = h' ∧ v = some (.int (Int32.ofNat cs.length))) 0 0 := by
  obtain ⟨t, kb, cd, N2, vs, q1, q2, q3, q4, q5, q6, q7⟩ := F
  exact pays_back (Q0 := fun v h' L => v = some (.int (Int32.ofNat cs.length)) ∧ L = [] ∧ h' = h) hEL (fun vm hZ => StrChars.Road.lenW (W := Wd) (s := s.setVm vm) hZ hws wi q1 q2 q3 q4 q5 q6 (Sc.ext hX) hz q7 hfr hlo) fun v h' L q => by
    obtain ⟨rfl, rfl, rfl⟩ := q
    exact ⟨Keep.refl _ _, ⟨rfl, rfl⟩, Fr.nil _⟩
theorem pays_eq {p : Program} {l : Launch} {e : Env} {R : Room} {s : State} {args : Array Value} {below : List Frame} {Z : State} {a0 : Array Value} {EL : List (String × Nat)} {nw : Bool} {h : Heap} {Wd len : Nat} {x b : Addr} {cs ds : List Int32} {z : Int32} (hEL : EW Z a0 EL) (hws : ∀ d ∈ StrChars.Road.wordsEq, d.before a0 Z = true) (wi : (Jvm.Cond.instantiable "java/lang/String" 4).before a0 Z = true) (F : Str Z h x cs) (G : Str Z h b ds) (Sc : Sta Z Z.heap "java/lang/String" "COMPACT_STRINGS" "Z" (.int z)) (hz : ¬ z = 0) (hX : Ext Z.heap h) (hfr : 2 ≤ R.frames) (hlo : Wd + 28 ≤ R.locals) :
    Pays l R p e below s args Z EL nw (⟨"java/lang/String", "equals", "(Ljava/lang/Object;)Z"⟩ : MethodName) len Wd #[.ref x, .ref b] h [] (fun v h' => h = h' ∧ ((v = some (.int 1) ∧ cs = ds) ∨ (v = some (.int 0) ∧ ¬ cs = ds))) 0 0 := by
  obtain ⟨t, kb, cd, N2, vs, q1, q2, q3, q4, q5, q6, q7⟩ := F
  obtain ⟨t', kb', cd', N2', vs', r1, r2, r3, r4, r5, r6, r7⟩ := G
  exact pays_back (Q0 := fun v h' L => ((v = some (.int 1) ∧ cs = ds) ∨ (v = some (.int 0) ∧ ¬ cs = ds)) ∧ L = [] ∧ h' = h) hEL (fun vm hZ => StrChars.Road.eqW (W := Wd) (s := s.setVm vm) hZ hws wi q1 q2 q3 q4 q5 q6 q7 r1 r2 r3 r4 r5 r6 r7 (Sc.ext hX) hz hfr hlo) fun v h' L q => by
    obtain ⟨q0, rfl, rfl⟩ := q
    exact ⟨Keep.refl _ _, ⟨rfl, q0⟩, Fr.nil _⟩
theorem getD_mem {cs : List Int32} {P : Int32 → Prop} (hp : ∀ c ∈ cs, P c) : ∀ j, j < cs.length → P (cs.getD j 0) := fun j hj => by
  rw [List.getD_eq_getElem?_getD, List.getElem?_eq_getElem hj]
  exact hp _ (List.getElem_mem hj)
theorem Str.uniq {Z : State} {h : Heap} {x : Addr} {cs ds : List Int32} (F : Str Z h x cs) (G : Str Z h x ds) : cs = ds := by
  obtain ⟨t, kb, cd, N2, vs, q1, q2, q3, q4, q5, q6, q7⟩ := F
  obtain ⟨t', kb', cd', N2', vs', r1, r2, r3, r4, r5, r6, r7⟩ := G
  have et : t = t' := Decidable.byContradiction fun n => (Fld.ne q2 r2 (fun z => n (Value.ref.inj z))) rfl
  have ec : cd = cd' := Decidable.byContradiction fun n => (Fld.ne q3 r3 (fun z => n (Value.int.inj z))) rfl
  subst et ec
  obtain ⟨V, A1, A2, A3, A4, A5, A6⟩ := q4
  obtain ⟨V', B1, B2, B3, B4, B5, B6⟩ := r4
  have eV : V = V' := Option.some.inj (A1.1.symm.trans B1.1)
  subst eV
  have c1 := q5.cod (by omega) A3 A5
  have c2 := r5.cod (by omega) B3 B5
  exact (StrChars.Road.same_list cs ds).mp ((StrChars.Cod.eqv c1 c2 (getD_mem q6) (getD_mem r6)).mp ⟨rfl, fun _ _ => rfl⟩)
section K7
variable {p : Program} {l : Launch} {e : Env} {R : Room} {s : State} {m : MethodId} {args : Array Value} {below : List Frame} {meth : Method} {c : Code} {y z : MethodName} {bc bc' : ByteArray} {mL mL' : Nat} {rt rt' : Option FieldType} {Z : State} {a0 : Array Value} {EL : List (String × Nat)} {nw : Bool} {h0 h h' : Heap} {T T' U : State} {fr fr' fr0 : List Addr} {ce sl kc ks len Wd : Nat} {rm rm' : Room} {Q Q' : Option Value → Heap → Prop} {as : Array Value}
theorem g_private (W : Wk p l e R s m args below meth c y bc mL rt Z a0 EL nw h0 T h fr ce sl) {index pc pc' : Nat} {L : Array Slot} {S argsL rest : List Value} {a : Addr} {C : String} (hd : decode bc pc = .ok (.invokevirtual index, 3)) (hp : pc + 3 = pc')
    (wl : (Jvm.Cond.methodLink y.cls index z).before a0 Z = true) (wi : (Jvm.Cond.instanceMethod z).before a0 Z = true) (ws : (Jvm.Cond.selects z.cls z z).before a0 Z = true) (wp : (Jvm.Cond.privateMethod z).before a0 Z = true) (wc : (Jvm.Cond.code z bc' mL' rt').before a0 Z = true) (hy : z.cls ≠ "java/lang/invoke/MethodHandle" ∧ z.cls ≠ "java/lang/invoke/VarHandle") (E : Exa Z h a C)
    (hL : L.size = mL) (hSt : S = argsL.reverse ++ .ref a :: rest) (hlen : ∀ sig, parseMethodDescriptor z.desc = some sig → argsL.length = sig.parameters.length) (hW : (rest.map fun v => v.category).sum = Wd) (hm : ∀ x ∈ fr', x ∈ fr) (hc : ce + kc ≤ R.cells) (hs : sl + ks ≤ R.slots)
    (P : Pays l R p e below s args Z EL nw z 3 Wd (.ref a :: argsL).toArray h fr' Q' kc ks)
    (K : ∀ v T' h', Wk p l e R s m args below meth c y bc mL rt Z a0 EL nw h0 T' h' fr (ce + kc) (sl + ks) → Keep h h' fr' → Q' v h' → Goes p e below s Z EL nw h0 fr0 Q rm T' (mkF m pc' L (v.toList ++ rest))) : Goes p e below s Z EL nw h0 fr0 Q rm T (mkF m pc L S) := by
  have hx := W.hx
  have hby := W.hby
  have hml := W.hml
  obtain ⟨vm, k, locs, X, eT, q2, q3, q4, q5⟩ := W
  subst hp
  obtain ⟨cl, hcl, hob⟩ := E.cell
  obtain ⟨v, vm1, ⟨U, Lc, kc', ks'⟩, hv1, X', hS', hg, ⟨L', ⟨k1, k2, k3⟩, e1, e2, e3, hC, hN⟩, st⟩ := X.privateBackS hx (own := y.cls) q2.2.2.2.1 (mvT q2.2.2.1 wl) (mvT q2.2.2.1 wi) (mvT q2.2.2.1 ws) (Cond.privateMethod_at (mvP (s := s.setVm vm) (args := args) q2.2.2.1 wp)) (mvT q2.2.2.1 wc) hy (P vm q2.2.2.1 q3.2.1 fun x hx => (q4.2.2 x (hm x hx)).2.2) (g := mkF m pc L S) rfl (by rw [hml]; exact hL) (Steps.refl _) (a := a) (by rw [eT]; exact hcl) hob (argsL := argsL) (rest := rest) hlen hSt (by show 2 * 0 + _ ≤ _; rw [hW]; exact Nat.le_of_eq (Nat.zero_add _)) (hb hby hd) (fun _ _ => ⟨rfl, eT, hc, hs⟩)
  dsimp only [Pt.U, Pt.locs, Pt.cells, Pt.slots] at X' hS' hg k1 k2 e1 e2 e3 hC hN st
  subst e1 e2 e3
  exact Goes.step (fun t q => st.trans q) (K v U U.heap (Wk.back eT q2 q3 q4 q5 hm X' hS' hg k1 k3 hC hN) k1 k2)
theorem g_interface (W : Wk p l e R s m args below meth c y bc mL rt Z a0 EL nw h0 T h fr ce sl) {xi : MethodName} {C : String} {index count pc pc' : Nat} {L : Array Slot} {S argsL rest : List Value} {a : Addr} (hd : decode bc pc = .ok (.invokeinterface index count, 5)) (hp : pc + 5 = pc')
    (wl : (Jvm.Cond.methodLink y.cls index xi).before a0 Z = true) (wd : (Jvm.Cond.declares xi).before a0 Z = true) (wf : (Jvm.Cond.interfaceMethod xi.cls xi.cls xi.name xi.desc).before a0 Z = true) (ws : (Jvm.Cond.selects C xi z).before a0 Z = true) (wi : (Jvm.Cond.instanceMethod z).before a0 Z = true) (wp : (Jvm.Cond.publicMethod z).before a0 Z = true) (wu : (Jvm.Cond.unhidden C xi.name xi.desc).before a0 Z = true) (wc : (Jvm.Cond.castable C xi.cls).before a0 Z = true) (kf : ((Jvm.Cond.interfaceMethod xi.cls xi.cls xi.name xi.desc).onTables && (Jvm.Cond.interfaceMethod xi.cls xi.cls xi.name xi.desc).keepsFace) = true) (hy : xi.cls ≠ "java/lang/invoke/MethodHandle" ∧ xi.cls ≠ "java/lang/invoke/VarHandle") (E : Exa Z h a C)
    (hL : L.size = mL) (hSt : S = argsL.reverse ++ .ref a :: rest) (hlen : ∀ sig, parseMethodDescriptor xi.desc = some sig → argsL.length = sig.parameters.length) (hW : (rest.map fun v => v.category).sum = Wd) (hm : ∀ x ∈ fr', x ∈ fr) (hc : ce + kc ≤ R.cells) (hs : sl + ks ≤ R.slots)
    (P : Pays l R p e below s args Z EL nw z 5 Wd (.ref a :: argsL).toArray h fr' Q' kc ks)
    (K : ∀ v T' h', Wk p l e R s m args below meth c y bc mL rt Z a0 EL nw h0 T' h' fr (ce + kc) (sl + ks) → Keep h h' fr' → Q' v h' → Goes p e below s Z EL nw h0 fr0 Q rm T' (mkF m pc' L (v.toList ++ rest))) : Goes p e below s Z EL nw h0 fr0 Q rm T (mkF m pc L S) := by
  have hx := W.hx
  have hby := W.hby
  have hml := W.hml
  obtain ⟨vm, k, locs, X, eT, q2, q3, q4, q5⟩ := W
  subst hp
  obtain ⟨cB, kB, r1, r2, r3⟩ := isOf (s := s.setVm vm) q2.2.2.1 eT E
  obtain ⟨v, vm1, ⟨U, Lc, kc', ks'⟩, hv1, X', hS', hg, ⟨L', ⟨k1, k2, k3⟩, e1, e2, e3, hC, hN⟩, st⟩ := X.interfaceBackS hx (own := y.cls) q2.2.2.2.1 (mvT q2.2.2.1 wl) (mvT q2.2.2.1 wd) (mvT q2.2.2.1 wf kf) (mvT q2.2.2.1 ws) (mvT q2.2.2.1 wi) (mvT q2.2.2.1 wp) (mvT q2.2.2.1 wu) (mvT q2.2.2.1 wc) hy (P vm q2.2.2.1 q3.2.1 fun x hx => (q4.2.2 x (hm x hx)).2.2) r1 r2 r3 (g := mkF m pc L S) rfl (by rw [hml]; exact hL) (Steps.refl _) (argsL := argsL) (rest := rest) hlen hSt (by show 2 * 0 + _ ≤ _; rw [hW]; exact Nat.le_of_eq (Nat.zero_add _)) (hb hby hd) (fun _ _ => ⟨rfl, eT, hc, hs⟩)
  dsimp only [Pt.U, Pt.locs, Pt.cells, Pt.slots] at X' hS' hg k1 k2 e1 e2 e3 hC hN st
  subst e1 e2 e3
  exact Goes.step (fun t q => st.trans q) (K v U U.heap (Wk.back eT q2 q3 q4 q5 hm X' hS' hg k1 k3 hC hN) k1 k2)
theorem g_anewarray (W : Wk p l e R s m args below meth c y bc mL rt Z a0 EL nw h0 T h fr ce sl) {C ad : String} {index pc pc' cap : Nat} {L : Array Slot} {S : List Value} {n : Int32} (hd : decode bc pc = .ok (.anewarray index, 3)) (hp : pc + 3 = pc') (w1 : (Jvm.Cond.classLink y.cls index C).before a0 Z = true) (w2 : (Jvm.Cond.arrayOver (.object C)).before a0 Z = true) (hn : ¬ n < 0) (hcap : n.toNatClampNeg ≤ cap) (hbig : cap * 8 ≤ 536870912) (had : "[" ++ (FieldType.object C).toString = ad) (hc : ce + 1 ≤ R.cells) (hs : sl + cap ≤ R.slots)
    (K : ∀ T' h' a kA, a = h.size → Wk p l e R s m args below meth c y bc mL rt Z a0 EL nw h0 T' h' (a :: fr) (ce + 1) (sl + cap) → Ext h h' → Arv Z h' a kA (.object C) n [] .null → Exa Z h' a ad → Ovr Z kA C → Goes p e below s Z EL nw h0 fr0 Q rm T' (mkF m pc' L (.ref a :: S))) : Goes p e below s Z EL nw h0 fr0 Q rm T (mkF m pc L (.int n :: S)) := by
  have hx := W.hx
  have hby := W.hby
  have hE := W.ext
  obtain ⟨vm, k, locs, X, eT, q2, q3, q4, q5⟩ := W
  subst hp
  obtain ⟨T', h', kA, X', e', E, A, x1, x2, st⟩ := newRE X hx q2.2.2.1 (own := y.cls) q2.2.2.2.1 w1 w2 eT (g := mkF m pc L (.int n :: S)) rfl (hb hby hd) rfl hn hcap hbig hc hs had
  refine Goes.step st (K T' h' _ kA rfl ⟨vm, k, locs, X', e', ⟨q2.1, Nat.le_trans q2.2.1 E.1, q2.2.2⟩, ⟨q3.1, q3.2.trans (CHr.ext E q3.2.1)⟩, ⟨q4.1, ⟨Nat.le_trans hE.1 E.1, fun a c q => E.2 a c (hE.2 a c q)⟩, fun x hx => ?_⟩, q5⟩ E (Arv.new A hn) x1 x2)
  rcases List.mem_cons.mp hx with rfl | hx
  · exact ⟨hE.1, A.lt, (Safe.new (Nat.le_refl _)).ext E q3.2.1⟩
  · exact ⟨(q4.2.2 x hx).1, Nat.lt_of_lt_of_le (q4.2.2 x hx).2.1 E.1, (q4.2.2 x hx).2.2.ext E q3.2.1⟩
theorem g_aastore (W : Wk p l e R s m args below meth c y bc mL rt Z a0 EL nw h0 T h fr ce sl) {C : String} {pc pc' i : Nat} {kA : ClassId} {L : Array Slot} {S : List Value} {a b : Addr} {j n : Int32} {vs : List Value} {dv : Value} (hd : decode bc pc = .ok (.aastore, 1)) (hp : pc + 1 = pc') (A : Arv Z h a kA (.object C) n vs dv) (hO : Ovr Z kA C) (hI : Ins Z h b C true) (hj : ¬ j < 0 ∧ j < n) (hi : j.toNatClampNeg = i) (hl : i < vs.length) (hm : a ∈ fr)
    (K : ∀ T' h', Wk p l e R s m args below meth c y bc mL rt Z a0 EL nw h0 T' h' fr ce sl → Wr h h' a j.toNatClampNeg (.ref b) → Arv Z h' a kA (.object C) n (vs.set i (.ref b)) dv → Goes p e below s Z EL nw h0 fr0 Q rm T' (mkF m pc' L S)) : Goes p e below s Z EL nw h0 fr0 Q rm T (mkF m pc L (.ref b :: .int j :: .ref a :: S)) := by
  have hx := W.hx
  have hby := W.hby
  obtain ⟨vm, k, locs, X, eT, q2, q3, q4, q5⟩ := W
  subst hp
  obtain ⟨cl, A1, A2, A3, A4, A5, A6⟩ := A
  obtain ⟨T', h', X', e', W', st⟩ := stR X hx q2.2.2.1 eT A1 (j := j) (v := .ref b) (inb_of A3 hj) rfl (Sto.ofV A1 A2 hO hI) (g := mkF m pc L (.ref b :: .int j :: .ref a :: S)) rfl rfl (hb hby hd)
  exact Goes.step st (K T' h' (Wk.wrote hm W' X' e' q2 q3 q4 q5) W' (Arv.set A1 A2 A3 A4 A5 A6 rfl W' i hi hl))
theorem g_instNo (W : Wk p l e R s m args below meth c y bc mL rt Z a0 EL nw h0 T h fr ce sl) {K0 C : String} {index pc pc' : Nat} {L : Array Slot} {S : List Value} {a : Addr} (hd : decode bc pc = .ok (.instanceof index, 3)) (hp : pc + 3 = pc') (w : (Jvm.Cond.classLink y.cls index K0).before a0 Z = true) (E : Exa Z h a C) (F : ∃ c t, Z.vm.findClass C = some c ∧ Z.vm.findClass K0 = some t ∧ Z.vm.assignable c t = false)
    (K : ∀ T', Wk p l e R s m args below meth c y bc mL rt Z a0 EL nw h0 T' h fr ce sl → Goes p e below s Z EL nw h0 fr0 Q rm T' (mkF m pc' L (.int 0 :: S))) : Goes p e below s Z EL nw h0 fr0 Q rm T (mkF m pc L (.ref a :: S)) := by
  have hx := W.hx
  have hby := W.hby
  obtain ⟨vm, k, locs, X, eT, q2, q3, q4, q5⟩ := W
  subst hp
  obtain ⟨T', X', e', st⟩ := instNo X hx q2.2.2.1 (own := y.cls) q2.2.2.2.1 w eT E F (g := mkF m pc L (.ref a :: S)) rfl rfl (hb hby hd)
  exact Goes.step st (K T' ⟨vm, k, locs, X', e', q2, q3, q4, q5⟩)
theorem Wk.addArv (W : Wk p l e R s m args below meth c y bc mL rt Z a0 EL nw h0 T h fr ce sl) {d : Addr} {k : ClassId} {ty : FieldType} {n : Int32} {vs : List Value} {dv : Value} (A : Arv Z h d k ty n vs dv) (ht : ty ≠ .byte) (g : Z.heap.size ≤ d) : Wk p l e R s m args below meth c y bc mL rt Z a0 EL nw h0 T h (d :: fr) ce sl := by
  obtain ⟨vm, k, locs, X, w1, w2, w3, ⟨w4, w5, w6⟩, w7⟩ := W
  refine ⟨vm, k, locs, X, w1, w2, w3, ⟨w4, w5, fun x hx => ?_⟩, w7⟩
  rcases List.mem_cons.mp hx with rfl | hx
  · exact ⟨g, A.lt, Safe.arv w2.2.2.1.alike A ht⟩
  · exact w6 x hx
theorem Wk.addExa (W : Wk p l e R s m args below meth c y bc mL rt Z a0 EL nw h0 T h fr ce sl) {d : Addr} {C : String} (E : Exa Z h d C) (h1 : C ≠ "java/lang/String") (h2 : C ≠ "[B") (g : Z.heap.size ≤ d) : Wk p l e R s m args below meth c y bc mL rt Z a0 EL nw h0 T h (d :: fr) ce sl := by
  obtain ⟨vm, k, locs, X, w1, w2, w3, ⟨w4, w5, w6⟩, w7⟩ := W
  refine ⟨vm, k, locs, X, w1, w2, w3, ⟨w4, w5, fun x hx => ?_⟩, w7⟩
  rcases List.mem_cons.mp hx with rfl | hx
  · exact ⟨g, E.lt, Safe.exa w2.2.2.1.alike E h1 h2⟩
  · exact w6 x hx
end K7
theorem eqint_v {args : Array Value} {first s : State} {o : Option Outcome} {idx : List Nat} {a : Term} {k : Int32} (h : (Jvm.Cond.eq a (.int k)).value args first o s idx = some true) : a.eval args first o idx s = some (.int k) := by
  have hb : (Term.int k).eval args first o idx s = some (.int k) := Term.int_eval k
  simp only [Cond.value, hb] at h
  cases ha : a.eval args first o idx s with
  | none => simp [ha] at h
  | some v => cases v <;> simp_all
theorem arv0 {Z : State} {args : Array Value} {t : Term} {ty : FieldType} {de : Addr} {dv : Value} (ev : t.eval args Z none [] Z = some (.ref de)) (h1 : (Jvm.Cond.arrayOf t ty).value args Z none Z [] = some true) (h2 : (Jvm.Cond.eq (.length t) (.int 0)).value args Z none Z [] = some true) : ∃ k, Arv Z Z.heap de k ty 0 [] dv := by
  obtain ⟨c, A⟩ := Arr.start ev h1
  have e := eqint_v h2
  have hf : Z.arrayAt? de = some c := A.fin (Vm.Alike.refl _)
  simp [Term.eval, ev, hf] at e
  have e0 : c.slots.size = 0 := by
    have q := len_toInt e.1
    rw [e.2] at q
    have : (0 : Int32).toInt = 0 := (by decide)
    omega
  exact ⟨c.cls, c, A, rfl, by rw [e0]; rfl, by decide, fun i hi => by omega, fun i hi => by omega⟩
open Jvm.Pilot.@@N@@.Jvm.D
abbrev EL1 : List (String × Nat) := [("com/example/config_into_context/configintocontext/XmlElement", 19), ("com/example/config_into_context/configintocontext/XmlElementGivenPinLaw", 18), ("com/example/config_into_context/configintocontext/XmlElementGivenPinLaw", 20), ("com/example/config_into_context/configintocontext/XmlElementGivenPinLaw", 22), ("com/example/config_into_context/configintocontext/XmlElementGivenPinLaw", 38), ("java/lang/String", 7)]
abbrev NW : Bool := false
abbrev ks_Str : List FK := [("java/lang/String", "value", "[B"), ("java/lang/String", "coder", "B")]
theorem laid_Str {Z : State} {a0 : Array Value} (hw : ∀ d ∈ tables_1, d.before a0 Z = true) : LaidL Z a0 "java/lang/String" ks_Str := LaidL.cons (Or.inr (hw _ (List.mem_of_getElem? (i := 20) rfl))) (.array .byte) (by decide) (LaidL.cons (Or.inr (hw _ (List.mem_of_getElem? (i := 21) rfl))) .byte (by decide) (LaidL.nil))
theorem dis_Str {Z : State} {a0 : Array Value} (hw : ∀ d ∈ tables_1, d.before a0 Z = true) : Dis Z ks_Str := Dis.of (laid_Str hw) (by decide)
theorem new_Str {Z : State} {a0 : Array Value} {h : Heap} {a : Addr} (hw : ∀ d ∈ tables_1, d.before a0 Z = true) (A : Exa Z h a "java/lang/String") (D : ∀ {O nm d : String} {ty : FieldType}, Laid Z a0 "java/lang/String" O nm d → parseFieldDescriptor d = some ty → Fld Z h a O nm d (defaultValue ty)) : Obj Z h a "java/lang/String" [(("java/lang/String", "value", "[B"), .null), (("java/lang/String", "coder", "B"), (.int 0))] := ⟨A, FldL.cons (D (Or.inr (hw _ (List.mem_of_getElem? (i := 20) rfl))) (ty := (.array .byte)) (by decide)) (FldL.cons (D (Or.inr (hw _ (List.mem_of_getElem? (i := 21) rfl))) (ty := .byte) (by decide)) (FldL.nil))⟩
theorem wS_of {Z : State} {a0 : Array Value} (hw : ∀ d ∈ tables_1, d.before a0 Z = true) : ∀ a ∈ Bundle.stringAtoms, a.before a0 Z = true := fun d hd => hw d ((by decide +kernel : ∀ d ∈ Bundle.stringAtoms, d ∈ tables_1) d hd)
theorem cod_nil : StrChars.Road.CodA [] 0 0 [] := Or.inl ⟨rfl, rfl, rfl, fun _ q => nomatch q⟩
theorem d_jdk_42_method_149_code_0 : decode jdk_42_method_149_code 0 = .ok (.aload_n 0, 1) := by decide +kernel
theorem d_jdk_42_method_149_code_1 : decode jdk_42_method_149_code 1 = .ok (.invokespecial 1, 3) := by decide +kernel
theorem d_jdk_42_method_149_code_4 : decode jdk_42_method_149_code 4 = .ok (.iload_n 3, 1) := by decide +kernel
theorem d_jdk_42_method_149_code_5 : decode jdk_42_method_149_code 5 = .ok (.ifCond .ne 22, 3) := by decide +kernel
theorem d_jdk_42_method_149_code_8 : decode jdk_42_method_149_code 8 = .ok (.aload_n 0, 1) := by decide +kernel
theorem d_jdk_42_method_149_code_9 : decode jdk_42_method_149_code 9 = .ok (.ldc 7, 2) := by decide +kernel
theorem d_jdk_42_method_149_code_11 : decode jdk_42_method_149_code 11 = .ok (.getfield 9, 3) := by decide +kernel
theorem d_jdk_42_method_149_code_14 : decode jdk_42_method_149_code 14 = .ok (.putfield 9, 3) := by decide +kernel
theorem d_jdk_42_method_149_code_17 : decode jdk_42_method_149_code 17 = .ok (.aload_n 0, 1) := by decide +kernel
theorem d_jdk_42_method_149_code_18 : decode jdk_42_method_149_code 18 = .ok (.ldc 7, 2) := by decide +kernel
theorem d_jdk_42_method_149_code_20 : decode jdk_42_method_149_code 20 = .ok (.getfield 15, 3) := by decide +kernel
theorem d_jdk_42_method_149_code_23 : decode jdk_42_method_149_code 23 = .ok (.putfield 15, 3) := by decide +kernel
theorem d_jdk_42_method_149_code_26 : decode jdk_42_method_149_code 26 = .ok (.return_, 1) := by decide +kernel
theorem pf_0 : plainFor (⟨"java/lang/String", "<init>", "([CIILjava/lang/Void;)V"⟩ : MethodName) = true := by first | (exact plainFor_of_name (by first | (simp [plainName, overriddenIn]; done) | decide +kernel)) | decide +kernel
set_option maxRecDepth 65536 in
set_option maxHeartbeats 40000000 in
theorem rm_new4e {l : Launch} {Z : State} {a0 : Array Value} (hw : ∀ d ∈ tables_1, d.before a0 Z = true) (hEL : EW Z a0 EL1) {zc : Int32} (Sc : Sta Z Z.heap "java/lang/String" "COMPACT_STRINGS" "Z" (.int zc)) (hzc : ¬ zc = 0) (a1 b1 : Addr) (h : Heap) (hX : Ext Z.heap h) (g1 : Z.heap.size ≤ a1) (O1 : Obj Z h a1 "java/lang/String" [(("java/lang/String", "value", "[B"), .null), (("java/lang/String", "coder", "B"), (.int 0))]) : Met l Z EL1 NW (⟨"java/lang/String", "<init>", "([CIILjava/lang/Void;)V"⟩ : MethodName) jdk_42_method_149_code 6 none [] ({ frames := 1, cells := 4, slots := 8, locals := 12 } : Room) #[(.ref a1), (.ref b1), (.int (0 : Int32)), (.int (0 : Int32)), .null] h [a1] (fun v h' => v = none ∧ Str Z h' a1 []) := by
  refine Met.intro pf_0 hEL hX (allS ⟨g1, O1.lt⟩ all0) ?_
  intro p e s m below meth c T W
  refine Goes.cast (show entryFrame m #[(.ref a1), (.ref b1), (.int (0 : Int32)), (.int (0 : Int32)), .null] 6 = mkF m 0 #[.val (.ref a1), .val (.ref b1), .val (.int (0 : Int32)), .val (.int (0 : Int32)), .val .null, .unset] [] by first | (simp [entryFrame, mkF, argsToLocals, Value.category]; done) | rfl) ?_
  refine g_aload_n W d_jdk_42_method_149_code_0 (pc' := 1) rfl rfl rfl ?_
  refine g_initO W d_jdk_42_method_149_code_1 (pc' := 4) (Wd := 0) rfl (hw _ (List.mem_of_getElem? (i := 15) rfl)) (hw _ (List.mem_of_getElem? (i := 16) rfl)) (hw _ (List.mem_of_getElem? (i := 17) rfl)) rfl rfl (by decide) (by decide) fun T1 W2 => ?_
  refine g_iload_n W2 d_jdk_42_method_149_code_4 (pc' := 5) rfl rfl ?_
  refine g_ifN W2 d_jdk_42_method_149_code_5 (pc' := 8) rfl (Jvm.Free.XT.i0_ne_f rfl) ?_
  refine g_aload_n W2 d_jdk_42_method_149_code_8 (pc' := 9) rfl rfl rfl ?_
  refine g_ldc W2 d_jdk_42_method_149_code_9 (pc' := 11) (text := "") (vs := []) (zz := (0 : Int32)) (n := 0) rfl (hw _ (List.mem_of_getElem? (i := 18) rfl)) (wS_of hw) (List.mem_of_getElem? (i := 5) rfl) ⟨by decide +kernel, by decide +kernel⟩ (by decide) (by decide) (by decide +kernel) (by decide) (by decide) (by decide) fun T3 h5 a13 b14 kb12 W4 E6 X7 C8 V9 A10 ne11 => ?_
  refine g_getfield W4 d_jdk_42_method_149_code_11 (pc' := 14) (host := "") rfl (Or.inl (hw _ (List.mem_of_getElem? (i := 24) rfl))) Via.refl V9 fun T15 W16 => ?_
  have K22 : Keep h h5 [] := ((Keep.refl h []).ext E6)
  have F23 := O1.mv K22
  refine g_putfield W16 d_jdk_42_method_149_code_14 (pc' := 17) (host := "") (ty := (.array .byte)) rfl (Or.inl (hw _ (List.mem_of_getElem? (i := 24) rfl))) Via.refl (F23.get 0 rfl) F23.1 (Or.inr ⟨(hw _ (List.mem_of_getElem? (i := 20) rfl)), rfl, rfl⟩) (hw _ (List.mem_of_getElem? (i := 5) rfl)) (by decide) rfl rfl (List.mem_of_getElem? (i := 0) rfl) fun T17 h19 W18 R20 => ?_
  have O21 : Obj Z h19 a1 "java/lang/String" [(("java/lang/String", "value", "[B"), (.ref b14)), (("java/lang/String", "coder", "B"), (.int 0))] := F23.put R20 0 rfl (dis_Str hw)
  have A24 := A10.keep (Keep.of_wr R20) (ninS (fun q => (ne11 a1 (List.mem_of_getElem? (i := 0) rfl)).2 q.symm) nin0)
  refine g_aload_n W18 d_jdk_42_method_149_code_17 (pc' := 18) rfl rfl rfl ?_
  refine g_ldc W18 d_jdk_42_method_149_code_18 (pc' := 20) (text := "") (vs := []) (zz := (0 : Int32)) (n := 0) rfl (hw _ (List.mem_of_getElem? (i := 18) rfl)) (wS_of hw) (List.mem_of_getElem? (i := 5) rfl) ⟨by decide +kernel, by decide +kernel⟩ (by decide) (by decide) (by decide +kernel) (by decide) (by decide) (by decide) fun T25 h27 a35 b36 kb34 W26 E28 X29 C30 V31 A32 ne33 => ?_
  refine g_getfield W26 d_jdk_42_method_149_code_20 (pc' := 23) (host := "") rfl (Or.inl (hw _ (List.mem_of_getElem? (i := 25) rfl))) Via.refl C30 fun T37 W38 => ?_
  have K39 : Keep h19 h27 [] := ((Keep.refl h19 []).ext E28)
  have F40 := A24.mv K39
  have F46 := O21.mv K39
  refine g_putfield W38 d_jdk_42_method_149_code_23 (pc' := 26) (host := "") (ty := .byte) rfl (Or.inl (hw _ (List.mem_of_getElem? (i := 25) rfl))) Via.refl (F46.get 1 rfl) F46.1 (Or.inr ⟨(hw _ (List.mem_of_getElem? (i := 21) rfl)), rfl, rfl⟩) (hw _ (List.mem_of_getElem? (i := 5) rfl)) (by decide) rfl rfl (List.mem_of_getElem? (i := 0) rfl) fun T41 h43 W42 R44 => ?_
  have O45 : Obj Z h43 a1 "java/lang/String" [(("java/lang/String", "value", "[B"), (.ref b14)), (("java/lang/String", "coder", "B"), (.int (0 : Int32)))] := F46.put R44 1 rfl (dis_Str hw)
  have A47 := F40.keep (Keep.of_wr R44) (ninS (fun q => (ne11 a1 (List.mem_of_getElem? (i := 0) rfl)).2 q.symm) nin0)
  have K48 : Keep h h43 [a1] := (((((Keep.refl h [a1]).ext E6).wr R20 (Or.inl (List.mem_of_getElem? (i := 0) rfl))).ext E28).wr R44 (Or.inl (List.mem_of_getElem? (i := 0) rfl)))
  exact g_return W42 d_jdk_42_method_149_code_26 K48 ⟨rfl, _, _, _, _, _, O45.1, O45.get 0 rfl, O45.get 1 rfl, A47, cod_nil, (fun _ q => nomatch q), Nat.zero_le _⟩ (by decide) (by decide)
theorem d_jdk_42_method_3_code_0 : decode jdk_42_method_3_code 0 = .ok (.aload_n 0, 1) := by decide +kernel
theorem d_jdk_42_method_3_code_1 : decode jdk_42_method_3_code 1 = .ok (.aload_n 1, 1) := by decide +kernel
theorem d_jdk_42_method_3_code_2 : decode jdk_42_method_3_code 2 = .ok (.iconst 0, 1) := by decide +kernel
theorem d_jdk_42_method_3_code_3 : decode jdk_42_method_3_code 3 = .ok (.aload_n 1, 1) := by decide +kernel
theorem d_jdk_42_method_3_code_4 : decode jdk_42_method_3_code 4 = .ok (.arraylength, 1) := by decide +kernel
theorem d_jdk_42_method_3_code_5 : decode jdk_42_method_3_code 5 = .ok (.aconst_null, 1) := by decide +kernel
theorem d_jdk_42_method_3_code_6 : decode jdk_42_method_3_code 6 = .ok (.invokespecial 27, 3) := by decide +kernel
theorem pd_0 : parseMethodDescriptor "([CIILjava/lang/Void;)V" = some ⟨[(.array .char), .int, .int, (.object "java/lang/Void")], none⟩ := by decide +kernel
theorem d_jdk_42_method_3_code_9 : decode jdk_42_method_3_code 9 = .ok (.return_, 1) := by decide +kernel
theorem pf_1 : plainFor (⟨"java/lang/String", "<init>", "([C)V"⟩ : MethodName) = true := by first | (exact plainFor_of_name (by first | (simp [plainName, overriddenIn]; done) | decide +kernel)) | decide +kernel
set_option maxRecDepth 65536 in
set_option maxHeartbeats 40000000 in
theorem rm_new1e {l : Launch} {Z : State} {a0 : Array Value} (hw : ∀ d ∈ tables_1, d.before a0 Z = true) (hEL : EW Z a0 EL1) {zc : Int32} (Sc : Sta Z Z.heap "java/lang/String" "COMPACT_STRINGS" "Z" (.int zc)) (hzc : ¬ zc = 0) (a1 b1 : Addr) (kA : ClassId) (vs : List Value) (dv : Value) (h : Heap) (hX : Ext Z.heap h) (g1 : Z.heap.size ≤ a1) (O1 : Obj Z h a1 "java/lang/String" [(("java/lang/String", "value", "[B"), .null), (("java/lang/String", "coder", "B"), (.int 0))]) (A1 : Arv Z h b1 kA .char (0 : Int32) vs dv) : Met l Z EL1 NW (⟨"java/lang/String", "<init>", "([C)V"⟩ : MethodName) jdk_42_method_3_code 2 none [] ({ frames := 2, cells := 4, slots := 8, locals := 29 } : Room) #[(.ref a1), (.ref b1)] h [a1] (fun v h' => v = none ∧ Str Z h' a1 []) := by
  refine Met.intro pf_1 hEL hX (allS ⟨g1, O1.lt⟩ all0) ?_
  intro p e s m below meth c T W
  refine Goes.cast (show entryFrame m #[(.ref a1), (.ref b1)] 2 = mkF m 0 #[.val (.ref a1), .val (.ref b1)] [] by first | (simp [entryFrame, mkF, argsToLocals, Value.category]; done) | rfl) ?_
  refine g_aload_n W d_jdk_42_method_3_code_0 (pc' := 1) rfl rfl rfl ?_
  refine g_aload_n W d_jdk_42_method_3_code_1 (pc' := 2) rfl rfl rfl ?_
  refine g_iconst W d_jdk_42_method_3_code_2 (pc' := 3) (v := (0 : Int32)) rfl rfl ?_
  refine g_aload_n W d_jdk_42_method_3_code_3 (pc' := 4) rfl rfl rfl ?_
  refine g_arraylength W d_jdk_42_method_3_code_4 (pc' := 5) rfl A1 ?_
  refine g_aconst_null W d_jdk_42_method_3_code_5 (pc' := 6) rfl ?_
  refine g_special W d_jdk_42_method_3_code_6 (pc' := 9) (a := a1) (fr' := [a1]) (argsL := [(.ref b1), (.int (0 : Int32)), (.int (0 : Int32)), .null]) (rest := []) (Wd := 0) (kc := 4) (ks := 8) rfl rfl (hw _ (List.mem_of_getElem? (i := 11) rfl)) (hw _ (List.mem_of_getElem? (i := 12) rfl)) (hw _ (List.mem_of_getElem? (i := 14) rfl)) (by decide) rfl rfl (lenOf pd_0 rfl) rfl (allS (List.mem_of_getElem? (i := 0) rfl) (all0)) (by decide) (by decide) (Met.pays (rm_new4e hw hEL Sc hzc a1 b1 _ W.ext g1 O1) (hw _ (List.mem_of_getElem? (i := 14) rfl)) (hw _ (List.mem_of_getElem? (i := 6) rfl)) hEL (by decide) (by decide)) fun v6 T1 h3 W2 K4 q5 => ?_
  obtain ⟨rfl, S1⟩ := q5
  show Goes _ _ _ _ _ _ _ _ _ _ _ T1 (mkF m 9 #[.val (.ref a1), .val (.ref b1)] [])
  have K7 : Keep h h3 [a1] := ((Keep.refl h [a1]).trans K4 fun x q => by cases List.mem_singleton.mp q; exact Or.inl (List.mem_of_getElem? (i := 0) rfl))
  exact g_return W2 d_jdk_42_method_3_code_9 K7 ⟨rfl, S1⟩ (by decide) (by decide)
abbrev ks_AL : List FK := [("java/util/AbstractList", "modCount", "I"), ("java/util/ArrayList", "elementData", "[Ljava/lang/Object;"), ("java/util/ArrayList", "size", "I")]
theorem laid_AL {Z : State} {a0 : Array Value} (hw : ∀ d ∈ tables_1, d.before a0 Z = true) : LaidL Z a0 "java/util/ArrayList" ks_AL := LaidL.cons (Or.inl (hw _ (List.mem_of_getElem? (i := 49) rfl))) .int (by decide) (LaidL.cons (Or.inl (hw _ (List.mem_of_getElem? (i := 52) rfl))) (.array (.object "java/lang/Object")) (by decide) (LaidL.cons (Or.inl (hw _ (List.mem_of_getElem? (i := 97) rfl))) .int (by decide) (LaidL.nil)))
theorem dis_AL {Z : State} {a0 : Array Value} (hw : ∀ d ∈ tables_1, d.before a0 Z = true) : Dis Z ks_AL := Dis.of (laid_AL hw) (by decide)
theorem new_AL {Z : State} {a0 : Array Value} {h : Heap} {a : Addr} (hw : ∀ d ∈ tables_1, d.before a0 Z = true) (A : Exa Z h a "java/util/ArrayList") (D : ∀ {O nm d : String} {ty : FieldType}, Laid Z a0 "java/util/ArrayList" O nm d → parseFieldDescriptor d = some ty → Fld Z h a O nm d (defaultValue ty)) : Obj Z h a "java/util/ArrayList" [(("java/util/AbstractList", "modCount", "I"), (.int 0)), (("java/util/ArrayList", "elementData", "[Ljava/lang/Object;"), .null), (("java/util/ArrayList", "size", "I"), (.int 0))] := ⟨A, FldL.cons (D (Or.inl (hw _ (List.mem_of_getElem? (i := 49) rfl))) (ty := .int) (by decide)) (FldL.cons (D (Or.inl (hw _ (List.mem_of_getElem? (i := 52) rfl))) (ty := (.array (.object "java/lang/Object"))) (by decide)) (FldL.cons (D (Or.inl (hw _ (List.mem_of_getElem? (i := 97) rfl))) (ty := .int) (by decide)) (FldL.nil)))⟩
theorem d_jdk_22_method_1_code_0 : decode jdk_22_method_1_code 0 = .ok (.aload_n 0, 1) := by decide +kernel
theorem d_jdk_22_method_1_code_1 : decode jdk_22_method_1_code 1 = .ok (.invokespecial 1, 3) := by decide +kernel
theorem d_jdk_22_method_1_code_4 : decode jdk_22_method_1_code 4 = .ok (.return_, 1) := by decide +kernel
theorem pf_2 : plainFor (⟨"java/util/AbstractCollection", "<init>", "()V"⟩ : MethodName) = true := by first | (exact plainFor_of_name (by first | (simp [plainName, overriddenIn]; done) | decide +kernel)) | decide +kernel
set_option maxRecDepth 65536 in
set_option maxHeartbeats 40000000 in
theorem rm_abc {l : Launch} {Z : State} {a0 : Array Value} (hw : ∀ d ∈ tables_1, d.before a0 Z = true) (hEL : EW Z a0 EL1) {zc : Int32} (Sc : Sta Z Z.heap "java/lang/String" "COMPACT_STRINGS" "Z" (.int zc)) (hzc : ¬ zc = 0) (a1 : Addr) (h : Heap) (hX : Ext Z.heap h)  : Met l Z EL1 NW (⟨"java/util/AbstractCollection", "<init>", "()V"⟩ : MethodName) jdk_22_method_1_code 1 none [] ({ frames := 1, cells := 0, slots := 0, locals := 12 } : Room) #[(.ref a1)] h [] (fun v h' => h = h' ∧ v = none) := by
  refine Met.intro pf_2 hEL hX (fun _ q => nomatch q) ?_
  intro p e s m below meth c T W
  refine Goes.cast (show entryFrame m #[(.ref a1)] 1 = mkF m 0 #[.val (.ref a1)] [] by first | (simp [entryFrame, mkF, argsToLocals, Value.category]; done) | rfl) ?_
  refine g_aload_n W d_jdk_22_method_1_code_0 (pc' := 1) rfl rfl rfl ?_
  refine g_initO W d_jdk_22_method_1_code_1 (pc' := 4) (Wd := 0) rfl (hw _ (List.mem_of_getElem? (i := 47) rfl)) (hw _ (List.mem_of_getElem? (i := 16) rfl)) (hw _ (List.mem_of_getElem? (i := 17) rfl)) rfl rfl (by decide) (by decide) fun T1 W2 => ?_
  exact g_return W2 d_jdk_22_method_1_code_4 (Keep.refl h []) ⟨rfl, rfl⟩ (by decide) (by decide)
theorem d_jdk_39_method_1_code_0 : decode jdk_39_method_1_code 0 = .ok (.aload_n 0, 1) := by decide +kernel
theorem d_jdk_39_method_1_code_1 : decode jdk_39_method_1_code 1 = .ok (.invokespecial 1, 3) := by decide +kernel
theorem pd_1 : parseMethodDescriptor "()V" = some ⟨[], none⟩ := by decide +kernel
theorem d_jdk_39_method_1_code_4 : decode jdk_39_method_1_code 4 = .ok (.aload_n 0, 1) := by decide +kernel
theorem d_jdk_39_method_1_code_5 : decode jdk_39_method_1_code 5 = .ok (.iconst 0, 1) := by decide +kernel
theorem d_jdk_39_method_1_code_6 : decode jdk_39_method_1_code 6 = .ok (.putfield 7, 3) := by decide +kernel
theorem d_jdk_39_method_1_code_9 : decode jdk_39_method_1_code 9 = .ok (.return_, 1) := by decide +kernel
theorem pf_3 : plainFor (⟨"java/util/AbstractList", "<init>", "()V"⟩ : MethodName) = true := by first | (exact plainFor_of_name (by first | (simp [plainName, overriddenIn]; done) | decide +kernel)) | decide +kernel
set_option maxRecDepth 65536 in
set_option maxHeartbeats 40000000 in
theorem rm_abl {l : Launch} {Z : State} {a0 : Array Value} (hw : ∀ d ∈ tables_1, d.before a0 Z = true) (hEL : EW Z a0 EL1) {zc : Int32} (Sc : Sta Z Z.heap "java/lang/String" "COMPACT_STRINGS" "Z" (.int zc)) (hzc : ¬ zc = 0) (a1 : Addr) (h : Heap) (hX : Ext Z.heap h) (g1 : Z.heap.size ≤ a1) (O1 : Obj Z h a1 "java/util/ArrayList" [(("java/util/AbstractList", "modCount", "I"), (.int 0)), (("java/util/ArrayList", "elementData", "[Ljava/lang/Object;"), .null), (("java/util/ArrayList", "size", "I"), (.int 0))]) : Met l Z EL1 NW (⟨"java/util/AbstractList", "<init>", "()V"⟩ : MethodName) jdk_39_method_1_code 1 none [] ({ frames := 2, cells := 0, slots := 0, locals := 24 } : Room) #[(.ref a1)] h [a1] (fun v h' => v = none ∧ Obj Z h' a1 "java/util/ArrayList" [(("java/util/AbstractList", "modCount", "I"), (.int 0)), (("java/util/ArrayList", "elementData", "[Ljava/lang/Object;"), .null), (("java/util/ArrayList", "size", "I"), (.int 0))]) := by
  refine Met.intro pf_3 hEL hX (allS ⟨g1, O1.lt⟩ all0) ?_
  intro p e s m below meth c T W
  refine Goes.cast (show entryFrame m #[(.ref a1)] 1 = mkF m 0 #[.val (.ref a1)] [] by first | (simp [entryFrame, mkF, argsToLocals, Value.category]; done) | rfl) ?_
  refine g_aload_n W d_jdk_39_method_1_code_0 (pc' := 1) rfl rfl rfl ?_
  refine g_special W d_jdk_39_method_1_code_1 (pc' := 4) (a := a1) (fr' := []) (argsL := []) (rest := []) (Wd := 0) (kc := 0) (ks := 0) rfl rfl (hw _ (List.mem_of_getElem? (i := 41) rfl)) (hw _ (List.mem_of_getElem? (i := 42) rfl)) (hw _ (List.mem_of_getElem? (i := 46) rfl)) (by decide) rfl rfl (lenOf pd_1 rfl) rfl all0 (by decide) (by decide) (Met.pays (rm_abc hw hEL Sc hzc a1 _ W.ext) (hw _ (List.mem_of_getElem? (i := 46) rfl)) (hw _ (List.mem_of_getElem? (i := 45) rfl)) hEL (by decide) (by decide)) fun v6 T1 h3 W2 K4 q5 => ?_
  obtain ⟨rfl, rfl⟩ := q5
  show Goes _ _ _ _ _ _ _ _ _ _ _ T1 (mkF m 4 #[.val (.ref a1)] [])
  refine g_aload_n W2 d_jdk_39_method_1_code_4 (pc' := 5) rfl rfl rfl ?_
  refine g_iconst W2 d_jdk_39_method_1_code_5 (pc' := 6) (v := (0 : Int32)) rfl rfl ?_
  refine g_putfield W2 d_jdk_39_method_1_code_6 (pc' := 9) (host := "") (ty := .int) rfl (Or.inl (hw _ (List.mem_of_getElem? (i := 48) rfl))) Via.refl (O1.get 0 rfl) O1.1 (Or.inl (hw _ (List.mem_of_getElem? (i := 49) rfl))) (hw _ (List.mem_of_getElem? (i := 30) rfl)) (by decide) rfl rfl (List.mem_of_getElem? (i := 0) rfl) fun T7 h9 W8 R10 => ?_
  have O11 : Obj Z h9 a1 "java/util/ArrayList" [(("java/util/AbstractList", "modCount", "I"), (.int (0 : Int32))), (("java/util/ArrayList", "elementData", "[Ljava/lang/Object;"), .null), (("java/util/ArrayList", "size", "I"), (.int 0))] := O1.put R10 0 rfl (dis_AL hw)
  have K12 : Keep h h9 [a1] := ((Keep.refl h [a1]).wr R10 (Or.inl (List.mem_of_getElem? (i := 0) rfl)))
  exact g_return W8 d_jdk_39_method_1_code_9 K12 ⟨rfl, O11⟩ (by decide) (by decide)
theorem d_jdk_38_method_2_code_0 : decode jdk_38_method_2_code 0 = .ok (.aload_n 0, 1) := by decide +kernel
theorem d_jdk_38_method_2_code_1 : decode jdk_38_method_2_code 1 = .ok (.invokespecial 1, 3) := by decide +kernel
theorem d_jdk_38_method_2_code_4 : decode jdk_38_method_2_code 4 = .ok (.aload_n 0, 1) := by decide +kernel
theorem d_jdk_38_method_2_code_5 : decode jdk_38_method_2_code 5 = .ok (.getstatic 39, 3) := by decide +kernel
theorem d_jdk_38_method_2_code_8 : decode jdk_38_method_2_code 8 = .ok (.putfield 9, 3) := by decide +kernel
theorem d_jdk_38_method_2_code_11 : decode jdk_38_method_2_code 11 = .ok (.return_, 1) := by decide +kernel
theorem pf_4 : plainFor (⟨"java/util/ArrayList", "<init>", "()V"⟩ : MethodName) = true := by first | (exact plainFor_of_name (by first | (simp [plainName, overriddenIn]; done) | decide +kernel)) | decide +kernel
set_option maxRecDepth 65536 in
set_option maxHeartbeats 40000000 in
theorem rm_alinit {l : Launch} {Z : State} {a0 : Array Value} (hw : ∀ d ∈ tables_1, d.before a0 Z = true) (hEL : EW Z a0 EL1) {zc : Int32} (Sc : Sta Z Z.heap "java/lang/String" "COMPACT_STRINGS" "Z" (.int zc)) (hzc : ¬ zc = 0) (a1 : Addr) {de : Addr} {kd : ClassId} (h : Heap) (hX : Ext Z.heap h) (Sd : Sta Z Z.heap "java/util/ArrayList" "DEFAULTCAPACITY_EMPTY_ELEMENTDATA" "[Ljava/lang/Object;" (.ref de)) (Ad : Arv Z Z.heap de kd (.object "java/lang/Object") (0 : Int32) [] .null) (g1 : Z.heap.size ≤ a1) (O1 : Obj Z h a1 "java/util/ArrayList" [(("java/util/AbstractList", "modCount", "I"), (.int 0)), (("java/util/ArrayList", "elementData", "[Ljava/lang/Object;"), .null), (("java/util/ArrayList", "size", "I"), (.int 0))]) : Met l Z EL1 NW (⟨"java/util/ArrayList", "<init>", "()V"⟩ : MethodName) jdk_38_method_2_code 1 none [] ({ frames := 3, cells := 0, slots := 0, locals := 36 } : Room) #[(.ref a1)] h [a1] (fun v h' => v = none ∧ Obj Z h' a1 "java/util/ArrayList" [(("java/util/AbstractList", "modCount", "I"), (.int 0)), (("java/util/ArrayList", "elementData", "[Ljava/lang/Object;"), (.ref de)), (("java/util/ArrayList", "size", "I"), (.int 0))]) := by
  refine Met.intro pf_4 hEL hX (allS ⟨g1, O1.lt⟩ all0) ?_
  intro p e s m below meth c T W
  refine Goes.cast (show entryFrame m #[(.ref a1)] 1 = mkF m 0 #[.val (.ref a1)] [] by first | (simp [entryFrame, mkF, argsToLocals, Value.category]; done) | rfl) ?_
  refine g_aload_n W d_jdk_38_method_2_code_0 (pc' := 1) rfl rfl rfl ?_
  refine g_special W d_jdk_38_method_2_code_1 (pc' := 4) (a := a1) (fr' := [a1]) (argsL := []) (rest := []) (Wd := 0) (kc := 0) (ks := 0) rfl rfl (hw _ (List.mem_of_getElem? (i := 35) rfl)) (hw _ (List.mem_of_getElem? (i := 36) rfl)) (hw _ (List.mem_of_getElem? (i := 40) rfl)) (by decide) rfl rfl (lenOf pd_1 rfl) rfl (allS (List.mem_of_getElem? (i := 0) rfl) (all0)) (by decide) (by decide) (Met.pays (rm_abl hw hEL Sc hzc a1 _ W.ext g1 O1) (hw _ (List.mem_of_getElem? (i := 40) rfl)) (hw _ (List.mem_of_getElem? (i := 39) rfl)) hEL (by decide) (by decide)) fun v6 T1 h3 W2 K4 q5 => ?_
  obtain ⟨rfl, O2⟩ := q5
  show Goes _ _ _ _ _ _ _ _ _ _ _ T1 (mkF m 4 #[.val (.ref a1)] [])
  refine g_aload_n W2 d_jdk_38_method_2_code_4 (pc' := 5) rfl rfl rfl ?_
  refine g_getstatic W2 d_jdk_38_method_2_code_5 (pc' := 8) rfl (hw _ (List.mem_of_getElem? (i := 50) rfl)) Via.refl Sd fun T7 W8 => ?_
  refine g_putfield W8 d_jdk_38_method_2_code_8 (pc' := 11) (host := "") (ty := (.array (.object "java/lang/Object"))) rfl (Or.inl (hw _ (List.mem_of_getElem? (i := 51) rfl))) Via.refl (O2.get 1 rfl) O2.1 (Or.inl (hw _ (List.mem_of_getElem? (i := 52) rfl))) (hw _ (List.mem_of_getElem? (i := 30) rfl)) (by decide) rfl rfl (List.mem_of_getElem? (i := 0) rfl) fun T9 h11 W10 R12 => ?_
  have O13 : Obj Z h11 a1 "java/util/ArrayList" [(("java/util/AbstractList", "modCount", "I"), (.int 0)), (("java/util/ArrayList", "elementData", "[Ljava/lang/Object;"), (.ref de)), (("java/util/ArrayList", "size", "I"), (.int 0))] := O2.put R12 1 rfl (dis_AL hw)
  have K14 : Keep h h11 [a1] := (((Keep.refl h [a1]).trans K4 fun x q => by cases List.mem_singleton.mp q; exact Or.inl (List.mem_of_getElem? (i := 0) rfl)).wr R12 (Or.inl (List.mem_of_getElem? (i := 0) rfl)))
  exact g_return W10 d_jdk_38_method_2_code_11 K14 ⟨rfl, O13⟩ (by decide) (by decide)
theorem d_jdk_29_method_65_code_0 : decode jdk_29_method_65_code 0 = .ok (.iload_n 0, 1) := by decide +kernel
theorem d_jdk_29_method_65_code_1 : decode jdk_29_method_65_code 1 = .ok (.iload_n 1, 1) := by decide +kernel
theorem d_jdk_29_method_65_code_2 : decode jdk_29_method_65_code 2 = .ok (.if_icmp .lt 7, 3) := by decide +kernel
theorem d_jdk_29_method_65_code_5 : decode jdk_29_method_65_code 5 = .ok (.iload_n 0, 1) := by decide +kernel
theorem d_jdk_29_method_65_code_6 : decode jdk_29_method_65_code 6 = .ok (.goto 4, 3) := by decide +kernel
theorem d_jdk_29_method_65_code_10 : decode jdk_29_method_65_code 10 = .ok (.ireturn, 1) := by decide +kernel
theorem pf_5 : plainFor (⟨"java/lang/Math", "max", "(II)I"⟩ : MethodName) = true := by first | (exact plainFor_of_name (by first | (simp [plainName, overriddenIn]; done) | decide +kernel)) | decide +kernel
set_option maxRecDepth 65536 in
set_option maxHeartbeats 40000000 in
theorem rm_max {l : Launch} {Z : State} {a0 : Array Value} (hw : ∀ d ∈ tables_1, d.before a0 Z = true) (hEL : EW Z a0 EL1) {zc : Int32} (Sc : Sta Z Z.heap "java/lang/String" "COMPACT_STRINGS" "Z" (.int zc)) (hzc : ¬ zc = 0) (p1 p2 : Int32) (h : Heap) (hX : Ext Z.heap h) (q : ¬ p1 < p2) : Met l Z EL1 NW (⟨"java/lang/Math", "max", "(II)I"⟩ : MethodName) jdk_29_method_65_code 2 (some .int) [] ({ frames := 0, cells := 0, slots := 0, locals := 0 } : Room) #[(.int p1), (.int p2)] h [] (fun v h' => h = h' ∧ v = some (.int p1)) := by
  refine Met.intro pf_5 hEL hX (fun _ q => nomatch q) ?_
  intro p e s m below meth c T W
  refine Goes.cast (show entryFrame m #[(.int p1), (.int p2)] 2 = mkF m 0 #[.val (.int p1), .val (.int p2)] [] by first | (simp [entryFrame, mkF, argsToLocals, Value.category]; done) | rfl) ?_
  refine g_iload_n W d_jdk_29_method_65_code_0 (pc' := 1) rfl rfl ?_
  refine g_iload_n W d_jdk_29_method_65_code_1 (pc' := 2) rfl rfl ?_
  refine g_icmpN W d_jdk_29_method_65_code_2 (pc' := 5) rfl (Jvm.Free.XT.ii_lt_f q) ?_
  refine g_iload_n W d_jdk_29_method_65_code_5 (pc' := 6) rfl rfl ?_
  refine g_goto W d_jdk_29_method_65_code_6 (pc' := 10) (by decide) (by decide) ?_
  exact g_ireturn W d_jdk_29_method_65_code_10 (by decide) rfl (Keep.refl h []) ⟨rfl, rfl⟩ (by decide) (by decide)
theorem d_jdk_38_method_6_code_0 : decode jdk_38_method_6_code 0 = .ok (.aload_n 0, 1) := by decide +kernel
theorem d_jdk_38_method_6_code_1 : decode jdk_38_method_6_code 1 = .ok (.getfield 9, 3) := by decide +kernel
theorem d_jdk_38_method_6_code_4 : decode jdk_38_method_6_code 4 = .ok (.arraylength, 1) := by decide +kernel
theorem d_jdk_38_method_6_code_5 : decode jdk_38_method_6_code 5 = .ok (.istore_n 2, 1) := by decide +kernel
theorem d_jdk_38_method_6_code_6 : decode jdk_38_method_6_code 6 = .ok (.iload_n 2, 1) := by decide +kernel
theorem d_jdk_38_method_6_code_7 : decode jdk_38_method_6_code 7 = .ok (.ifCond .gt 13, 3) := by decide +kernel
theorem d_jdk_38_method_6_code_10 : decode jdk_38_method_6_code 10 = .ok (.aload_n 0, 1) := by decide +kernel
theorem d_jdk_38_method_6_code_11 : decode jdk_38_method_6_code 11 = .ok (.getfield 9, 3) := by decide +kernel
theorem d_jdk_38_method_6_code_14 : decode jdk_38_method_6_code 14 = .ok (.getstatic 39, 3) := by decide +kernel
theorem d_jdk_38_method_6_code_17 : decode jdk_38_method_6_code 17 = .ok (.if_acmp .eq 28, 3) := by decide +kernel
theorem d_jdk_38_method_6_code_45 : decode jdk_38_method_6_code 45 = .ok (.aload_n 0, 1) := by decide +kernel
theorem d_jdk_38_method_6_code_46 : decode jdk_38_method_6_code 46 = .ok (.bipush 10, 2) := by decide +kernel
theorem d_jdk_38_method_6_code_48 : decode jdk_38_method_6_code 48 = .ok (.iload_n 1, 1) := by decide +kernel
theorem d_jdk_38_method_6_code_49 : decode jdk_38_method_6_code 49 = .ok (.invokestatic 79, 3) := by decide +kernel
theorem pd_2 : parseMethodDescriptor "(II)I" = some ⟨[.int, .int], some .int⟩ := by decide +kernel
theorem d_jdk_38_method_6_code_52 : decode jdk_38_method_6_code 52 = .ok (.anewarray 7, 3) := by decide +kernel
theorem d_jdk_38_method_6_code_55 : decode jdk_38_method_6_code 55 = .ok (.dup_x1, 1) := by decide +kernel
theorem d_jdk_38_method_6_code_56 : decode jdk_38_method_6_code 56 = .ok (.putfield 9, 3) := by decide +kernel
theorem d_jdk_38_method_6_code_59 : decode jdk_38_method_6_code 59 = .ok (.areturn, 1) := by decide +kernel
theorem pf_6 : plainFor (⟨"java/util/ArrayList", "grow", "(I)[Ljava/lang/Object;"⟩ : MethodName) = true := by first | (exact plainFor_of_name (by first | (simp [plainName, overriddenIn]; done) | decide +kernel)) | decide +kernel
set_option maxRecDepth 65536 in
set_option maxHeartbeats 40000000 in
theorem rm_grow1 {l : Launch} {Z : State} {a0 : Array Value} (hw : ∀ d ∈ tables_1, d.before a0 Z = true) (hEL : EW Z a0 EL1) {zc : Int32} (Sc : Sta Z Z.heap "java/lang/String" "COMPACT_STRINGS" "Z" (.int zc)) (hzc : ¬ zc = 0) (a1 : Addr) (mc p2 : Int32) {de : Addr} {kd : ClassId} (h : Heap) (hX : Ext Z.heap h) (Sd : Sta Z Z.heap "java/util/ArrayList" "DEFAULTCAPACITY_EMPTY_ELEMENTDATA" "[Ljava/lang/Object;" (.ref de)) (Ad : Arv Z Z.heap de kd (.object "java/lang/Object") (0 : Int32) [] .null) (q2 : ¬ (10 : Int32) < p2) (g1 : Z.heap.size ≤ a1) (O1 : Obj Z h a1 "java/util/ArrayList" [(("java/util/AbstractList", "modCount", "I"), (.int mc)), (("java/util/ArrayList", "elementData", "[Ljava/lang/Object;"), (.ref de)), (("java/util/ArrayList", "size", "I"), (.int 0))]) : Met l Z EL1 NW (⟨"java/util/ArrayList", "grow", "(I)[Ljava/lang/Object;"⟩ : MethodName) jdk_38_method_6_code 4 (some (.array (.object "java/lang/Object"))) [] ({ frames := 1, cells := 1, slots := 10, locals := 40 } : Room) #[(.ref a1), (.int p2)] h [a1] (fun v h' => ∃ d k, v = some (.ref d) ∧ h.size ≤ d ∧ Obj Z h' a1 "java/util/ArrayList" [(("java/util/AbstractList", "modCount", "I"), (.int mc)), (("java/util/ArrayList", "elementData", "[Ljava/lang/Object;"), (.ref d)), (("java/util/ArrayList", "size", "I"), (.int 0))] ∧ Arv Z h' d k (.object "java/lang/Object") (10 : Int32) [.null, .null, .null, .null, .null, .null, .null, .null, .null, .null] .null ∧ Ovr Z k "java/lang/Object") := by
  refine Met.intro pf_6 hEL hX (allS ⟨g1, O1.lt⟩ all0) ?_
  intro p e s m below meth c T W
  refine Goes.cast (show entryFrame m #[(.ref a1), (.int p2)] 4 = mkF m 0 #[.val (.ref a1), .val (.int p2), .unset, .unset] [] by first | (simp [entryFrame, mkF, argsToLocals, Value.category]; done) | rfl) ?_
  refine g_aload_n W d_jdk_38_method_6_code_0 (pc' := 1) rfl rfl rfl ?_
  refine g_getfield W d_jdk_38_method_6_code_1 (pc' := 4) (host := "") rfl (Or.inl (hw _ (List.mem_of_getElem? (i := 51) rfl))) Via.refl (O1.get 1 rfl) fun T1 W2 => ?_
  refine g_arraylength W2 d_jdk_38_method_6_code_4 (pc' := 5) rfl (Ad.ext W2.ext) ?_
  refine g_istore_n W2 d_jdk_38_method_6_code_5 (pc' := 6) (L' := #[.val (.ref a1), .val (.int p2), .val (.int (0 : Int32)), .unset]) rfl rfl ?_
  refine g_iload_n W2 d_jdk_38_method_6_code_6 (pc' := 7) rfl rfl ?_
  refine g_ifN W2 d_jdk_38_method_6_code_7 (pc' := 10) rfl (Jvm.Free.XT.i0_gt_f (by decide)) ?_
  refine g_aload_n W2 d_jdk_38_method_6_code_10 (pc' := 11) rfl rfl rfl ?_
  refine g_getfield W2 d_jdk_38_method_6_code_11 (pc' := 14) (host := "") rfl (Or.inl (hw _ (List.mem_of_getElem? (i := 51) rfl))) Via.refl (O1.get 1 rfl) fun T3 W4 => ?_
  refine g_getstatic W4 d_jdk_38_method_6_code_14 (pc' := 17) rfl (hw _ (List.mem_of_getElem? (i := 50) rfl)) Via.refl Sd fun T5 W6 => ?_
  refine g_acmpY W6 d_jdk_38_method_6_code_17 (pc' := 45) (by decide) (by decide) rfl rfl (Jvm.Free.XT.aa_eq_t rfl) ?_
  refine g_aload_n W6 d_jdk_38_method_6_code_45 (pc' := 46) rfl rfl rfl ?_
  refine g_bipush W6 d_jdk_38_method_6_code_46 (pc' := 48) (v := (10 : Int32)) rfl (by decide) ?_
  refine g_iload_n W6 d_jdk_38_method_6_code_48 (pc' := 49) rfl rfl ?_
  refine g_static W6 d_jdk_38_method_6_code_49 (pc' := 52) (fr' := []) (argsL := [(.int (10 : Int32)), (.int p2)]) (rest := [(.ref a1)]) (Wd := 1) (kc := 0) (ks := 0) rfl (hw _ (List.mem_of_getElem? (i := 140) rfl)) (hw _ (List.mem_of_getElem? (i := 141) rfl)) (hw _ (List.mem_of_getElem? (i := 142) rfl)) (hw _ (List.mem_of_getElem? (i := 143) rfl)) (by decide) rfl rfl (lenOf pd_2 rfl) rfl all0 (by decide) (by decide) (Met.pays (rm_max hw hEL Sc hzc (10 : Int32) p2 _ W6.ext q2) (hw _ (List.mem_of_getElem? (i := 143) rfl)) (hw _ (List.mem_of_getElem? (i := 142) rfl)) hEL (by decide) (by decide)) fun v12 T7 h9 W8 K10 q11 => ?_
  obtain ⟨rfl, rfl⟩ := q11
  show Goes _ _ _ _ _ _ _ _ _ _ _ T7 (mkF m 52 #[.val (.ref a1), .val (.int p2), .val (.int (0 : Int32)), .unset] [(.int (10 : Int32)), (.ref a1)])
  refine g_anewarray W8 d_jdk_38_method_6_code_52 (pc' := 55) (cap := 10) (ad := "[Ljava/lang/Object;") rfl (hw _ (List.mem_of_getElem? (i := 144) rfl)) (hw _ (List.mem_of_getElem? (i := 145) rfl)) (by decide) (by decide) (by decide) (by decide +kernel) (by decide) (by decide) fun T13 h15 d kA19 g16 W14 E17 A18 X20 Ov21 => ?_
  have A22 : Arv Z h15 d kA19 (.object "java/lang/Object") (10 : Int32) [.null, .null, .null, .null, .null, .null, .null, .null, .null, .null] .null := A18.pad (pad_rep [] .null 10)
  have K24 : Keep h h15 [] := ((Keep.refl h []).ext E17)
  have F25 := O1.mv K24
  have ne23 : d ≠ a1 := (Exa.neArv F25.1 A22 (hw _ (List.mem_of_getElem? (i := 30) rfl))).symm
  refine g_dup_x1 W14 d_jdk_38_method_6_code_55 (pc' := 56) rfl rfl rfl ?_
  refine g_putfield W14 d_jdk_38_method_6_code_56 (pc' := 59) (host := "") (ty := (.array (.object "java/lang/Object"))) rfl (Or.inl (hw _ (List.mem_of_getElem? (i := 51) rfl))) Via.refl (F25.get 1 rfl) F25.1 (Or.inl (hw _ (List.mem_of_getElem? (i := 52) rfl))) (hw _ (List.mem_of_getElem? (i := 30) rfl)) (by decide) rfl rfl (List.mem_of_getElem? (i := 1) rfl) fun T26 h28 W27 R29 => ?_
  have O30 : Obj Z h28 a1 "java/util/ArrayList" [(("java/util/AbstractList", "modCount", "I"), (.int mc)), (("java/util/ArrayList", "elementData", "[Ljava/lang/Object;"), (.ref d)), (("java/util/ArrayList", "size", "I"), (.int 0))] := F25.put R29 1 rfl (dis_AL hw)
  have K31 : Keep h15 h28 [a1] := ((Keep.refl h15 [a1]).wr R29 (Or.inl (List.mem_of_getElem? (i := 0) rfl)))
  have F32 := A22.keep K31 (ninS ne23 nin0)
  have K33 : Keep h h28 [a1] := (((Keep.refl h [a1]).ext E17).wr R29 (Or.inl (List.mem_of_getElem? (i := 0) rfl)))
  exact g_areturn W27 d_jdk_38_method_6_code_59 rfl rfl rfl K33 ⟨_, _, rfl, Nat.le_of_eq g16.symm, O30, F32, Ov21⟩ (by decide) (by decide)
theorem d_jdk_38_method_7_code_0 : decode jdk_38_method_7_code 0 = .ok (.aload_n 0, 1) := by decide +kernel
theorem d_jdk_38_method_7_code_1 : decode jdk_38_method_7_code 1 = .ok (.aload_n 0, 1) := by decide +kernel
theorem d_jdk_38_method_7_code_2 : decode jdk_38_method_7_code 2 = .ok (.getfield 48, 3) := by decide +kernel
theorem d_jdk_38_method_7_code_5 : decode jdk_38_method_7_code 5 = .ok (.iconst 1, 1) := by decide +kernel
theorem d_jdk_38_method_7_code_6 : decode jdk_38_method_7_code 6 = .ok (.iadd, 1) := by decide +kernel
theorem d_jdk_38_method_7_code_7 : decode jdk_38_method_7_code 7 = .ok (.invokevirtual 69, 3) := by decide +kernel
theorem pd_3 : parseMethodDescriptor "(I)[Ljava/lang/Object;" = some ⟨[.int], some (.array (.object "java/lang/Object"))⟩ := by decide +kernel
theorem d_jdk_38_method_7_code_10 : decode jdk_38_method_7_code 10 = .ok (.areturn, 1) := by decide +kernel
theorem pf_7 : plainFor (⟨"java/util/ArrayList", "grow", "()[Ljava/lang/Object;"⟩ : MethodName) = true := by first | (exact plainFor_of_name (by first | (simp [plainName, overriddenIn]; done) | decide +kernel)) | decide +kernel
set_option maxRecDepth 65536 in
set_option maxHeartbeats 40000000 in
theorem rm_grow0 {l : Launch} {Z : State} {a0 : Array Value} (hw : ∀ d ∈ tables_1, d.before a0 Z = true) (hEL : EW Z a0 EL1) {zc : Int32} (Sc : Sta Z Z.heap "java/lang/String" "COMPACT_STRINGS" "Z" (.int zc)) (hzc : ¬ zc = 0) (a1 : Addr) (mc : Int32) {de : Addr} {kd : ClassId} (h : Heap) (hX : Ext Z.heap h) (Sd : Sta Z Z.heap "java/util/ArrayList" "DEFAULTCAPACITY_EMPTY_ELEMENTDATA" "[Ljava/lang/Object;" (.ref de)) (Ad : Arv Z Z.heap de kd (.object "java/lang/Object") (0 : Int32) [] .null) (g1 : Z.heap.size ≤ a1) (O1 : Obj Z h a1 "java/util/ArrayList" [(("java/util/AbstractList", "modCount", "I"), (.int mc)), (("java/util/ArrayList", "elementData", "[Ljava/lang/Object;"), (.ref de)), (("java/util/ArrayList", "size", "I"), (.int 0))]) : Met l Z EL1 NW (⟨"java/util/ArrayList", "grow", "()[Ljava/lang/Object;"⟩ : MethodName) jdk_38_method_7_code 1 (some (.array (.object "java/lang/Object"))) [] ({ frames := 2, cells := 1, slots := 10, locals := 60 } : Room) #[(.ref a1)] h [a1] (fun v h' => ∃ d k, v = some (.ref d) ∧ h.size ≤ d ∧ Obj Z h' a1 "java/util/ArrayList" [(("java/util/AbstractList", "modCount", "I"), (.int mc)), (("java/util/ArrayList", "elementData", "[Ljava/lang/Object;"), (.ref d)), (("java/util/ArrayList", "size", "I"), (.int 0))] ∧ Arv Z h' d k (.object "java/lang/Object") (10 : Int32) [.null, .null, .null, .null, .null, .null, .null, .null, .null, .null] .null ∧ Ovr Z k "java/lang/Object") := by
  refine Met.intro pf_7 hEL hX (allS ⟨g1, O1.lt⟩ all0) ?_
  intro p e s m below meth c T W
  refine Goes.cast (show entryFrame m #[(.ref a1)] 1 = mkF m 0 #[.val (.ref a1)] [] by first | (simp [entryFrame, mkF, argsToLocals, Value.category]; done) | rfl) ?_
  refine g_aload_n W d_jdk_38_method_7_code_0 (pc' := 1) rfl rfl rfl ?_
  refine g_aload_n W d_jdk_38_method_7_code_1 (pc' := 2) rfl rfl rfl ?_
  refine g_getfield W d_jdk_38_method_7_code_2 (pc' := 5) (host := "") rfl (Or.inl (hw _ (List.mem_of_getElem? (i := 96) rfl))) Via.refl (O1.get 2 rfl) fun T1 W2 => ?_
  refine g_iconst W2 d_jdk_38_method_7_code_5 (pc' := 6) (v := (1 : Int32)) rfl rfl ?_
  refine g_iadd W2 d_jdk_38_method_7_code_6 (pc' := 7) rfl ?_
  refine g_private W2 d_jdk_38_method_7_code_7 (pc' := 10) (a := a1) (fr' := [a1]) (argsL := [(.int ((0 : Int32) + (1 : Int32)))]) (rest := []) (Wd := 0) (kc := 1) (ks := 10) rfl (hw _ (List.mem_of_getElem? (i := 135) rfl)) (hw _ (List.mem_of_getElem? (i := 136) rfl)) (hw _ (List.mem_of_getElem? (i := 138) rfl)) (hw _ (List.mem_of_getElem? (i := 137) rfl)) (hw _ (List.mem_of_getElem? (i := 139) rfl)) (by decide) O1.1 rfl rfl (lenOf pd_3 rfl) rfl (allS (List.mem_of_getElem? (i := 0) rfl) (all0)) (by decide) (by decide) (Met.pays (rm_grow1 hw hEL Sc hzc a1 mc ((0 : Int32) + (1 : Int32)) _ W2.ext Sd Ad (by decide) g1 O1) (hw _ (List.mem_of_getElem? (i := 139) rfl)) (hw _ (List.mem_of_getElem? (i := 31) rfl)) hEL (by decide) (by decide)) fun v8 T3 h5 W4 K6 q7 => ?_
  obtain ⟨d, k, rfl, gd, O2, A2, Ov⟩ := q7
  show Goes _ _ _ _ _ _ _ _ _ _ _ T3 (mkF m 10 #[.val (.ref a1)] [(.ref d)])
  have K9 : Keep h h5 [a1] := ((Keep.refl h [a1]).trans K6 fun x q => by cases List.mem_singleton.mp q; exact Or.inl (List.mem_of_getElem? (i := 0) rfl))
  exact g_areturn W4 d_jdk_38_method_7_code_10 rfl rfl rfl K9 ⟨_, _, rfl, gd, O2, A2, Ov⟩ (by decide) (by decide)
theorem d_jdk_38_method_24_code_0 : decode jdk_38_method_24_code 0 = .ok (.iload_n 3, 1) := by decide +kernel
theorem d_jdk_38_method_24_code_1 : decode jdk_38_method_24_code 1 = .ok (.aload_n 2, 1) := by decide +kernel
theorem d_jdk_38_method_24_code_2 : decode jdk_38_method_24_code 2 = .ok (.arraylength, 1) := by decide +kernel
theorem d_jdk_38_method_24_code_3 : decode jdk_38_method_24_code 3 = .ok (.if_icmp .ne 8, 3) := by decide +kernel
theorem d_jdk_38_method_24_code_6 : decode jdk_38_method_24_code 6 = .ok (.aload_n 0, 1) := by decide +kernel
theorem d_jdk_38_method_24_code_7 : decode jdk_38_method_24_code 7 = .ok (.invokevirtual 129, 3) := by decide +kernel
theorem pd_4 : parseMethodDescriptor "()[Ljava/lang/Object;" = some ⟨[], some (.array (.object "java/lang/Object"))⟩ := by decide +kernel
theorem d_jdk_38_method_24_code_10 : decode jdk_38_method_24_code 10 = .ok (.astore_n 2, 1) := by decide +kernel
theorem d_jdk_38_method_24_code_11 : decode jdk_38_method_24_code 11 = .ok (.aload_n 2, 1) := by decide +kernel
theorem d_jdk_38_method_24_code_12 : decode jdk_38_method_24_code 12 = .ok (.iload_n 3, 1) := by decide +kernel
theorem d_jdk_38_method_24_code_13 : decode jdk_38_method_24_code 13 = .ok (.aload_n 1, 1) := by decide +kernel
theorem d_jdk_38_method_24_code_14 : decode jdk_38_method_24_code 14 = .ok (.aastore, 1) := by decide +kernel
theorem d_jdk_38_method_24_code_15 : decode jdk_38_method_24_code 15 = .ok (.aload_n 0, 1) := by decide +kernel
theorem d_jdk_38_method_24_code_16 : decode jdk_38_method_24_code 16 = .ok (.iload_n 3, 1) := by decide +kernel
theorem d_jdk_38_method_24_code_17 : decode jdk_38_method_24_code 17 = .ok (.iconst 1, 1) := by decide +kernel
theorem d_jdk_38_method_24_code_18 : decode jdk_38_method_24_code 18 = .ok (.iadd, 1) := by decide +kernel
theorem d_jdk_38_method_24_code_19 : decode jdk_38_method_24_code 19 = .ok (.putfield 48, 3) := by decide +kernel
theorem d_jdk_38_method_24_code_22 : decode jdk_38_method_24_code 22 = .ok (.return_, 1) := by decide +kernel
theorem pf_8 : plainFor (⟨"java/util/ArrayList", "add", "(Ljava/lang/Object;[Ljava/lang/Object;I)V"⟩ : MethodName) = true := by first | (exact plainFor_of_name (by first | (simp [plainName, overriddenIn]; done) | decide +kernel)) | decide +kernel
set_option maxRecDepth 65536 in
set_option maxHeartbeats 40000000 in
theorem rm_add3f {l : Launch} {Z : State} {a0 : Array Value} (hw : ∀ d ∈ tables_1, d.before a0 Z = true) (hEL : EW Z a0 EL1) {zc : Int32} (Sc : Sta Z Z.heap "java/lang/String" "COMPACT_STRINGS" "Z" (.int zc)) (hzc : ¬ zc = 0) (a1 x : Addr) (mc : Int32) {de : Addr} {kd : ClassId} (h : Heap) (hX : Ext Z.heap h) (Sd : Sta Z Z.heap "java/util/ArrayList" "DEFAULTCAPACITY_EMPTY_ELEMENTDATA" "[Ljava/lang/Object;" (.ref de)) (Ad : Arv Z Z.heap de kd (.object "java/lang/Object") (0 : Int32) [] .null) (g1 : Z.heap.size ≤ a1) (I1 : Ins Z h x "java/lang/Object" true) (O1 : Obj Z h a1 "java/util/ArrayList" [(("java/util/AbstractList", "modCount", "I"), (.int mc)), (("java/util/ArrayList", "elementData", "[Ljava/lang/Object;"), (.ref de)), (("java/util/ArrayList", "size", "I"), (.int 0))]) : Met l Z EL1 NW (⟨"java/util/ArrayList", "add", "(Ljava/lang/Object;[Ljava/lang/Object;I)V"⟩ : MethodName) jdk_38_method_24_code 4 none [] ({ frames := 3, cells := 1, slots := 10, locals := 80 } : Room) #[(.ref a1), (.ref x), (.ref de), (.int (0 : Int32))] h [a1] (fun v h' => v = none ∧ ∃ d k, h.size ≤ d ∧ Obj Z h' a1 "java/util/ArrayList" [(("java/util/AbstractList", "modCount", "I"), (.int mc)), (("java/util/ArrayList", "elementData", "[Ljava/lang/Object;"), (.ref d)), (("java/util/ArrayList", "size", "I"), (.int (1 : Int32)))] ∧ Arv Z h' d k (.object "java/lang/Object") (10 : Int32) [.ref x, .null, .null, .null, .null, .null, .null, .null, .null, .null] .null ∧ Ovr Z k "java/lang/Object") := by
  refine Met.intro pf_8 hEL hX (allS ⟨g1, O1.lt⟩ all0) ?_
  intro p e s m below meth c T W
  refine Goes.cast (show entryFrame m #[(.ref a1), (.ref x), (.ref de), (.int (0 : Int32))] 4 = mkF m 0 #[.val (.ref a1), .val (.ref x), .val (.ref de), .val (.int (0 : Int32))] [] by first | (simp [entryFrame, mkF, argsToLocals, Value.category]; done) | rfl) ?_
  refine g_iload_n W d_jdk_38_method_24_code_0 (pc' := 1) rfl rfl ?_
  refine g_aload_n W d_jdk_38_method_24_code_1 (pc' := 2) rfl rfl rfl ?_
  refine g_arraylength W d_jdk_38_method_24_code_2 (pc' := 3) rfl (Ad.ext W.ext) ?_
  refine g_icmpN W d_jdk_38_method_24_code_3 (pc' := 6) rfl (Jvm.Free.XT.ii_ne_f rfl) ?_
  refine g_aload_n W d_jdk_38_method_24_code_6 (pc' := 7) rfl rfl rfl ?_
  refine g_private W d_jdk_38_method_24_code_7 (pc' := 10) (a := a1) (fr' := [a1]) (argsL := []) (rest := []) (Wd := 0) (kc := 1) (ks := 10) rfl (hw _ (List.mem_of_getElem? (i := 130) rfl)) (hw _ (List.mem_of_getElem? (i := 131) rfl)) (hw _ (List.mem_of_getElem? (i := 133) rfl)) (hw _ (List.mem_of_getElem? (i := 132) rfl)) (hw _ (List.mem_of_getElem? (i := 134) rfl)) (by decide) O1.1 rfl rfl (lenOf pd_4 rfl) rfl (allS (List.mem_of_getElem? (i := 0) rfl) (all0)) (by decide) (by decide) (Met.pays (rm_grow0 hw hEL Sc hzc a1 mc _ W.ext Sd Ad g1 O1) (hw _ (List.mem_of_getElem? (i := 134) rfl)) (hw _ (List.mem_of_getElem? (i := 31) rfl)) hEL (by decide) (by decide)) fun v6 T1 h3 W2 K4 q5 => ?_
  obtain ⟨d, k, rfl, gd, O2, A2, Ov⟩ := q5
  show Goes _ _ _ _ _ _ _ _ _ _ _ T1 (mkF m 10 #[.val (.ref a1), .val (.ref x), .val (.ref de), .val (.int (0 : Int32))] [(.ref d)])
  have W7 := W2.addArv A2 (by decide) (Nat.le_trans hX.1 gd)
  have ne8 : d ≠ a1 := (Exa.neArv O2.1 A2 (hw _ (List.mem_of_getElem? (i := 30) rfl))).symm
  refine g_astore_n W7 d_jdk_38_method_24_code_10 (pc' := 11) (L' := #[.val (.ref a1), .val (.ref x), .val (.ref d), .val (.int (0 : Int32))]) rfl rfl rfl ?_
  refine g_aload_n W7 d_jdk_38_method_24_code_11 (pc' := 12) rfl rfl rfl ?_
  refine g_iload_n W7 d_jdk_38_method_24_code_12 (pc' := 13) rfl rfl ?_
  refine g_aload_n W7 d_jdk_38_method_24_code_13 (pc' := 14) rfl rfl rfl ?_
  refine g_aastore W7 d_jdk_38_method_24_code_14 (pc' := 15) (i := 0) rfl A2 Ov (I1.keepK K4) ⟨by decide, by decide⟩ (by decide) (Nat.le_of_ble_eq_true rfl) (List.mem_of_getElem? (i := 0) rfl) fun T9 h11 W10 R12 A13 => ?_
  have A14 : Arv Z h11 d k (.object "java/lang/Object") (10 : Int32) [.ref x, .null, .null, .null, .null, .null, .null, .null, .null, .null] .null := A13
  refine g_aload_n W10 d_jdk_38_method_24_code_15 (pc' := 16) rfl rfl rfl ?_
  refine g_iload_n W10 d_jdk_38_method_24_code_16 (pc' := 17) rfl rfl ?_
  refine g_iconst W10 d_jdk_38_method_24_code_17 (pc' := 18) (v := (1 : Int32)) rfl rfl ?_
  refine g_iadd W10 d_jdk_38_method_24_code_18 (pc' := 19) rfl ?_
  have K20 : Keep h3 h11 [d] := ((Keep.refl h3 [d]).wr R12 (Or.inl (List.mem_of_getElem? (i := 0) rfl)))
  have F21 := O2.keep K20 (ninS (Ne.symm ne8) nin0)
  refine g_putfield W10 d_jdk_38_method_24_code_19 (pc' := 22) (host := "") (ty := .int) rfl (Or.inl (hw _ (List.mem_of_getElem? (i := 96) rfl))) Via.refl (F21.get 2 rfl) F21.1 (Or.inl (hw _ (List.mem_of_getElem? (i := 97) rfl))) (hw _ (List.mem_of_getElem? (i := 30) rfl)) (by decide) rfl rfl (List.mem_of_getElem? (i := 1) rfl) fun T15 h17 W16 R18 => ?_
  have O19 : Obj Z h17 a1 "java/util/ArrayList" [(("java/util/AbstractList", "modCount", "I"), (.int mc)), (("java/util/ArrayList", "elementData", "[Ljava/lang/Object;"), (.ref d)), (("java/util/ArrayList", "size", "I"), (.int ((0 : Int32) + (1 : Int32))))] := F21.put R18 2 rfl (dis_AL hw)
  have K22 : Keep h11 h17 [a1] := ((Keep.refl h11 [a1]).wr R18 (Or.inl (List.mem_of_getElem? (i := 0) rfl)))
  have F23 := A14.keep K22 (ninS ne8 nin0)
  have K24 : Keep h h17 [a1] := ((((Keep.refl h [a1]).trans K4 fun x q => by cases List.mem_singleton.mp q; exact Or.inl (List.mem_of_getElem? (i := 0) rfl)).wr R12 (Or.inr gd)).wr R18 (Or.inl (List.mem_of_getElem? (i := 0) rfl)))
  exact g_return W16 d_jdk_38_method_24_code_22 K24 ⟨rfl, _, _, gd, O19, F23, Ov⟩ (by decide) (by decide)
theorem d_jdk_38_method_25_code_0 : decode jdk_38_method_25_code 0 = .ok (.aload_n 0, 1) := by decide +kernel
theorem d_jdk_38_method_25_code_1 : decode jdk_38_method_25_code 1 = .ok (.dup, 1) := by decide +kernel
theorem d_jdk_38_method_25_code_2 : decode jdk_38_method_25_code 2 = .ok (.getfield 63, 3) := by decide +kernel
theorem d_jdk_38_method_25_code_5 : decode jdk_38_method_25_code 5 = .ok (.iconst 1, 1) := by decide +kernel
theorem d_jdk_38_method_25_code_6 : decode jdk_38_method_25_code 6 = .ok (.iadd, 1) := by decide +kernel
theorem d_jdk_38_method_25_code_7 : decode jdk_38_method_25_code 7 = .ok (.putfield 63, 3) := by decide +kernel
theorem d_jdk_38_method_25_code_10 : decode jdk_38_method_25_code 10 = .ok (.aload_n 0, 1) := by decide +kernel
theorem d_jdk_38_method_25_code_11 : decode jdk_38_method_25_code 11 = .ok (.aload_n 1, 1) := by decide +kernel
theorem d_jdk_38_method_25_code_12 : decode jdk_38_method_25_code 12 = .ok (.aload_n 0, 1) := by decide +kernel
theorem d_jdk_38_method_25_code_13 : decode jdk_38_method_25_code 13 = .ok (.getfield 9, 3) := by decide +kernel
theorem d_jdk_38_method_25_code_16 : decode jdk_38_method_25_code 16 = .ok (.aload_n 0, 1) := by decide +kernel
theorem d_jdk_38_method_25_code_17 : decode jdk_38_method_25_code 17 = .ok (.getfield 48, 3) := by decide +kernel
theorem d_jdk_38_method_25_code_20 : decode jdk_38_method_25_code 20 = .ok (.invokevirtual 131, 3) := by decide +kernel
theorem pd_5 : parseMethodDescriptor "(Ljava/lang/Object;[Ljava/lang/Object;I)V" = some ⟨[(.object "java/lang/Object"), (.array (.object "java/lang/Object")), .int], none⟩ := by decide +kernel
theorem d_jdk_38_method_25_code_23 : decode jdk_38_method_25_code 23 = .ok (.iconst 1, 1) := by decide +kernel
theorem d_jdk_38_method_25_code_24 : decode jdk_38_method_25_code 24 = .ok (.ireturn, 1) := by decide +kernel
theorem pf_9 : plainFor (⟨"java/util/ArrayList", "add", "(Ljava/lang/Object;)Z"⟩ : MethodName) = true := by first | (exact plainFor_of_name (by first | (simp [plainName, overriddenIn]; done) | decide +kernel)) | decide +kernel
set_option maxRecDepth 65536 in
set_option maxHeartbeats 40000000 in
theorem rm_addf {l : Launch} {Z : State} {a0 : Array Value} (hw : ∀ d ∈ tables_1, d.before a0 Z = true) (hEL : EW Z a0 EL1) {zc : Int32} (Sc : Sta Z Z.heap "java/lang/String" "COMPACT_STRINGS" "Z" (.int zc)) (hzc : ¬ zc = 0) (a1 x : Addr) {de : Addr} {kd : ClassId} (h : Heap) (hX : Ext Z.heap h) (Sd : Sta Z Z.heap "java/util/ArrayList" "DEFAULTCAPACITY_EMPTY_ELEMENTDATA" "[Ljava/lang/Object;" (.ref de)) (Ad : Arv Z Z.heap de kd (.object "java/lang/Object") (0 : Int32) [] .null) (g1 : Z.heap.size ≤ a1) (I1 : Ins Z h x "java/lang/Object" true) (O1 : Obj Z h a1 "java/util/ArrayList" [(("java/util/AbstractList", "modCount", "I"), (.int 0)), (("java/util/ArrayList", "elementData", "[Ljava/lang/Object;"), (.ref de)), (("java/util/ArrayList", "size", "I"), (.int 0))]) : Met l Z EL1 NW (⟨"java/util/ArrayList", "add", "(Ljava/lang/Object;)Z"⟩ : MethodName) jdk_38_method_25_code 2 (some .boolean) [] ({ frames := 4, cells := 1, slots := 10, locals := 110 } : Room) #[(.ref a1), (.ref x)] h [a1] (fun v h' => v = some (.int 1) ∧ ∃ d k, h.size ≤ d ∧ Obj Z h' a1 "java/util/ArrayList" [(("java/util/AbstractList", "modCount", "I"), (.int (1 : Int32))), (("java/util/ArrayList", "elementData", "[Ljava/lang/Object;"), (.ref d)), (("java/util/ArrayList", "size", "I"), (.int (1 : Int32)))] ∧ Arv Z h' d k (.object "java/lang/Object") (10 : Int32) [.ref x, .null, .null, .null, .null, .null, .null, .null, .null, .null] .null ∧ Ovr Z k "java/lang/Object") := by
  refine Met.intro pf_9 hEL hX (allS ⟨g1, O1.lt⟩ all0) ?_
  intro p e s m below meth c T W
  refine Goes.cast (show entryFrame m #[(.ref a1), (.ref x)] 2 = mkF m 0 #[.val (.ref a1), .val (.ref x)] [] by first | (simp [entryFrame, mkF, argsToLocals, Value.category]; done) | rfl) ?_
  refine g_aload_n W d_jdk_38_method_25_code_0 (pc' := 1) rfl rfl rfl ?_
  refine g_dup W d_jdk_38_method_25_code_1 (pc' := 2) rfl rfl ?_
  refine g_getfield W d_jdk_38_method_25_code_2 (pc' := 5) (host := "") rfl (Or.inl (hw _ (List.mem_of_getElem? (i := 123) rfl))) (Via.of (hw _ (List.mem_of_getElem? (i := 124) rfl))) (O1.get 0 rfl) fun T1 W2 => ?_
  refine g_iconst W2 d_jdk_38_method_25_code_5 (pc' := 6) (v := (1 : Int32)) rfl rfl ?_
  refine g_iadd W2 d_jdk_38_method_25_code_6 (pc' := 7) rfl ?_
  refine g_putfield W2 d_jdk_38_method_25_code_7 (pc' := 10) (host := "") (ty := .int) rfl (Or.inl (hw _ (List.mem_of_getElem? (i := 123) rfl))) (Via.of (hw _ (List.mem_of_getElem? (i := 124) rfl))) (O1.get 0 rfl) O1.1 (Or.inl (hw _ (List.mem_of_getElem? (i := 49) rfl))) (hw _ (List.mem_of_getElem? (i := 30) rfl)) (by decide) rfl rfl (List.mem_of_getElem? (i := 0) rfl) fun T3 h5 W4 R6 => ?_
  have O7 : Obj Z h5 a1 "java/util/ArrayList" [(("java/util/AbstractList", "modCount", "I"), (.int (1 : Int32))), (("java/util/ArrayList", "elementData", "[Ljava/lang/Object;"), (.ref de)), (("java/util/ArrayList", "size", "I"), (.int 0))] := O1.put R6 0 rfl (dis_AL hw)
  refine g_aload_n W4 d_jdk_38_method_25_code_10 (pc' := 11) rfl rfl rfl ?_
  refine g_aload_n W4 d_jdk_38_method_25_code_11 (pc' := 12) rfl rfl rfl ?_
  refine g_aload_n W4 d_jdk_38_method_25_code_12 (pc' := 13) rfl rfl rfl ?_
  refine g_getfield W4 d_jdk_38_method_25_code_13 (pc' := 16) (host := "") rfl (Or.inl (hw _ (List.mem_of_getElem? (i := 51) rfl))) Via.refl (O7.get 1 rfl) fun T8 W9 => ?_
  refine g_aload_n W9 d_jdk_38_method_25_code_16 (pc' := 17) rfl rfl rfl ?_
  refine g_getfield W9 d_jdk_38_method_25_code_17 (pc' := 20) (host := "") rfl (Or.inl (hw _ (List.mem_of_getElem? (i := 96) rfl))) Via.refl (O7.get 2 rfl) fun T10 W11 => ?_
  refine g_private W11 d_jdk_38_method_25_code_20 (pc' := 23) (a := a1) (fr' := [a1]) (argsL := [(.ref x), (.ref de), (.int (0 : Int32))]) (rest := []) (Wd := 0) (kc := 1) (ks := 10) rfl (hw _ (List.mem_of_getElem? (i := 125) rfl)) (hw _ (List.mem_of_getElem? (i := 126) rfl)) (hw _ (List.mem_of_getElem? (i := 128) rfl)) (hw _ (List.mem_of_getElem? (i := 127) rfl)) (hw _ (List.mem_of_getElem? (i := 129) rfl)) (by decide) O7.1 rfl rfl (lenOf pd_5 rfl) rfl (allS (List.mem_of_getElem? (i := 0) rfl) (all0)) (by decide) (by decide) (Met.pays (rm_add3f hw hEL Sc hzc a1 x (1 : Int32) _ W11.ext Sd Ad g1 (I1.keepK (Keep.of_wr R6)) O7) (hw _ (List.mem_of_getElem? (i := 129) rfl)) (hw _ (List.mem_of_getElem? (i := 31) rfl)) hEL (by decide) (by decide)) fun v17 T12 h14 W13 K15 q16 => ?_
  have K18 : Keep h h5 [a1] := ((Keep.refl h [a1]).wr R6 (Or.inl (List.mem_of_getElem? (i := 0) rfl)))
  obtain ⟨rfl, d, k, gd, O2, A2, Ov⟩ := q16
  show Goes _ _ _ _ _ _ _ _ _ _ _ T12 (mkF m 23 #[.val (.ref a1), .val (.ref x)] [])
  refine g_iconst W13 d_jdk_38_method_25_code_23 (pc' := 24) (v := (1 : Int32)) rfl rfl ?_
  have K19 : Keep h h14 [a1] := (((Keep.refl h [a1]).wr R6 (Or.inl (List.mem_of_getElem? (i := 0) rfl))).trans K15 fun x q => by cases List.mem_singleton.mp q; exact Or.inl (List.mem_of_getElem? (i := 0) rfl))
  exact g_ireturn W13 d_jdk_38_method_25_code_24 (by decide) rfl K19 ⟨rfl, _, _, Nat.le_trans K18.1 gd, O2, A2, Ov⟩ (by decide) (by decide)
set_option maxRecDepth 65536 in
set_option maxHeartbeats 40000000 in
theorem rm_add3_1 {l : Launch} {Z : State} {a0 : Array Value} (hw : ∀ d ∈ tables_1, d.before a0 Z = true) (hEL : EW Z a0 EL1) {zc : Int32} (Sc : Sta Z Z.heap "java/lang/String" "COMPACT_STRINGS" "Z" (.int zc)) (hzc : ¬ zc = 0) (a1 x d : Addr) (k : ClassId) (mc : Int32) (u0 : Value) (h : Heap) (hX : Ext Z.heap h) (g1 : Z.heap.size ≤ a1) (gd : Z.heap.size ≤ d) (I1 : Ins Z h x "java/lang/Object" true) (O1 : Obj Z h a1 "java/util/ArrayList" [(("java/util/AbstractList", "modCount", "I"), (.int mc)), (("java/util/ArrayList", "elementData", "[Ljava/lang/Object;"), (.ref d)), (("java/util/ArrayList", "size", "I"), (.int (1 : Int32)))]) (A1 : Arv Z h d k (.object "java/lang/Object") (10 : Int32) [u0, .null, .null, .null, .null, .null, .null, .null, .null, .null] .null) (Ov : Ovr Z k "java/lang/Object") : Met l Z EL1 NW (⟨"java/util/ArrayList", "add", "(Ljava/lang/Object;[Ljava/lang/Object;I)V"⟩ : MethodName) jdk_38_method_24_code 4 none [] ({ frames := 0, cells := 0, slots := 0, locals := 0 } : Room) #[(.ref a1), (.ref x), (.ref d), (.int (1 : Int32))] h [a1, d] (fun v h' => v = none ∧ Obj Z h' a1 "java/util/ArrayList" [(("java/util/AbstractList", "modCount", "I"), (.int mc)), (("java/util/ArrayList", "elementData", "[Ljava/lang/Object;"), (.ref d)), (("java/util/ArrayList", "size", "I"), (.int (2 : Int32)))] ∧ Arv Z h' d k (.object "java/lang/Object") (10 : Int32) [u0, .ref x, .null, .null, .null, .null, .null, .null, .null, .null] .null) := by
  refine Met.intro pf_8 hEL hX (allS ⟨g1, O1.lt⟩ (allS ⟨gd, A1.lt⟩ all0)) ?_
  intro p e s m below meth c T W
  refine Goes.cast (show entryFrame m #[(.ref a1), (.ref x), (.ref d), (.int (1 : Int32))] 4 = mkF m 0 #[.val (.ref a1), .val (.ref x), .val (.ref d), .val (.int (1 : Int32))] [] by first | (simp [entryFrame, mkF, argsToLocals, Value.category]; done) | rfl) ?_
  have ne1 : d ≠ a1 := (Exa.neArv O1.1 A1 (hw _ (List.mem_of_getElem? (i := 30) rfl))).symm
  refine g_iload_n W d_jdk_38_method_24_code_0 (pc' := 1) rfl rfl ?_
  refine g_aload_n W d_jdk_38_method_24_code_1 (pc' := 2) rfl rfl rfl ?_
  refine g_arraylength W d_jdk_38_method_24_code_2 (pc' := 3) rfl A1 ?_
  refine g_icmpY W d_jdk_38_method_24_code_3 (pc' := 11) (by decide) (by decide) (Jvm.Free.XT.ii_ne_t (by decide)) ?_
  refine g_aload_n W d_jdk_38_method_24_code_11 (pc' := 12) rfl rfl rfl ?_
  refine g_iload_n W d_jdk_38_method_24_code_12 (pc' := 13) rfl rfl ?_
  refine g_aload_n W d_jdk_38_method_24_code_13 (pc' := 14) rfl rfl rfl ?_
  refine g_aastore W d_jdk_38_method_24_code_14 (pc' := 15) (i := 1) rfl A1 Ov I1 ⟨by decide, by decide⟩ (by decide) (Nat.le_of_ble_eq_true rfl) (List.mem_of_getElem? (i := 1) rfl) fun T2 h4 W3 R5 A6 => ?_
  have A7 : Arv Z h4 d k (.object "java/lang/Object") (10 : Int32) [u0, .ref x, .null, .null, .null, .null, .null, .null, .null, .null] .null := A6
  refine g_aload_n W3 d_jdk_38_method_24_code_15 (pc' := 16) rfl rfl rfl ?_
  refine g_iload_n W3 d_jdk_38_method_24_code_16 (pc' := 17) rfl rfl ?_
  refine g_iconst W3 d_jdk_38_method_24_code_17 (pc' := 18) (v := (1 : Int32)) rfl rfl ?_
  refine g_iadd W3 d_jdk_38_method_24_code_18 (pc' := 19) rfl ?_
  have K13 : Keep h h4 [d] := ((Keep.refl h [d]).wr R5 (Or.inl (List.mem_of_getElem? (i := 0) rfl)))
  have F14 := O1.keep K13 (ninS (Ne.symm ne1) nin0)
  refine g_putfield W3 d_jdk_38_method_24_code_19 (pc' := 22) (host := "") (ty := .int) rfl (Or.inl (hw _ (List.mem_of_getElem? (i := 96) rfl))) Via.refl (F14.get 2 rfl) F14.1 (Or.inl (hw _ (List.mem_of_getElem? (i := 97) rfl))) (hw _ (List.mem_of_getElem? (i := 30) rfl)) (by decide) rfl rfl (List.mem_of_getElem? (i := 0) rfl) fun T8 h10 W9 R11 => ?_
  have O12 : Obj Z h10 a1 "java/util/ArrayList" [(("java/util/AbstractList", "modCount", "I"), (.int mc)), (("java/util/ArrayList", "elementData", "[Ljava/lang/Object;"), (.ref d)), (("java/util/ArrayList", "size", "I"), (.int ((1 : Int32) + (1 : Int32))))] := F14.put R11 2 rfl (dis_AL hw)
  have K15 : Keep h4 h10 [a1] := ((Keep.refl h4 [a1]).wr R11 (Or.inl (List.mem_of_getElem? (i := 0) rfl)))
  have F16 := A7.keep K15 (ninS ne1 nin0)
  have K17 : Keep h h10 [a1, d] := (((Keep.refl h [a1, d]).wr R5 (Or.inl (List.mem_of_getElem? (i := 1) rfl))).wr R11 (Or.inl (List.mem_of_getElem? (i := 0) rfl)))
  exact g_return W9 d_jdk_38_method_24_code_22 K17 ⟨rfl, O12, F16⟩ (by decide) (by decide)
set_option maxRecDepth 65536 in
set_option maxHeartbeats 40000000 in
theorem rm_add_1 {l : Launch} {Z : State} {a0 : Array Value} (hw : ∀ d ∈ tables_1, d.before a0 Z = true) (hEL : EW Z a0 EL1) {zc : Int32} (Sc : Sta Z Z.heap "java/lang/String" "COMPACT_STRINGS" "Z" (.int zc)) (hzc : ¬ zc = 0) (a1 x d : Addr) (k : ClassId) (u0 : Value) (h : Heap) (hX : Ext Z.heap h) (g1 : Z.heap.size ≤ a1) (gd : Z.heap.size ≤ d) (I1 : Ins Z h x "java/lang/Object" true) (O1 : Obj Z h a1 "java/util/ArrayList" [(("java/util/AbstractList", "modCount", "I"), (.int (1 : Int32))), (("java/util/ArrayList", "elementData", "[Ljava/lang/Object;"), (.ref d)), (("java/util/ArrayList", "size", "I"), (.int (1 : Int32)))]) (A1 : Arv Z h d k (.object "java/lang/Object") (10 : Int32) [u0, .null, .null, .null, .null, .null, .null, .null, .null, .null] .null) (Ov : Ovr Z k "java/lang/Object") : Met l Z EL1 NW (⟨"java/util/ArrayList", "add", "(Ljava/lang/Object;)Z"⟩ : MethodName) jdk_38_method_25_code 2 (some .boolean) [] ({ frames := 1, cells := 0, slots := 0, locals := 40 } : Room) #[(.ref a1), (.ref x)] h [a1, d] (fun v h' => v = some (.int 1) ∧ Obj Z h' a1 "java/util/ArrayList" [(("java/util/AbstractList", "modCount", "I"), (.int (2 : Int32))), (("java/util/ArrayList", "elementData", "[Ljava/lang/Object;"), (.ref d)), (("java/util/ArrayList", "size", "I"), (.int (2 : Int32)))] ∧ Arv Z h' d k (.object "java/lang/Object") (10 : Int32) [u0, .ref x, .null, .null, .null, .null, .null, .null, .null, .null] .null) := by
  refine Met.intro pf_9 hEL hX (allS ⟨g1, O1.lt⟩ (allS ⟨gd, A1.lt⟩ all0)) ?_
  intro p e s m below meth c T W
  refine Goes.cast (show entryFrame m #[(.ref a1), (.ref x)] 2 = mkF m 0 #[.val (.ref a1), .val (.ref x)] [] by first | (simp [entryFrame, mkF, argsToLocals, Value.category]; done) | rfl) ?_
  have ne1 : d ≠ a1 := (Exa.neArv O1.1 A1 (hw _ (List.mem_of_getElem? (i := 30) rfl))).symm
  refine g_aload_n W d_jdk_38_method_25_code_0 (pc' := 1) rfl rfl rfl ?_
  refine g_dup W d_jdk_38_method_25_code_1 (pc' := 2) rfl rfl ?_
  refine g_getfield W d_jdk_38_method_25_code_2 (pc' := 5) (host := "") rfl (Or.inl (hw _ (List.mem_of_getElem? (i := 123) rfl))) (Via.of (hw _ (List.mem_of_getElem? (i := 124) rfl))) (O1.get 0 rfl) fun T2 W3 => ?_
  refine g_iconst W3 d_jdk_38_method_25_code_5 (pc' := 6) (v := (1 : Int32)) rfl rfl ?_
  refine g_iadd W3 d_jdk_38_method_25_code_6 (pc' := 7) rfl ?_
  refine g_putfield W3 d_jdk_38_method_25_code_7 (pc' := 10) (host := "") (ty := .int) rfl (Or.inl (hw _ (List.mem_of_getElem? (i := 123) rfl))) (Via.of (hw _ (List.mem_of_getElem? (i := 124) rfl))) (O1.get 0 rfl) O1.1 (Or.inl (hw _ (List.mem_of_getElem? (i := 49) rfl))) (hw _ (List.mem_of_getElem? (i := 30) rfl)) (by decide) rfl rfl (List.mem_of_getElem? (i := 0) rfl) fun T4 h6 W5 R7 => ?_
  have O8 : Obj Z h6 a1 "java/util/ArrayList" [(("java/util/AbstractList", "modCount", "I"), (.int (2 : Int32))), (("java/util/ArrayList", "elementData", "[Ljava/lang/Object;"), (.ref d)), (("java/util/ArrayList", "size", "I"), (.int (1 : Int32)))] := O1.put R7 0 rfl (dis_AL hw)
  refine g_aload_n W5 d_jdk_38_method_25_code_10 (pc' := 11) rfl rfl rfl ?_
  refine g_aload_n W5 d_jdk_38_method_25_code_11 (pc' := 12) rfl rfl rfl ?_
  refine g_aload_n W5 d_jdk_38_method_25_code_12 (pc' := 13) rfl rfl rfl ?_
  refine g_getfield W5 d_jdk_38_method_25_code_13 (pc' := 16) (host := "") rfl (Or.inl (hw _ (List.mem_of_getElem? (i := 51) rfl))) Via.refl (O8.get 1 rfl) fun T9 W10 => ?_
  refine g_aload_n W10 d_jdk_38_method_25_code_16 (pc' := 17) rfl rfl rfl ?_
  refine g_getfield W10 d_jdk_38_method_25_code_17 (pc' := 20) (host := "") rfl (Or.inl (hw _ (List.mem_of_getElem? (i := 96) rfl))) Via.refl (O8.get 2 rfl) fun T11 W12 => ?_
  have K19 : Keep h h6 [a1] := ((Keep.refl h [a1]).wr R7 (Or.inl (List.mem_of_getElem? (i := 0) rfl)))
  have F20 := A1.keep K19 (ninS ne1 nin0)
  refine g_private W12 d_jdk_38_method_25_code_20 (pc' := 23) (a := a1) (fr' := [a1, d]) (argsL := [(.ref x), (.ref d), (.int (1 : Int32))]) (rest := []) (Wd := 0) (kc := 0) (ks := 0) rfl (hw _ (List.mem_of_getElem? (i := 125) rfl)) (hw _ (List.mem_of_getElem? (i := 126) rfl)) (hw _ (List.mem_of_getElem? (i := 128) rfl)) (hw _ (List.mem_of_getElem? (i := 127) rfl)) (hw _ (List.mem_of_getElem? (i := 129) rfl)) (by decide) O8.1 rfl rfl (lenOf pd_5 rfl) rfl (allS (List.mem_of_getElem? (i := 0) rfl) (allS (List.mem_of_getElem? (i := 1) rfl) (all0))) (by decide) (by decide) (Met.pays (rm_add3_1 hw hEL Sc hzc a1 x d k (2 : Int32) u0 _ W12.ext g1 gd (I1.keepK (Keep.of_wr R7)) O8 F20 Ov) (hw _ (List.mem_of_getElem? (i := 129) rfl)) (hw _ (List.mem_of_getElem? (i := 31) rfl)) hEL (by decide) (by decide)) fun v18 T13 h15 W14 K16 q17 => ?_
  obtain ⟨rfl, O2, A2⟩ := q17
  show Goes _ _ _ _ _ _ _ _ _ _ _ T13 (mkF m 23 #[.val (.ref a1), .val (.ref x)] [])
  refine g_iconst W14 d_jdk_38_method_25_code_23 (pc' := 24) (v := (1 : Int32)) rfl rfl ?_
  have K21 : Keep h h15 [a1, d] := (((Keep.refl h [a1, d]).wr R7 (Or.inl (List.mem_of_getElem? (i := 0) rfl))).trans K16 (allS (Or.inl (List.mem_of_getElem? (i := 0) rfl)) (allS (Or.inl (List.mem_of_getElem? (i := 1) rfl)) (all0))))
  exact g_ireturn W14 d_jdk_38_method_25_code_24 (by decide) rfl K21 ⟨rfl, O2, A2⟩ (by decide) (by decide)
set_option maxRecDepth 65536 in
set_option maxHeartbeats 40000000 in
theorem rm_add3_2 {l : Launch} {Z : State} {a0 : Array Value} (hw : ∀ d ∈ tables_1, d.before a0 Z = true) (hEL : EW Z a0 EL1) {zc : Int32} (Sc : Sta Z Z.heap "java/lang/String" "COMPACT_STRINGS" "Z" (.int zc)) (hzc : ¬ zc = 0) (a1 x d : Addr) (k : ClassId) (mc : Int32) (u0 : Value) (u1 : Value) (h : Heap) (hX : Ext Z.heap h) (g1 : Z.heap.size ≤ a1) (gd : Z.heap.size ≤ d) (I1 : Ins Z h x "java/lang/Object" true) (O1 : Obj Z h a1 "java/util/ArrayList" [(("java/util/AbstractList", "modCount", "I"), (.int mc)), (("java/util/ArrayList", "elementData", "[Ljava/lang/Object;"), (.ref d)), (("java/util/ArrayList", "size", "I"), (.int (2 : Int32)))]) (A1 : Arv Z h d k (.object "java/lang/Object") (10 : Int32) [u0, u1, .null, .null, .null, .null, .null, .null, .null, .null] .null) (Ov : Ovr Z k "java/lang/Object") : Met l Z EL1 NW (⟨"java/util/ArrayList", "add", "(Ljava/lang/Object;[Ljava/lang/Object;I)V"⟩ : MethodName) jdk_38_method_24_code 4 none [] ({ frames := 0, cells := 0, slots := 0, locals := 0 } : Room) #[(.ref a1), (.ref x), (.ref d), (.int (2 : Int32))] h [a1, d] (fun v h' => v = none ∧ Obj Z h' a1 "java/util/ArrayList" [(("java/util/AbstractList", "modCount", "I"), (.int mc)), (("java/util/ArrayList", "elementData", "[Ljava/lang/Object;"), (.ref d)), (("java/util/ArrayList", "size", "I"), (.int (3 : Int32)))] ∧ Arv Z h' d k (.object "java/lang/Object") (10 : Int32) [u0, u1, .ref x, .null, .null, .null, .null, .null, .null, .null] .null) := by
  refine Met.intro pf_8 hEL hX (allS ⟨g1, O1.lt⟩ (allS ⟨gd, A1.lt⟩ all0)) ?_
  intro p e s m below meth c T W
  refine Goes.cast (show entryFrame m #[(.ref a1), (.ref x), (.ref d), (.int (2 : Int32))] 4 = mkF m 0 #[.val (.ref a1), .val (.ref x), .val (.ref d), .val (.int (2 : Int32))] [] by first | (simp [entryFrame, mkF, argsToLocals, Value.category]; done) | rfl) ?_
  have ne1 : d ≠ a1 := (Exa.neArv O1.1 A1 (hw _ (List.mem_of_getElem? (i := 30) rfl))).symm
  refine g_iload_n W d_jdk_38_method_24_code_0 (pc' := 1) rfl rfl ?_
  refine g_aload_n W d_jdk_38_method_24_code_1 (pc' := 2) rfl rfl rfl ?_
  refine g_arraylength W d_jdk_38_method_24_code_2 (pc' := 3) rfl A1 ?_
  refine g_icmpY W d_jdk_38_method_24_code_3 (pc' := 11) (by decide) (by decide) (Jvm.Free.XT.ii_ne_t (by decide)) ?_
  refine g_aload_n W d_jdk_38_method_24_code_11 (pc' := 12) rfl rfl rfl ?_
  refine g_iload_n W d_jdk_38_method_24_code_12 (pc' := 13) rfl rfl ?_
  refine g_aload_n W d_jdk_38_method_24_code_13 (pc' := 14) rfl rfl rfl ?_
  refine g_aastore W d_jdk_38_method_24_code_14 (pc' := 15) (i := 2) rfl A1 Ov I1 ⟨by decide, by decide⟩ (by decide) (Nat.le_of_ble_eq_true rfl) (List.mem_of_getElem? (i := 1) rfl) fun T2 h4 W3 R5 A6 => ?_
  have A7 : Arv Z h4 d k (.object "java/lang/Object") (10 : Int32) [u0, u1, .ref x, .null, .null, .null, .null, .null, .null, .null] .null := A6
  refine g_aload_n W3 d_jdk_38_method_24_code_15 (pc' := 16) rfl rfl rfl ?_
  refine g_iload_n W3 d_jdk_38_method_24_code_16 (pc' := 17) rfl rfl ?_
  refine g_iconst W3 d_jdk_38_method_24_code_17 (pc' := 18) (v := (1 : Int32)) rfl rfl ?_
  refine g_iadd W3 d_jdk_38_method_24_code_18 (pc' := 19) rfl ?_
  have K13 : Keep h h4 [d] := ((Keep.refl h [d]).wr R5 (Or.inl (List.mem_of_getElem? (i := 0) rfl)))
  have F14 := O1.keep K13 (ninS (Ne.symm ne1) nin0)
  refine g_putfield W3 d_jdk_38_method_24_code_19 (pc' := 22) (host := "") (ty := .int) rfl (Or.inl (hw _ (List.mem_of_getElem? (i := 96) rfl))) Via.refl (F14.get 2 rfl) F14.1 (Or.inl (hw _ (List.mem_of_getElem? (i := 97) rfl))) (hw _ (List.mem_of_getElem? (i := 30) rfl)) (by decide) rfl rfl (List.mem_of_getElem? (i := 0) rfl) fun T8 h10 W9 R11 => ?_
  have O12 : Obj Z h10 a1 "java/util/ArrayList" [(("java/util/AbstractList", "modCount", "I"), (.int mc)), (("java/util/ArrayList", "elementData", "[Ljava/lang/Object;"), (.ref d)), (("java/util/ArrayList", "size", "I"), (.int ((2 : Int32) + (1 : Int32))))] := F14.put R11 2 rfl (dis_AL hw)
  have K15 : Keep h4 h10 [a1] := ((Keep.refl h4 [a1]).wr R11 (Or.inl (List.mem_of_getElem? (i := 0) rfl)))
  have F16 := A7.keep K15 (ninS ne1 nin0)
  have K17 : Keep h h10 [a1, d] := (((Keep.refl h [a1, d]).wr R5 (Or.inl (List.mem_of_getElem? (i := 1) rfl))).wr R11 (Or.inl (List.mem_of_getElem? (i := 0) rfl)))
  exact g_return W9 d_jdk_38_method_24_code_22 K17 ⟨rfl, O12, F16⟩ (by decide) (by decide)
set_option maxRecDepth 65536 in
set_option maxHeartbeats 40000000 in
theorem rm_add_2 {l : Launch} {Z : State} {a0 : Array Value} (hw : ∀ d ∈ tables_1, d.before a0 Z = true) (hEL : EW Z a0 EL1) {zc : Int32} (Sc : Sta Z Z.heap "java/lang/String" "COMPACT_STRINGS" "Z" (.int zc)) (hzc : ¬ zc = 0) (a1 x d : Addr) (k : ClassId) (u0 : Value) (u1 : Value) (h : Heap) (hX : Ext Z.heap h) (g1 : Z.heap.size ≤ a1) (gd : Z.heap.size ≤ d) (I1 : Ins Z h x "java/lang/Object" true) (O1 : Obj Z h a1 "java/util/ArrayList" [(("java/util/AbstractList", "modCount", "I"), (.int (2 : Int32))), (("java/util/ArrayList", "elementData", "[Ljava/lang/Object;"), (.ref d)), (("java/util/ArrayList", "size", "I"), (.int (2 : Int32)))]) (A1 : Arv Z h d k (.object "java/lang/Object") (10 : Int32) [u0, u1, .null, .null, .null, .null, .null, .null, .null, .null] .null) (Ov : Ovr Z k "java/lang/Object") : Met l Z EL1 NW (⟨"java/util/ArrayList", "add", "(Ljava/lang/Object;)Z"⟩ : MethodName) jdk_38_method_25_code 2 (some .boolean) [] ({ frames := 1, cells := 0, slots := 0, locals := 40 } : Room) #[(.ref a1), (.ref x)] h [a1, d] (fun v h' => v = some (.int 1) ∧ Obj Z h' a1 "java/util/ArrayList" [(("java/util/AbstractList", "modCount", "I"), (.int (3 : Int32))), (("java/util/ArrayList", "elementData", "[Ljava/lang/Object;"), (.ref d)), (("java/util/ArrayList", "size", "I"), (.int (3 : Int32)))] ∧ Arv Z h' d k (.object "java/lang/Object") (10 : Int32) [u0, u1, .ref x, .null, .null, .null, .null, .null, .null, .null] .null) := by
  refine Met.intro pf_9 hEL hX (allS ⟨g1, O1.lt⟩ (allS ⟨gd, A1.lt⟩ all0)) ?_
  intro p e s m below meth c T W
  refine Goes.cast (show entryFrame m #[(.ref a1), (.ref x)] 2 = mkF m 0 #[.val (.ref a1), .val (.ref x)] [] by first | (simp [entryFrame, mkF, argsToLocals, Value.category]; done) | rfl) ?_
  have ne1 : d ≠ a1 := (Exa.neArv O1.1 A1 (hw _ (List.mem_of_getElem? (i := 30) rfl))).symm
  refine g_aload_n W d_jdk_38_method_25_code_0 (pc' := 1) rfl rfl rfl ?_
  refine g_dup W d_jdk_38_method_25_code_1 (pc' := 2) rfl rfl ?_
  refine g_getfield W d_jdk_38_method_25_code_2 (pc' := 5) (host := "") rfl (Or.inl (hw _ (List.mem_of_getElem? (i := 123) rfl))) (Via.of (hw _ (List.mem_of_getElem? (i := 124) rfl))) (O1.get 0 rfl) fun T2 W3 => ?_
  refine g_iconst W3 d_jdk_38_method_25_code_5 (pc' := 6) (v := (1 : Int32)) rfl rfl ?_
  refine g_iadd W3 d_jdk_38_method_25_code_6 (pc' := 7) rfl ?_
  refine g_putfield W3 d_jdk_38_method_25_code_7 (pc' := 10) (host := "") (ty := .int) rfl (Or.inl (hw _ (List.mem_of_getElem? (i := 123) rfl))) (Via.of (hw _ (List.mem_of_getElem? (i := 124) rfl))) (O1.get 0 rfl) O1.1 (Or.inl (hw _ (List.mem_of_getElem? (i := 49) rfl))) (hw _ (List.mem_of_getElem? (i := 30) rfl)) (by decide) rfl rfl (List.mem_of_getElem? (i := 0) rfl) fun T4 h6 W5 R7 => ?_
  have O8 : Obj Z h6 a1 "java/util/ArrayList" [(("java/util/AbstractList", "modCount", "I"), (.int (3 : Int32))), (("java/util/ArrayList", "elementData", "[Ljava/lang/Object;"), (.ref d)), (("java/util/ArrayList", "size", "I"), (.int (2 : Int32)))] := O1.put R7 0 rfl (dis_AL hw)
  refine g_aload_n W5 d_jdk_38_method_25_code_10 (pc' := 11) rfl rfl rfl ?_
  refine g_aload_n W5 d_jdk_38_method_25_code_11 (pc' := 12) rfl rfl rfl ?_
  refine g_aload_n W5 d_jdk_38_method_25_code_12 (pc' := 13) rfl rfl rfl ?_
  refine g_getfield W5 d_jdk_38_method_25_code_13 (pc' := 16) (host := "") rfl (Or.inl (hw _ (List.mem_of_getElem? (i := 51) rfl))) Via.refl (O8.get 1 rfl) fun T9 W10 => ?_
  refine g_aload_n W10 d_jdk_38_method_25_code_16 (pc' := 17) rfl rfl rfl ?_
  refine g_getfield W10 d_jdk_38_method_25_code_17 (pc' := 20) (host := "") rfl (Or.inl (hw _ (List.mem_of_getElem? (i := 96) rfl))) Via.refl (O8.get 2 rfl) fun T11 W12 => ?_
  have K19 : Keep h h6 [a1] := ((Keep.refl h [a1]).wr R7 (Or.inl (List.mem_of_getElem? (i := 0) rfl)))
  have F20 := A1.keep K19 (ninS ne1 nin0)
  refine g_private W12 d_jdk_38_method_25_code_20 (pc' := 23) (a := a1) (fr' := [a1, d]) (argsL := [(.ref x), (.ref d), (.int (2 : Int32))]) (rest := []) (Wd := 0) (kc := 0) (ks := 0) rfl (hw _ (List.mem_of_getElem? (i := 125) rfl)) (hw _ (List.mem_of_getElem? (i := 126) rfl)) (hw _ (List.mem_of_getElem? (i := 128) rfl)) (hw _ (List.mem_of_getElem? (i := 127) rfl)) (hw _ (List.mem_of_getElem? (i := 129) rfl)) (by decide) O8.1 rfl rfl (lenOf pd_5 rfl) rfl (allS (List.mem_of_getElem? (i := 0) rfl) (allS (List.mem_of_getElem? (i := 1) rfl) (all0))) (by decide) (by decide) (Met.pays (rm_add3_2 hw hEL Sc hzc a1 x d k (3 : Int32) u0 u1 _ W12.ext g1 gd (I1.keepK (Keep.of_wr R7)) O8 F20 Ov) (hw _ (List.mem_of_getElem? (i := 129) rfl)) (hw _ (List.mem_of_getElem? (i := 31) rfl)) hEL (by decide) (by decide)) fun v18 T13 h15 W14 K16 q17 => ?_
  obtain ⟨rfl, O2, A2⟩ := q17
  show Goes _ _ _ _ _ _ _ _ _ _ _ T13 (mkF m 23 #[.val (.ref a1), .val (.ref x)] [])
  refine g_iconst W14 d_jdk_38_method_25_code_23 (pc' := 24) (v := (1 : Int32)) rfl rfl ?_
  have K21 : Keep h h15 [a1, d] := (((Keep.refl h [a1, d]).wr R7 (Or.inl (List.mem_of_getElem? (i := 0) rfl))).trans K16 (allS (Or.inl (List.mem_of_getElem? (i := 0) rfl)) (allS (Or.inl (List.mem_of_getElem? (i := 1) rfl)) (all0))))
  exact g_ireturn W14 d_jdk_38_method_25_code_24 (by decide) rfl K21 ⟨rfl, O2, A2⟩ (by decide) (by decide)
theorem d_jdk_41_method_11_code_0 : decode jdk_41_method_11_code 0 = .ok (.iload_n 0, 1) := by decide +kernel
theorem d_jdk_41_method_11_code_1 : decode jdk_41_method_11_code 1 = .ok (.ifCond .lt 8, 3) := by decide +kernel
theorem d_jdk_41_method_11_code_4 : decode jdk_41_method_11_code 4 = .ok (.iload_n 0, 1) := by decide +kernel
theorem d_jdk_41_method_11_code_5 : decode jdk_41_method_11_code 5 = .ok (.iload_n 1, 1) := by decide +kernel
theorem d_jdk_41_method_11_code_6 : decode jdk_41_method_11_code 6 = .ok (.if_icmp .lt 10, 3) := by decide +kernel
theorem d_jdk_41_method_11_code_16 : decode jdk_41_method_11_code 16 = .ok (.iload_n 0, 1) := by decide +kernel
theorem d_jdk_41_method_11_code_17 : decode jdk_41_method_11_code 17 = .ok (.ireturn, 1) := by decide +kernel
theorem pf_10 : plainFor (⟨"jdk/internal/util/Preconditions", "checkIndex", "(IILjava/util/function/BiFunction;)I"⟩ : MethodName) = true := by first | (exact plainFor_of_name (by first | (simp [plainName, overriddenIn]; done) | decide +kernel)) | decide +kernel
set_option maxRecDepth 65536 in
set_option maxHeartbeats 40000000 in
theorem rm_pci {l : Launch} {Z : State} {a0 : Array Value} (hw : ∀ d ∈ tables_1, d.before a0 Z = true) (hEL : EW Z a0 EL1) {zc : Int32} (Sc : Sta Z Z.heap "java/lang/String" "COMPACT_STRINGS" "Z" (.int zc)) (hzc : ¬ zc = 0) (p1 p2 : Int32) (v3 : Value) (h : Heap) (hX : Ext Z.heap h) (r3 : v3.isRef = true) (q1 : ¬ p1 < 0) (q2 : p1 < p2) : Met l Z EL1 NW (⟨"jdk/internal/util/Preconditions", "checkIndex", "(IILjava/util/function/BiFunction;)I"⟩ : MethodName) jdk_41_method_11_code 3 (some .int) [] ({ frames := 0, cells := 0, slots := 0, locals := 0 } : Room) #[(.int p1), (.int p2), v3] h [] (fun v h' => h = h' ∧ v = some (.int p1)) := by
  refine Met.intro pf_10 hEL hX (fun _ q => nomatch q) ?_
  intro p e s m below meth c T W
  refine Goes.cast (show entryFrame m #[(.int p1), (.int p2), v3] 3 = mkF m 0 #[.val (.int p1), .val (.int p2), .val v3] [] by simp [entryFrame, mkF, argsToLocals, cat_ref, cat_int, cat_null, cat_long, Jvm.Free.XT.cat1 r3]) ?_
  refine g_iload_n W d_jdk_41_method_11_code_0 (pc' := 1) rfl rfl ?_
  refine g_ifN W d_jdk_41_method_11_code_1 (pc' := 4) rfl (Jvm.Free.XT.i0_lt_f q1) ?_
  refine g_iload_n W d_jdk_41_method_11_code_4 (pc' := 5) rfl rfl ?_
  refine g_iload_n W d_jdk_41_method_11_code_5 (pc' := 6) rfl rfl ?_
  refine g_icmpY W d_jdk_41_method_11_code_6 (pc' := 16) (by decide) (by decide) (Jvm.Free.XT.ii_lt_t q2) ?_
  refine g_iload_n W d_jdk_41_method_11_code_16 (pc' := 17) rfl rfl ?_
  exact g_ireturn W d_jdk_41_method_11_code_17 (by decide) rfl (Keep.refl h []) ⟨rfl, rfl⟩ (by decide) (by decide)
theorem d_jdk_31_method_17_code_0 : decode jdk_31_method_17_code 0 = .ok (.iload_n 0, 1) := by decide +kernel
theorem d_jdk_31_method_17_code_1 : decode jdk_31_method_17_code 1 = .ok (.iload_n 1, 1) := by decide +kernel
theorem d_jdk_31_method_17_code_2 : decode jdk_31_method_17_code 2 = .ok (.aconst_null, 1) := by decide +kernel
theorem d_jdk_31_method_17_code_3 : decode jdk_31_method_17_code 3 = .ok (.invokestatic 105, 3) := by decide +kernel
theorem pd_6 : parseMethodDescriptor "(IILjava/util/function/BiFunction;)I" = some ⟨[.int, .int, (.object "java/util/function/BiFunction")], some .int⟩ := by decide +kernel
theorem d_jdk_31_method_17_code_6 : decode jdk_31_method_17_code 6 = .ok (.ireturn, 1) := by decide +kernel
theorem pf_11 : plainFor (⟨"java/util/Objects", "checkIndex", "(II)I"⟩ : MethodName) = true := by first | (exact plainFor_of_name (by first | (simp [plainName, overriddenIn]; done) | decide +kernel)) | decide +kernel
set_option maxRecDepth 65536 in
set_option maxHeartbeats 40000000 in
theorem rm_ci {l : Launch} {Z : State} {a0 : Array Value} (hw : ∀ d ∈ tables_1, d.before a0 Z = true) (hEL : EW Z a0 EL1) {zc : Int32} (Sc : Sta Z Z.heap "java/lang/String" "COMPACT_STRINGS" "Z" (.int zc)) (hzc : ¬ zc = 0) (p1 p2 : Int32) (h : Heap) (hX : Ext Z.heap h) (q1 : ¬ p1 < 0) (q2 : p1 < p2) : Met l Z EL1 NW (⟨"java/util/Objects", "checkIndex", "(II)I"⟩ : MethodName) jdk_31_method_17_code 2 (some .int) [] ({ frames := 1, cells := 0, slots := 0, locals := 20 } : Room) #[(.int p1), (.int p2)] h [] (fun v h' => h = h' ∧ v = some (.int p1)) := by
  refine Met.intro pf_11 hEL hX (fun _ q => nomatch q) ?_
  intro p e s m below meth c T W
  refine Goes.cast (show entryFrame m #[(.int p1), (.int p2)] 2 = mkF m 0 #[.val (.int p1), .val (.int p2)] [] by first | (simp [entryFrame, mkF, argsToLocals, Value.category]; done) | rfl) ?_
  refine g_iload_n W d_jdk_31_method_17_code_0 (pc' := 1) rfl rfl ?_
  refine g_iload_n W d_jdk_31_method_17_code_1 (pc' := 2) rfl rfl ?_
  refine g_aconst_null W d_jdk_31_method_17_code_2 (pc' := 3) rfl ?_
  refine g_static W d_jdk_31_method_17_code_3 (pc' := 6) (fr' := []) (argsL := [(.int p1), (.int p2), .null]) (rest := []) (Wd := 0) (kc := 0) (ks := 0) rfl (hw _ (List.mem_of_getElem? (i := 159) rfl)) (hw _ (List.mem_of_getElem? (i := 160) rfl)) (hw _ (List.mem_of_getElem? (i := 161) rfl)) (hw _ (List.mem_of_getElem? (i := 162) rfl)) (by decide) rfl rfl (lenOf pd_6 rfl) rfl all0 (by decide) (by decide) (Met.pays (rm_pci hw hEL Sc hzc p1 p2 .null _ W.ext rfl q1 q2) (hw _ (List.mem_of_getElem? (i := 162) rfl)) (hw _ (List.mem_of_getElem? (i := 161) rfl)) hEL (by decide) (by decide)) fun v6 T1 h3 W2 K4 q5 => ?_
  obtain ⟨rfl, rfl⟩ := q5
  show Goes _ _ _ _ _ _ _ _ _ _ _ T1 (mkF m 6 #[.val (.int p1), .val (.int p2)] [(.int p1)])
  exact g_ireturn W2 d_jdk_31_method_17_code_6 (by decide) rfl (Keep.refl h []) ⟨rfl, rfl⟩ (by decide) (by decide)
theorem d_jdk_38_method_18_code_0 : decode jdk_38_method_18_code 0 = .ok (.aload_n 0, 1) := by decide +kernel
theorem d_jdk_38_method_18_code_1 : decode jdk_38_method_18_code 1 = .ok (.getfield 9, 3) := by decide +kernel
theorem d_jdk_38_method_18_code_4 : decode jdk_38_method_18_code 4 = .ok (.iload_n 1, 1) := by decide +kernel
theorem d_jdk_38_method_18_code_5 : decode jdk_38_method_18_code 5 = .ok (.aaload, 1) := by decide +kernel
theorem d_jdk_38_method_18_code_6 : decode jdk_38_method_18_code 6 = .ok (.areturn, 1) := by decide +kernel
theorem pf_12 : plainFor (⟨"java/util/ArrayList", "elementData", "(I)Ljava/lang/Object;"⟩ : MethodName) = true := by first | (exact plainFor_of_name (by first | (simp [plainName, overriddenIn]; done) | decide +kernel)) | decide +kernel
set_option maxRecDepth 65536 in
set_option maxHeartbeats 40000000 in
theorem rm_ed {l : Launch} {Z : State} {a0 : Array Value} (hw : ∀ d ∈ tables_1, d.before a0 Z = true) (hEL : EW Z a0 EL1) {zc : Int32} (Sc : Sta Z Z.heap "java/lang/String" "COMPACT_STRINGS" "Z" (.int zc)) (hzc : ¬ zc = 0) (a1 d : Addr) (k : ClassId) (mc n N p2 : Int32) (vs : List Value) (v : Value) (h : Heap) (hX : Ext Z.heap h) (O1 : Obj Z h a1 "java/util/ArrayList" [(("java/util/AbstractList", "modCount", "I"), (.int mc)), (("java/util/ArrayList", "elementData", "[Ljava/lang/Object;"), (.ref d)), (("java/util/ArrayList", "size", "I"), (.int n))]) (A1 : Arv Z h d k (.object "java/lang/Object") N vs .null) (q : ¬ p2 < 0 ∧ p2 < N) (e1 : vs.getD p2.toNatClampNeg .null = v) (r : v.isRef = true) : Met l Z EL1 NW (⟨"java/util/ArrayList", "elementData", "(I)Ljava/lang/Object;"⟩ : MethodName) jdk_38_method_18_code 2 (some (.object "java/lang/Object")) [] ({ frames := 0, cells := 0, slots := 0, locals := 0 } : Room) #[(.ref a1), (.int p2)] h [] (fun r h' => h = h' ∧ r = some v) := by
  refine Met.intro pf_12 hEL hX (fun _ q => nomatch q) ?_
  intro p e s m below meth c T W
  refine Goes.cast (show entryFrame m #[(.ref a1), (.int p2)] 2 = mkF m 0 #[.val (.ref a1), .val (.int p2)] [] by first | (simp [entryFrame, mkF, argsToLocals, Value.category]; done) | rfl) ?_
  refine g_aload_n W d_jdk_38_method_18_code_0 (pc' := 1) rfl rfl rfl ?_
  refine g_getfield W d_jdk_38_method_18_code_1 (pc' := 4) (host := "") rfl (Or.inl (hw _ (List.mem_of_getElem? (i := 51) rfl))) Via.refl (O1.get 1 rfl) fun T1 W2 => ?_
  refine g_iload_n W2 d_jdk_38_method_18_code_4 (pc' := 5) rfl rfl ?_
  refine g_aaload W2 d_jdk_38_method_18_code_5 (pc' := 6) rfl A1 rfl q e1 ?_
  exact g_areturn W2 d_jdk_38_method_18_code_6 rfl r rfl (Keep.refl h []) ⟨rfl, rfl⟩ (by decide) (by decide)
theorem d_jdk_38_method_20_code_0 : decode jdk_38_method_20_code 0 = .ok (.iload_n 1, 1) := by decide +kernel
theorem d_jdk_38_method_20_code_1 : decode jdk_38_method_20_code 1 = .ok (.aload_n 0, 1) := by decide +kernel
theorem d_jdk_38_method_20_code_2 : decode jdk_38_method_20_code 2 = .ok (.getfield 48, 3) := by decide +kernel
theorem d_jdk_38_method_20_code_5 : decode jdk_38_method_20_code 5 = .ok (.invokestatic 118, 3) := by decide +kernel
theorem d_jdk_38_method_20_code_8 : decode jdk_38_method_20_code 8 = .ok (.pop, 1) := by decide +kernel
theorem d_jdk_38_method_20_code_9 : decode jdk_38_method_20_code 9 = .ok (.aload_n 0, 1) := by decide +kernel
theorem d_jdk_38_method_20_code_10 : decode jdk_38_method_20_code 10 = .ok (.iload_n 1, 1) := by decide +kernel
theorem d_jdk_38_method_20_code_11 : decode jdk_38_method_20_code 11 = .ok (.invokevirtual 123, 3) := by decide +kernel
theorem pd_7 : parseMethodDescriptor "(I)Ljava/lang/Object;" = some ⟨[.int], some (.object "java/lang/Object")⟩ := by decide +kernel
theorem d_jdk_38_method_20_code_14 : decode jdk_38_method_20_code 14 = .ok (.areturn, 1) := by decide +kernel
theorem pf_13 : plainFor (⟨"java/util/ArrayList", "get", "(I)Ljava/lang/Object;"⟩ : MethodName) = true := by first | (exact plainFor_of_name (by first | (simp [plainName, overriddenIn]; done) | decide +kernel)) | decide +kernel
set_option maxRecDepth 65536 in
set_option maxHeartbeats 40000000 in
theorem rm_get {l : Launch} {Z : State} {a0 : Array Value} (hw : ∀ d ∈ tables_1, d.before a0 Z = true) (hEL : EW Z a0 EL1) {zc : Int32} (Sc : Sta Z Z.heap "java/lang/String" "COMPACT_STRINGS" "Z" (.int zc)) (hzc : ¬ zc = 0) (a1 d : Addr) (k : ClassId) (mc n N p2 : Int32) (vs : List Value) (v : Value) (h : Heap) (hX : Ext Z.heap h) (O1 : Obj Z h a1 "java/util/ArrayList" [(("java/util/AbstractList", "modCount", "I"), (.int mc)), (("java/util/ArrayList", "elementData", "[Ljava/lang/Object;"), (.ref d)), (("java/util/ArrayList", "size", "I"), (.int n))]) (A1 : Arv Z h d k (.object "java/lang/Object") N vs .null) (q : ¬ p2 < 0 ∧ p2 < N) (q2 : p2 < n) (e1 : vs.getD p2.toNatClampNeg .null = v) (r : v.isRef = true) : Met l Z EL1 NW (⟨"java/util/ArrayList", "get", "(I)Ljava/lang/Object;"⟩ : MethodName) jdk_38_method_20_code 2 (some (.object "java/lang/Object")) [] ({ frames := 2, cells := 0, slots := 0, locals := 60 } : Room) #[(.ref a1), (.int p2)] h [] (fun r h' => h = h' ∧ r = some v) := by
  refine Met.intro pf_13 hEL hX (fun _ q => nomatch q) ?_
  intro p e s m below meth c T W
  refine Goes.cast (show entryFrame m #[(.ref a1), (.int p2)] 2 = mkF m 0 #[.val (.ref a1), .val (.int p2)] [] by first | (simp [entryFrame, mkF, argsToLocals, Value.category]; done) | rfl) ?_
  refine g_iload_n W d_jdk_38_method_20_code_0 (pc' := 1) rfl rfl ?_
  refine g_aload_n W d_jdk_38_method_20_code_1 (pc' := 2) rfl rfl rfl ?_
  refine g_getfield W d_jdk_38_method_20_code_2 (pc' := 5) (host := "") rfl (Or.inl (hw _ (List.mem_of_getElem? (i := 96) rfl))) Via.refl (O1.get 2 rfl) fun T1 W2 => ?_
  refine g_static W2 d_jdk_38_method_20_code_5 (pc' := 8) (fr' := []) (argsL := [(.int p2), (.int n)]) (rest := []) (Wd := 0) (kc := 0) (ks := 0) rfl (hw _ (List.mem_of_getElem? (i := 155) rfl)) (hw _ (List.mem_of_getElem? (i := 156) rfl)) (hw _ (List.mem_of_getElem? (i := 157) rfl)) (hw _ (List.mem_of_getElem? (i := 158) rfl)) (by decide) rfl rfl (lenOf pd_2 rfl) rfl all0 (by decide) (by decide) (Met.pays (rm_ci hw hEL Sc hzc p2 n _ W2.ext q.1 q2) (hw _ (List.mem_of_getElem? (i := 158) rfl)) (hw _ (List.mem_of_getElem? (i := 157) rfl)) hEL (by decide) (by decide)) fun v8 T3 h5 W4 K6 q7 => ?_
  obtain ⟨rfl, rfl⟩ := q7
  show Goes _ _ _ _ _ _ _ _ _ _ _ T3 (mkF m 8 #[.val (.ref a1), .val (.int p2)] [(.int p2)])
  refine g_pop W4 d_jdk_38_method_20_code_8 (pc' := 9) rfl rfl ?_
  refine g_aload_n W4 d_jdk_38_method_20_code_9 (pc' := 10) rfl rfl rfl ?_
  refine g_iload_n W4 d_jdk_38_method_20_code_10 (pc' := 11) rfl rfl ?_
  refine g_virtual W4 d_jdk_38_method_20_code_11 (pc' := 14) (a := a1) (fr' := []) (argsL := [(.int p2)]) (rest := []) (Wd := 0) (kc := 0) (ks := 0) rfl (hw _ (List.mem_of_getElem? (i := 163) rfl)) (hw _ (List.mem_of_getElem? (i := 164) rfl)) (hw _ (List.mem_of_getElem? (i := 166) rfl)) (hw _ (List.mem_of_getElem? (i := 165) rfl)) (by decide) O1.1 rfl rfl (lenOf pd_7 rfl) rfl all0 (by decide) (by decide) (Met.pays (rm_ed hw hEL Sc hzc a1 d k mc n N p2 vs v _ W4.ext O1 A1 q e1 r) (hw _ (List.mem_of_getElem? (i := 167) rfl)) (hw _ (List.mem_of_getElem? (i := 31) rfl)) hEL (by decide) (by decide)) fun v14 T9 h11 W10 K12 q13 => ?_
  obtain ⟨rfl, rfl⟩ := q13
  show Goes _ _ _ _ _ _ _ _ _ _ _ T9 (mkF m 14 #[.val (.ref a1), .val (.int p2)] [v])
  exact g_areturn W10 d_jdk_38_method_20_code_14 rfl r rfl (Keep.refl h []) ⟨rfl, rfl⟩ (by decide) (by decide)
abbrev ks_Xe : List FK := [("com/example/config_into_context/configintocontext/XmlElement", "children", "Ljava/util/List;"), ("com/example/config_into_context/configintocontext/XmlElement", "text", "Ljava/lang/String;"), ("com/example/config_into_context/configintocontext/XmlElement", "namespace", "Ljava/lang/String;"), ("com/example/config_into_context/configintocontext/XmlElement", "localName", "Ljava/lang/String;"), ("com/example/config_into_context/configintocontext/XmlElement", "name", "Ljava/lang/String;"), ("com/example/config_into_context/configintocontext/XmlElement", "attributes", "Ljava/util/List;"), ("com/example/config_into_context/configintocontext/XmlElement", "line", "I")]
theorem laid_Xe {Z : State} {a0 : Array Value} (hw : ∀ d ∈ tables_1, d.before a0 Z = true) : LaidL Z a0 "com/example/config_into_context/configintocontext/XmlElement" ks_Xe := LaidL.cons (Or.inl (hw _ (List.mem_of_getElem? (i := 68) rfl))) (.object "java/util/List") (by decide) (LaidL.cons (Or.inl (hw _ (List.mem_of_getElem? (i := 71) rfl))) (.object "java/lang/String") (by decide) (LaidL.cons (Or.inr (hw _ (List.mem_of_getElem? (i := 73) rfl))) (.object "java/lang/String") (by decide) (LaidL.cons (Or.inr (hw _ (List.mem_of_getElem? (i := 75) rfl))) (.object "java/lang/String") (by decide) (LaidL.cons (Or.inr (hw _ (List.mem_of_getElem? (i := 77) rfl))) (.object "java/lang/String") (by decide) (LaidL.cons (Or.inr (hw _ (List.mem_of_getElem? (i := 79) rfl))) (.object "java/util/List") (by decide) (LaidL.cons (Or.inr (hw _ (List.mem_of_getElem? (i := 81) rfl))) .int (by decide) (LaidL.nil)))))))
theorem dis_Xe {Z : State} {a0 : Array Value} (hw : ∀ d ∈ tables_1, d.before a0 Z = true) : Dis Z ks_Xe := Dis.of (laid_Xe hw) (by decide)
theorem new_Xe {Z : State} {a0 : Array Value} {h : Heap} {a : Addr} (hw : ∀ d ∈ tables_1, d.before a0 Z = true) (A : Exa Z h a "com/example/config_into_context/configintocontext/XmlElement") (D : ∀ {O nm d : String} {ty : FieldType}, Laid Z a0 "com/example/config_into_context/configintocontext/XmlElement" O nm d → parseFieldDescriptor d = some ty → Fld Z h a O nm d (defaultValue ty)) : Obj Z h a "com/example/config_into_context/configintocontext/XmlElement" [(("com/example/config_into_context/configintocontext/XmlElement", "children", "Ljava/util/List;"), .null), (("com/example/config_into_context/configintocontext/XmlElement", "text", "Ljava/lang/String;"), .null), (("com/example/config_into_context/configintocontext/XmlElement", "namespace", "Ljava/lang/String;"), .null), (("com/example/config_into_context/configintocontext/XmlElement", "localName", "Ljava/lang/String;"), .null), (("com/example/config_into_context/configintocontext/XmlElement", "name", "Ljava/lang/String;"), .null), (("com/example/config_into_context/configintocontext/XmlElement", "attributes", "Ljava/util/List;"), .null), (("com/example/config_into_context/configintocontext/XmlElement", "line", "I"), (.int 0))] := ⟨A, FldL.cons (D (Or.inl (hw _ (List.mem_of_getElem? (i := 68) rfl))) (ty := (.object "java/util/List")) (by decide)) (FldL.cons (D (Or.inl (hw _ (List.mem_of_getElem? (i := 71) rfl))) (ty := (.object "java/lang/String")) (by decide)) (FldL.cons (D (Or.inr (hw _ (List.mem_of_getElem? (i := 73) rfl))) (ty := (.object "java/lang/String")) (by decide)) (FldL.cons (D (Or.inr (hw _ (List.mem_of_getElem? (i := 75) rfl))) (ty := (.object "java/lang/String")) (by decide)) (FldL.cons (D (Or.inr (hw _ (List.mem_of_getElem? (i := 77) rfl))) (ty := (.object "java/lang/String")) (by decide)) (FldL.cons (D (Or.inr (hw _ (List.mem_of_getElem? (i := 79) rfl))) (ty := (.object "java/util/List")) (by decide)) (FldL.cons (D (Or.inr (hw _ (List.mem_of_getElem? (i := 81) rfl))) (ty := .int) (by decide)) (FldL.nil)))))))⟩
abbrev ks_At : List FK := [("com/example/config_into_context/configintocontext/XmlElement$Attribute", "namespace", "Ljava/lang/String;"), ("com/example/config_into_context/configintocontext/XmlElement$Attribute", "localName", "Ljava/lang/String;"), ("com/example/config_into_context/configintocontext/XmlElement$Attribute", "name", "Ljava/lang/String;"), ("com/example/config_into_context/configintocontext/XmlElement$Attribute", "value", "Ljava/lang/String;")]
theorem laid_At {Z : State} {a0 : Array Value} (hw : ∀ d ∈ tables_1, d.before a0 Z = true) : LaidL Z a0 "com/example/config_into_context/configintocontext/XmlElement$Attribute" ks_At := LaidL.cons (Or.inr (hw _ (List.mem_of_getElem? (i := 111) rfl))) (.object "java/lang/String") (by decide) (LaidL.cons (Or.inr (hw _ (List.mem_of_getElem? (i := 113) rfl))) (.object "java/lang/String") (by decide) (LaidL.cons (Or.inr (hw _ (List.mem_of_getElem? (i := 115) rfl))) (.object "java/lang/String") (by decide) (LaidL.cons (Or.inr (hw _ (List.mem_of_getElem? (i := 117) rfl))) (.object "java/lang/String") (by decide) (LaidL.nil))))
theorem dis_At {Z : State} {a0 : Array Value} (hw : ∀ d ∈ tables_1, d.before a0 Z = true) : Dis Z ks_At := Dis.of (laid_At hw) (by decide)
theorem new_At {Z : State} {a0 : Array Value} {h : Heap} {a : Addr} (hw : ∀ d ∈ tables_1, d.before a0 Z = true) (A : Exa Z h a "com/example/config_into_context/configintocontext/XmlElement$Attribute") (D : ∀ {O nm d : String} {ty : FieldType}, Laid Z a0 "com/example/config_into_context/configintocontext/XmlElement$Attribute" O nm d → parseFieldDescriptor d = some ty → Fld Z h a O nm d (defaultValue ty)) : Obj Z h a "com/example/config_into_context/configintocontext/XmlElement$Attribute" [(("com/example/config_into_context/configintocontext/XmlElement$Attribute", "namespace", "Ljava/lang/String;"), .null), (("com/example/config_into_context/configintocontext/XmlElement$Attribute", "localName", "Ljava/lang/String;"), .null), (("com/example/config_into_context/configintocontext/XmlElement$Attribute", "name", "Ljava/lang/String;"), .null), (("com/example/config_into_context/configintocontext/XmlElement$Attribute", "value", "Ljava/lang/String;"), .null)] := ⟨A, FldL.cons (D (Or.inr (hw _ (List.mem_of_getElem? (i := 111) rfl))) (ty := (.object "java/lang/String")) (by decide)) (FldL.cons (D (Or.inr (hw _ (List.mem_of_getElem? (i := 113) rfl))) (ty := (.object "java/lang/String")) (by decide)) (FldL.cons (D (Or.inr (hw _ (List.mem_of_getElem? (i := 115) rfl))) (ty := (.object "java/lang/String")) (by decide)) (FldL.cons (D (Or.inr (hw _ (List.mem_of_getElem? (i := 117) rfl))) (ty := (.object "java/lang/String")) (by decide)) (FldL.nil))))⟩
theorem d_jdk_30_method_1_code_0 : decode jdk_30_method_1_code 0 = .ok (.aload_n 0, 1) := by decide +kernel
theorem d_jdk_30_method_1_code_1 : decode jdk_30_method_1_code 1 = .ok (.invokespecial 1, 3) := by decide +kernel
theorem d_jdk_30_method_1_code_4 : decode jdk_30_method_1_code 4 = .ok (.return_, 1) := by decide +kernel
theorem pf_14 : plainFor (⟨"java/lang/Record", "<init>", "()V"⟩ : MethodName) = true := by first | (exact plainFor_of_name (by first | (simp [plainName, overriddenIn]; done) | decide +kernel)) | decide +kernel
set_option maxRecDepth 65536 in
set_option maxHeartbeats 40000000 in
theorem rm_rec {l : Launch} {Z : State} {a0 : Array Value} (hw : ∀ d ∈ tables_1, d.before a0 Z = true) (hEL : EW Z a0 EL1) {zc : Int32} (Sc : Sta Z Z.heap "java/lang/String" "COMPACT_STRINGS" "Z" (.int zc)) (hzc : ¬ zc = 0) (a1 : Addr) (h : Heap) (hX : Ext Z.heap h)  : Met l Z EL1 NW (⟨"java/lang/Record", "<init>", "()V"⟩ : MethodName) jdk_30_method_1_code 1 none [] ({ frames := 1, cells := 0, slots := 0, locals := 12 } : Room) #[(.ref a1)] h [] (fun v h' => h = h' ∧ v = none) := by
  refine Met.intro pf_14 hEL hX (fun _ q => nomatch q) ?_
  intro p e s m below meth c T W
  refine Goes.cast (show entryFrame m #[(.ref a1)] 1 = mkF m 0 #[.val (.ref a1)] [] by first | (simp [entryFrame, mkF, argsToLocals, Value.category]; done) | rfl) ?_
  refine g_aload_n W d_jdk_30_method_1_code_0 (pc' := 1) rfl rfl rfl ?_
  refine g_initO W d_jdk_30_method_1_code_1 (pc' := 4) (Wd := 0) rfl (hw _ (List.mem_of_getElem? (i := 109) rfl)) (hw _ (List.mem_of_getElem? (i := 16) rfl)) (hw _ (List.mem_of_getElem? (i := 17) rfl)) rfl rfl (by decide) (by decide) fun T1 W2 => ?_
  exact g_return W2 d_jdk_30_method_1_code_4 (Keep.refl h []) ⟨rfl, rfl⟩ (by decide) (by decide)
theorem d_prog_62_method_1_code_0 : decode prog_62_method_1_code 0 = .ok (.aload_n 0, 1) := by decide +kernel
theorem d_prog_62_method_1_code_1 : decode prog_62_method_1_code 1 = .ok (.invokespecial 1, 3) := by decide +kernel
theorem d_prog_62_method_1_code_4 : decode prog_62_method_1_code 4 = .ok (.aload_n 0, 1) := by decide +kernel
theorem d_prog_62_method_1_code_5 : decode prog_62_method_1_code 5 = .ok (.aload_n 1, 1) := by decide +kernel
theorem d_prog_62_method_1_code_6 : decode prog_62_method_1_code 6 = .ok (.putfield 7, 3) := by decide +kernel
theorem d_prog_62_method_1_code_9 : decode prog_62_method_1_code 9 = .ok (.aload_n 0, 1) := by decide +kernel
theorem d_prog_62_method_1_code_10 : decode prog_62_method_1_code 10 = .ok (.aload_n 2, 1) := by decide +kernel
theorem d_prog_62_method_1_code_11 : decode prog_62_method_1_code 11 = .ok (.putfield 13, 3) := by decide +kernel
theorem d_prog_62_method_1_code_14 : decode prog_62_method_1_code 14 = .ok (.aload_n 0, 1) := by decide +kernel
theorem d_prog_62_method_1_code_15 : decode prog_62_method_1_code 15 = .ok (.aload_n 3, 1) := by decide +kernel
theorem d_prog_62_method_1_code_16 : decode prog_62_method_1_code 16 = .ok (.putfield 16, 3) := by decide +kernel
theorem d_prog_62_method_1_code_19 : decode prog_62_method_1_code 19 = .ok (.aload_n 0, 1) := by decide +kernel
theorem d_prog_62_method_1_code_20 : decode prog_62_method_1_code 20 = .ok (.aload 4, 2) := by decide +kernel
theorem d_prog_62_method_1_code_22 : decode prog_62_method_1_code 22 = .ok (.putfield 19, 3) := by decide +kernel
theorem d_prog_62_method_1_code_25 : decode prog_62_method_1_code 25 = .ok (.return_, 1) := by decide +kernel
theorem pf_15 : plainFor (⟨"com/example/config_into_context/configintocontext/XmlElement$Attribute", "<init>", "(Ljava/lang/String;Ljava/lang/String;Ljava/lang/String;Ljava/lang/String;)V"⟩ : MethodName) = true := by first | (exact plainFor_of_name (by first | (simp [plainName, overriddenIn]; done) | decide +kernel)) | decide +kernel
set_option maxRecDepth 65536 in
set_option maxHeartbeats 40000000 in
theorem rm_initA {l : Launch} {Z : State} {a0 : Array Value} (hw : ∀ d ∈ tables_1, d.before a0 Z = true) (hEL : EW Z a0 EL1) {zc : Int32} (Sc : Sta Z Z.heap "java/lang/String" "COMPACT_STRINGS" "Z" (.int zc)) (hzc : ¬ zc = 0) (a1 : Addr) (v2 : Value) (v3 : Value) (v4 : Value) (v5 : Value) (h : Heap) (hX : Ext Z.heap h) (r2 : v2.isRef = true) (r3 : v3.isRef = true) (r4 : v4.isRef = true) (r5 : v5.isRef = true) (g1 : Z.heap.size ≤ a1) (O1 : Obj Z h a1 "com/example/config_into_context/configintocontext/XmlElement$Attribute" [(("com/example/config_into_context/configintocontext/XmlElement$Attribute", "namespace", "Ljava/lang/String;"), .null), (("com/example/config_into_context/configintocontext/XmlElement$Attribute", "localName", "Ljava/lang/String;"), .null), (("com/example/config_into_context/configintocontext/XmlElement$Attribute", "name", "Ljava/lang/String;"), .null), (("com/example/config_into_context/configintocontext/XmlElement$Attribute", "value", "Ljava/lang/String;"), .null)]) : Met l Z EL1 NW (⟨"com/example/config_into_context/configintocontext/XmlElement$Attribute", "<init>", "(Ljava/lang/String;Ljava/lang/String;Ljava/lang/String;Ljava/lang/String;)V"⟩ : MethodName) prog_62_method_1_code 5 none [] ({ frames := 2, cells := 0, slots := 0, locals := 30 } : Room) #[(.ref a1), v2, v3, v4, v5] h [a1] (fun v h' => v = none ∧ Obj Z h' a1 "com/example/config_into_context/configintocontext/XmlElement$Attribute" [(("com/example/config_into_context/configintocontext/XmlElement$Attribute", "namespace", "Ljava/lang/String;"), v2), (("com/example/config_into_context/configintocontext/XmlElement$Attribute", "localName", "Ljava/lang/String;"), v3), (("com/example/config_into_context/configintocontext/XmlElement$Attribute", "name", "Ljava/lang/String;"), v4), (("com/example/config_into_context/configintocontext/XmlElement$Attribute", "value", "Ljava/lang/String;"), v5)]) := by
  refine Met.intro pf_15 hEL hX (allS ⟨g1, O1.lt⟩ all0) ?_
  intro p e s m below meth c T W
  refine Goes.cast (show entryFrame m #[(.ref a1), v2, v3, v4, v5] 5 = mkF m 0 #[.val (.ref a1), .val v2, .val v3, .val v4, .val v5] [] by simp [entryFrame, mkF, argsToLocals, cat_ref, cat_int, cat_null, cat_long, Jvm.Free.XT.cat1 r2, Jvm.Free.XT.cat1 r3, Jvm.Free.XT.cat1 r4, Jvm.Free.XT.cat1 r5]) ?_
  refine g_aload_n W d_prog_62_method_1_code_0 (pc' := 1) rfl rfl rfl ?_
  refine g_special W d_prog_62_method_1_code_1 (pc' := 4) (a := a1) (fr' := []) (argsL := []) (rest := []) (Wd := 0) (kc := 0) (ks := 0) rfl rfl (hw _ (List.mem_of_getElem? (i := 104) rfl)) (hw _ (List.mem_of_getElem? (i := 105) rfl)) (hw _ (List.mem_of_getElem? (i := 108) rfl)) (by decide) rfl rfl (lenOf pd_1 rfl) rfl all0 (by decide) (by decide) (Met.pays (rm_rec hw hEL Sc hzc a1 _ W.ext) (hw _ (List.mem_of_getElem? (i := 108) rfl)) (hw _ (List.mem_of_getElem? (i := 107) rfl)) hEL (by decide) (by decide)) fun v6 T1 h3 W2 K4 q5 => ?_
  obtain ⟨rfl, rfl⟩ := q5
  show Goes _ _ _ _ _ _ _ _ _ _ _ T1 (mkF m 4 #[.val (.ref a1), .val v2, .val v3, .val v4, .val v5] [])
  refine g_aload_n W2 d_prog_62_method_1_code_4 (pc' := 5) rfl rfl rfl ?_
  refine g_aload_n W2 d_prog_62_method_1_code_5 (pc' := 6) rfl rfl r2 ?_
  refine g_putfield W2 d_prog_62_method_1_code_6 (pc' := 9) (host := "") (ty := (.object "java/lang/String")) rfl (Or.inl (hw _ (List.mem_of_getElem? (i := 110) rfl))) Via.refl (O1.get 0 rfl) O1.1 (Or.inr ⟨(hw _ (List.mem_of_getElem? (i := 111) rfl)), rfl, rfl⟩) (hw _ (List.mem_of_getElem? (i := 99) rfl)) (by decide) rfl (fits_ref0 rfl r2) (List.mem_of_getElem? (i := 0) rfl) fun T7 h9 W8 R10 => ?_
  have O11 : Obj Z h9 a1 "com/example/config_into_context/configintocontext/XmlElement$Attribute" [(("com/example/config_into_context/configintocontext/XmlElement$Attribute", "namespace", "Ljava/lang/String;"), v2), (("com/example/config_into_context/configintocontext/XmlElement$Attribute", "localName", "Ljava/lang/String;"), .null), (("com/example/config_into_context/configintocontext/XmlElement$Attribute", "name", "Ljava/lang/String;"), .null), (("com/example/config_into_context/configintocontext/XmlElement$Attribute", "value", "Ljava/lang/String;"), .null)] := O1.put R10 0 rfl (dis_At hw)
  refine g_aload_n W8 d_prog_62_method_1_code_9 (pc' := 10) rfl rfl rfl ?_
  refine g_aload_n W8 d_prog_62_method_1_code_10 (pc' := 11) rfl rfl r3 ?_
  refine g_putfield W8 d_prog_62_method_1_code_11 (pc' := 14) (host := "") (ty := (.object "java/lang/String")) rfl (Or.inl (hw _ (List.mem_of_getElem? (i := 112) rfl))) Via.refl (O11.get 1 rfl) O11.1 (Or.inr ⟨(hw _ (List.mem_of_getElem? (i := 113) rfl)), rfl, rfl⟩) (hw _ (List.mem_of_getElem? (i := 99) rfl)) (by decide) rfl (fits_ref0 rfl r3) (List.mem_of_getElem? (i := 0) rfl) fun T12 h14 W13 R15 => ?_
  have O16 : Obj Z h14 a1 "com/example/config_into_context/configintocontext/XmlElement$Attribute" [(("com/example/config_into_context/configintocontext/XmlElement$Attribute", "namespace", "Ljava/lang/String;"), v2), (("com/example/config_into_context/configintocontext/XmlElement$Attribute", "localName", "Ljava/lang/String;"), v3), (("com/example/config_into_context/configintocontext/XmlElement$Attribute", "name", "Ljava/lang/String;"), .null), (("com/example/config_into_context/configintocontext/XmlElement$Attribute", "value", "Ljava/lang/String;"), .null)] := O11.put R15 1 rfl (dis_At hw)
  refine g_aload_n W13 d_prog_62_method_1_code_14 (pc' := 15) rfl rfl rfl ?_
  refine g_aload_n W13 d_prog_62_method_1_code_15 (pc' := 16) rfl rfl r4 ?_
  refine g_putfield W13 d_prog_62_method_1_code_16 (pc' := 19) (host := "") (ty := (.object "java/lang/String")) rfl (Or.inl (hw _ (List.mem_of_getElem? (i := 114) rfl))) Via.refl (O16.get 2 rfl) O16.1 (Or.inr ⟨(hw _ (List.mem_of_getElem? (i := 115) rfl)), rfl, rfl⟩) (hw _ (List.mem_of_getElem? (i := 99) rfl)) (by decide) rfl (fits_ref0 rfl r4) (List.mem_of_getElem? (i := 0) rfl) fun T17 h19 W18 R20 => ?_
  have O21 : Obj Z h19 a1 "com/example/config_into_context/configintocontext/XmlElement$Attribute" [(("com/example/config_into_context/configintocontext/XmlElement$Attribute", "namespace", "Ljava/lang/String;"), v2), (("com/example/config_into_context/configintocontext/XmlElement$Attribute", "localName", "Ljava/lang/String;"), v3), (("com/example/config_into_context/configintocontext/XmlElement$Attribute", "name", "Ljava/lang/String;"), v4), (("com/example/config_into_context/configintocontext/XmlElement$Attribute", "value", "Ljava/lang/String;"), .null)] := O16.put R20 2 rfl (dis_At hw)
  refine g_aload_n W18 d_prog_62_method_1_code_19 (pc' := 20) rfl rfl rfl ?_
  refine g_aload W18 d_prog_62_method_1_code_20 (pc' := 22) rfl rfl r5 ?_
  refine g_putfield W18 d_prog_62_method_1_code_22 (pc' := 25) (host := "") (ty := (.object "java/lang/String")) rfl (Or.inl (hw _ (List.mem_of_getElem? (i := 116) rfl))) Via.refl (O21.get 3 rfl) O21.1 (Or.inr ⟨(hw _ (List.mem_of_getElem? (i := 117) rfl)), rfl, rfl⟩) (hw _ (List.mem_of_getElem? (i := 99) rfl)) (by decide) rfl (fits_ref0 rfl r5) (List.mem_of_getElem? (i := 0) rfl) fun T22 h24 W23 R25 => ?_
  have O26 : Obj Z h24 a1 "com/example/config_into_context/configintocontext/XmlElement$Attribute" [(("com/example/config_into_context/configintocontext/XmlElement$Attribute", "namespace", "Ljava/lang/String;"), v2), (("com/example/config_into_context/configintocontext/XmlElement$Attribute", "localName", "Ljava/lang/String;"), v3), (("com/example/config_into_context/configintocontext/XmlElement$Attribute", "name", "Ljava/lang/String;"), v4), (("com/example/config_into_context/configintocontext/XmlElement$Attribute", "value", "Ljava/lang/String;"), v5)] := O21.put R25 3 rfl (dis_At hw)
  have K27 : Keep h h24 [a1] := (((((Keep.refl h [a1]).wr R10 (Or.inl (List.mem_of_getElem? (i := 0) rfl))).wr R15 (Or.inl (List.mem_of_getElem? (i := 0) rfl))).wr R20 (Or.inl (List.mem_of_getElem? (i := 0) rfl))).wr R25 (Or.inl (List.mem_of_getElem? (i := 0) rfl)))
  exact g_return W23 d_prog_62_method_1_code_25 K27 ⟨rfl, O26⟩ (by decide) (by decide)
theorem d_jdk_40_method_36_code_0 : decode jdk_40_method_36_code 0 = .ok (.getstatic 90, 3) := by decide +kernel
theorem d_jdk_40_method_36_code_3 : decode jdk_40_method_36_code 3 = .ok (.areturn, 1) := by decide +kernel
theorem pf_16 : plainFor (⟨"java/util/List", "of", "()Ljava/util/List;"⟩ : MethodName) = true := by first | (exact plainFor_of_name (by first | (simp [plainName, overriddenIn]; done) | decide +kernel)) | decide +kernel
set_option maxRecDepth 65536 in
set_option maxHeartbeats 40000000 in
theorem rm_of {l : Launch} {Z : State} {a0 : Array Value} (hw : ∀ d ∈ tables_1, d.before a0 Z = true) (hEL : EW Z a0 EL1) {zc : Int32} (Sc : Sta Z Z.heap "java/lang/String" "COMPACT_STRINGS" "Z" (.int zc)) (hzc : ¬ zc = 0) {el : Addr} (h : Heap) (hX : Ext Z.heap h) (Se : Sta Z Z.heap "java/util/ImmutableCollections" "EMPTY_LIST" "Ljava/util/ImmutableCollections$ListN;" (.ref el)) : Met l Z EL1 NW (⟨"java/util/List", "of", "()Ljava/util/List;"⟩ : MethodName) jdk_40_method_36_code 0 (some (.object "java/util/List")) [] ({ frames := 0, cells := 0, slots := 0, locals := 0 } : Room) #[] h [] (fun v h' => h = h' ∧ v = some (.ref el)) := by
  refine Met.intro pf_16 hEL hX (fun _ q => nomatch q) ?_
  intro p e s m below meth c T W
  refine Goes.cast (show entryFrame m #[] 0 = mkF m 0 #[] [] by first | (simp [entryFrame, mkF, argsToLocals, Value.category]; done) | rfl) ?_
  refine g_getstatic W d_jdk_40_method_36_code_0 (pc' := 3) rfl (hw _ (List.mem_of_getElem? (i := 65) rfl)) Via.refl Se fun T1 W2 => ?_
  exact g_areturn W2 d_jdk_40_method_36_code_3 rfl rfl rfl (Keep.refl h []) ⟨rfl, rfl⟩ (by decide) (by decide)
theorem d_prog_61_method_1_code_0 : decode prog_61_method_1_code 0 = .ok (.aload_n 0, 1) := by decide +kernel
theorem d_prog_61_method_1_code_1 : decode prog_61_method_1_code 1 = .ok (.invokespecial 1, 3) := by decide +kernel
theorem d_prog_61_method_1_code_4 : decode prog_61_method_1_code 4 = .ok (.aload_n 0, 1) := by decide +kernel
theorem d_prog_61_method_1_code_5 : decode prog_61_method_1_code 5 = .ok (.invokestatic 7, 3) := by decide +kernel
theorem pd_8 : parseMethodDescriptor "()Ljava/util/List;" = some ⟨[], some (.object "java/util/List")⟩ := by decide +kernel
theorem d_prog_61_method_1_code_8 : decode prog_61_method_1_code 8 = .ok (.putfield 13, 3) := by decide +kernel
theorem d_prog_61_method_1_code_11 : decode prog_61_method_1_code 11 = .ok (.aload_n 0, 1) := by decide +kernel
theorem d_prog_61_method_1_code_12 : decode prog_61_method_1_code 12 = .ok (.ldc 19, 2) := by decide +kernel
theorem d_prog_61_method_1_code_14 : decode prog_61_method_1_code 14 = .ok (.putfield 21, 3) := by decide +kernel
theorem d_prog_61_method_1_code_17 : decode prog_61_method_1_code 17 = .ok (.aload_n 0, 1) := by decide +kernel
theorem d_prog_61_method_1_code_18 : decode prog_61_method_1_code 18 = .ok (.aload_n 1, 1) := by decide +kernel
theorem d_prog_61_method_1_code_19 : decode prog_61_method_1_code 19 = .ok (.putfield 25, 3) := by decide +kernel
theorem d_prog_61_method_1_code_22 : decode prog_61_method_1_code 22 = .ok (.aload_n 0, 1) := by decide +kernel
theorem d_prog_61_method_1_code_23 : decode prog_61_method_1_code 23 = .ok (.aload_n 2, 1) := by decide +kernel
theorem d_prog_61_method_1_code_24 : decode prog_61_method_1_code 24 = .ok (.putfield 28, 3) := by decide +kernel
theorem d_prog_61_method_1_code_27 : decode prog_61_method_1_code 27 = .ok (.aload_n 0, 1) := by decide +kernel
theorem d_prog_61_method_1_code_28 : decode prog_61_method_1_code 28 = .ok (.aload_n 3, 1) := by decide +kernel
theorem d_prog_61_method_1_code_29 : decode prog_61_method_1_code 29 = .ok (.putfield 31, 3) := by decide +kernel
theorem d_prog_61_method_1_code_32 : decode prog_61_method_1_code 32 = .ok (.aload_n 0, 1) := by decide +kernel
theorem d_prog_61_method_1_code_33 : decode prog_61_method_1_code 33 = .ok (.aload 4, 2) := by decide +kernel
theorem d_prog_61_method_1_code_35 : decode prog_61_method_1_code 35 = .ok (.putfield 34, 3) := by decide +kernel
theorem d_prog_61_method_1_code_38 : decode prog_61_method_1_code 38 = .ok (.aload_n 0, 1) := by decide +kernel
theorem d_prog_61_method_1_code_39 : decode prog_61_method_1_code 39 = .ok (.iload 5, 2) := by decide +kernel
theorem d_prog_61_method_1_code_41 : decode prog_61_method_1_code 41 = .ok (.putfield 37, 3) := by decide +kernel
theorem d_prog_61_method_1_code_44 : decode prog_61_method_1_code 44 = .ok (.return_, 1) := by decide +kernel
theorem pf_17 : plainFor (⟨"com/example/config_into_context/configintocontext/XmlElement", "<init>", "(Ljava/lang/String;Ljava/lang/String;Ljava/lang/String;Ljava/util/List;I)V"⟩ : MethodName) = true := by first | (exact plainFor_of_name (by first | (simp [plainName, overriddenIn]; done) | decide +kernel)) | decide +kernel
set_option maxRecDepth 65536 in
set_option maxHeartbeats 40000000 in
theorem rm_initX {l : Launch} {Z : State} {a0 : Array Value} (hw : ∀ d ∈ tables_1, d.before a0 Z = true) (hEL : EW Z a0 EL1) {zc : Int32} (Sc : Sta Z Z.heap "java/lang/String" "COMPACT_STRINGS" "Z" (.int zc)) (hzc : ¬ zc = 0) (a1 : Addr) (v1 v2 v3 : Value) (l1 : Addr) (p5 : Int32) {el : Addr} (h : Heap) (hX : Ext Z.heap h) (Se : Sta Z Z.heap "java/util/ImmutableCollections" "EMPTY_LIST" "Ljava/util/ImmutableCollections$ListN;" (.ref el)) (r1 : v1.isRef = true) (r2 : v2.isRef = true) (r3 : v3.isRef = true) (g1 : Z.heap.size ≤ a1) (O1 : Obj Z h a1 "com/example/config_into_context/configintocontext/XmlElement" [(("com/example/config_into_context/configintocontext/XmlElement", "children", "Ljava/util/List;"), .null), (("com/example/config_into_context/configintocontext/XmlElement", "text", "Ljava/lang/String;"), .null), (("com/example/config_into_context/configintocontext/XmlElement", "namespace", "Ljava/lang/String;"), .null), (("com/example/config_into_context/configintocontext/XmlElement", "localName", "Ljava/lang/String;"), .null), (("com/example/config_into_context/configintocontext/XmlElement", "name", "Ljava/lang/String;"), .null), (("com/example/config_into_context/configintocontext/XmlElement", "attributes", "Ljava/util/List;"), .null), (("com/example/config_into_context/configintocontext/XmlElement", "line", "I"), (.int 0))]) : Met l Z EL1 NW (⟨"com/example/config_into_context/configintocontext/XmlElement", "<init>", "(Ljava/lang/String;Ljava/lang/String;Ljava/lang/String;Ljava/util/List;I)V"⟩ : MethodName) prog_61_method_1_code 6 none [] ({ frames := 1, cells := 2, slots := 4, locals := 24 } : Room) #[(.ref a1), v1, v2, v3, (.ref l1), (.int p5)] h [a1] (fun v h' => v = none ∧ ∃ a, Obj Z h' a1 "com/example/config_into_context/configintocontext/XmlElement" [(("com/example/config_into_context/configintocontext/XmlElement", "children", "Ljava/util/List;"), (.ref el)), (("com/example/config_into_context/configintocontext/XmlElement", "text", "Ljava/lang/String;"), (.ref a)), (("com/example/config_into_context/configintocontext/XmlElement", "namespace", "Ljava/lang/String;"), v1), (("com/example/config_into_context/configintocontext/XmlElement", "localName", "Ljava/lang/String;"), v2), (("com/example/config_into_context/configintocontext/XmlElement", "name", "Ljava/lang/String;"), v3), (("com/example/config_into_context/configintocontext/XmlElement", "attributes", "Ljava/util/List;"), (.ref l1)), (("com/example/config_into_context/configintocontext/XmlElement", "line", "I"), (.int p5))]) := by
  refine Met.intro pf_17 hEL hX (allS ⟨g1, O1.lt⟩ all0) ?_
  intro p e s m below meth c T W
  refine Goes.cast (show entryFrame m #[(.ref a1), v1, v2, v3, (.ref l1), (.int p5)] 6 = mkF m 0 #[.val (.ref a1), .val v1, .val v2, .val v3, .val (.ref l1), .val (.int p5)] [] by simp [entryFrame, mkF, argsToLocals, cat_ref, cat_int, cat_null, cat_long, Jvm.Free.XT.cat1 r1, Jvm.Free.XT.cat1 r2, Jvm.Free.XT.cat1 r3]) ?_
  refine g_aload_n W d_prog_61_method_1_code_0 (pc' := 1) rfl rfl rfl ?_
  refine g_initO W d_prog_61_method_1_code_1 (pc' := 4) (Wd := 0) rfl (hw _ (List.mem_of_getElem? (i := 60) rfl)) (hw _ (List.mem_of_getElem? (i := 16) rfl)) (hw _ (List.mem_of_getElem? (i := 17) rfl)) rfl rfl (by decide) (by decide) fun T1 W2 => ?_
  refine g_aload_n W2 d_prog_61_method_1_code_4 (pc' := 5) rfl rfl rfl ?_
  refine g_static W2 d_prog_61_method_1_code_5 (pc' := 8) (fr' := []) (argsL := []) (rest := [(.ref a1)]) (Wd := 1) (kc := 0) (ks := 0) rfl (hw _ (List.mem_of_getElem? (i := 61) rfl)) (hw _ (List.mem_of_getElem? (i := 62) rfl)) (hw _ (List.mem_of_getElem? (i := 63) rfl)) (hw _ (List.mem_of_getElem? (i := 64) rfl)) (by decide) rfl rfl (lenOf pd_8 rfl) rfl all0 (by decide) (by decide) (Met.pays (rm_of hw hEL Sc hzc _ W2.ext Se) (hw _ (List.mem_of_getElem? (i := 64) rfl)) (hw _ (List.mem_of_getElem? (i := 63) rfl)) hEL (by decide) (by decide)) fun v8 T3 h5 W4 K6 q7 => ?_
  obtain ⟨rfl, rfl⟩ := q7
  show Goes _ _ _ _ _ _ _ _ _ _ _ T3 (mkF m 8 #[.val (.ref a1), .val v1, .val v2, .val v3, .val (.ref l1), .val (.int p5)] [(.ref el), (.ref a1)])
  refine g_putfield W4 d_prog_61_method_1_code_8 (pc' := 11) (host := "") (ty := (.object "java/util/List")) rfl (Or.inl (hw _ (List.mem_of_getElem? (i := 67) rfl))) Via.refl (O1.get 0 rfl) O1.1 (Or.inl (hw _ (List.mem_of_getElem? (i := 68) rfl))) (hw _ (List.mem_of_getElem? (i := 54) rfl)) (by decide) rfl rfl (List.mem_of_getElem? (i := 0) rfl) fun T9 h11 W10 R12 => ?_
  have O13 : Obj Z h11 a1 "com/example/config_into_context/configintocontext/XmlElement" [(("com/example/config_into_context/configintocontext/XmlElement", "children", "Ljava/util/List;"), (.ref el)), (("com/example/config_into_context/configintocontext/XmlElement", "text", "Ljava/lang/String;"), .null), (("com/example/config_into_context/configintocontext/XmlElement", "namespace", "Ljava/lang/String;"), .null), (("com/example/config_into_context/configintocontext/XmlElement", "localName", "Ljava/lang/String;"), .null), (("com/example/config_into_context/configintocontext/XmlElement", "name", "Ljava/lang/String;"), .null), (("com/example/config_into_context/configintocontext/XmlElement", "attributes", "Ljava/util/List;"), .null), (("com/example/config_into_context/configintocontext/XmlElement", "line", "I"), (.int 0))] := O1.put R12 0 rfl (dis_Xe hw)
  refine g_aload_n W10 d_prog_61_method_1_code_11 (pc' := 12) rfl rfl rfl ?_
  refine g_ldc W10 d_prog_61_method_1_code_12 (pc' := 14) (text := "") (vs := []) (zz := (0 : Int32)) (n := 0) rfl (hw _ (List.mem_of_getElem? (i := 69) rfl)) (wS_of hw) (List.mem_of_getElem? (i := 0) rfl) ⟨by decide +kernel, by decide +kernel⟩ (by decide) (by decide) (by decide +kernel) (by decide) (by decide) (by decide) fun T14 h16 a24 b25 kb23 W15 E17 X18 C19 V20 A21 ne22 => ?_
  have K31 : Keep h11 h16 [] := ((Keep.refl h11 []).ext E17)
  have F32 := O13.mv K31
  refine g_putfield W15 d_prog_61_method_1_code_14 (pc' := 17) (host := "") (ty := (.object "java/lang/String")) rfl (Or.inl (hw _ (List.mem_of_getElem? (i := 70) rfl))) Via.refl (F32.get 1 rfl) F32.1 (Or.inl (hw _ (List.mem_of_getElem? (i := 71) rfl))) (hw _ (List.mem_of_getElem? (i := 54) rfl)) (by decide) rfl rfl (List.mem_of_getElem? (i := 0) rfl) fun T26 h28 W27 R29 => ?_
  have O30 : Obj Z h28 a1 "com/example/config_into_context/configintocontext/XmlElement" [(("com/example/config_into_context/configintocontext/XmlElement", "children", "Ljava/util/List;"), (.ref el)), (("com/example/config_into_context/configintocontext/XmlElement", "text", "Ljava/lang/String;"), (.ref a24)), (("com/example/config_into_context/configintocontext/XmlElement", "namespace", "Ljava/lang/String;"), .null), (("com/example/config_into_context/configintocontext/XmlElement", "localName", "Ljava/lang/String;"), .null), (("com/example/config_into_context/configintocontext/XmlElement", "name", "Ljava/lang/String;"), .null), (("com/example/config_into_context/configintocontext/XmlElement", "attributes", "Ljava/util/List;"), .null), (("com/example/config_into_context/configintocontext/XmlElement", "line", "I"), (.int 0))] := F32.put R29 1 rfl (dis_Xe hw)
  refine g_aload_n W27 d_prog_61_method_1_code_17 (pc' := 18) rfl rfl rfl ?_
  refine g_aload_n W27 d_prog_61_method_1_code_18 (pc' := 19) rfl rfl r1 ?_
  refine g_putfield W27 d_prog_61_method_1_code_19 (pc' := 22) (host := "") (ty := (.object "java/lang/String")) rfl (Or.inl (hw _ (List.mem_of_getElem? (i := 72) rfl))) Via.refl (O30.get 2 rfl) O30.1 (Or.inr ⟨(hw _ (List.mem_of_getElem? (i := 73) rfl)), rfl, rfl⟩) (hw _ (List.mem_of_getElem? (i := 54) rfl)) (by decide) rfl (fits_ref0 rfl r1) (List.mem_of_getElem? (i := 0) rfl) fun T33 h35 W34 R36 => ?_
  have O37 : Obj Z h35 a1 "com/example/config_into_context/configintocontext/XmlElement" [(("com/example/config_into_context/configintocontext/XmlElement", "children", "Ljava/util/List;"), (.ref el)), (("com/example/config_into_context/configintocontext/XmlElement", "text", "Ljava/lang/String;"), (.ref a24)), (("com/example/config_into_context/configintocontext/XmlElement", "namespace", "Ljava/lang/String;"), v1), (("com/example/config_into_context/configintocontext/XmlElement", "localName", "Ljava/lang/String;"), .null), (("com/example/config_into_context/configintocontext/XmlElement", "name", "Ljava/lang/String;"), .null), (("com/example/config_into_context/configintocontext/XmlElement", "attributes", "Ljava/util/List;"), .null), (("com/example/config_into_context/configintocontext/XmlElement", "line", "I"), (.int 0))] := O30.put R36 2 rfl (dis_Xe hw)
  refine g_aload_n W34 d_prog_61_method_1_code_22 (pc' := 23) rfl rfl rfl ?_
  refine g_aload_n W34 d_prog_61_method_1_code_23 (pc' := 24) rfl rfl r2 ?_
  refine g_putfield W34 d_prog_61_method_1_code_24 (pc' := 27) (host := "") (ty := (.object "java/lang/String")) rfl (Or.inl (hw _ (List.mem_of_getElem? (i := 74) rfl))) Via.refl (O37.get 3 rfl) O37.1 (Or.inr ⟨(hw _ (List.mem_of_getElem? (i := 75) rfl)), rfl, rfl⟩) (hw _ (List.mem_of_getElem? (i := 54) rfl)) (by decide) rfl (fits_ref0 rfl r2) (List.mem_of_getElem? (i := 0) rfl) fun T38 h40 W39 R41 => ?_
  have O42 : Obj Z h40 a1 "com/example/config_into_context/configintocontext/XmlElement" [(("com/example/config_into_context/configintocontext/XmlElement", "children", "Ljava/util/List;"), (.ref el)), (("com/example/config_into_context/configintocontext/XmlElement", "text", "Ljava/lang/String;"), (.ref a24)), (("com/example/config_into_context/configintocontext/XmlElement", "namespace", "Ljava/lang/String;"), v1), (("com/example/config_into_context/configintocontext/XmlElement", "localName", "Ljava/lang/String;"), v2), (("com/example/config_into_context/configintocontext/XmlElement", "name", "Ljava/lang/String;"), .null), (("com/example/config_into_context/configintocontext/XmlElement", "attributes", "Ljava/util/List;"), .null), (("com/example/config_into_context/configintocontext/XmlElement", "line", "I"), (.int 0))] := O37.put R41 3 rfl (dis_Xe hw)
  refine g_aload_n W39 d_prog_61_method_1_code_27 (pc' := 28) rfl rfl rfl ?_
  refine g_aload_n W39 d_prog_61_method_1_code_28 (pc' := 29) rfl rfl r3 ?_
  refine g_putfield W39 d_prog_61_method_1_code_29 (pc' := 32) (host := "") (ty := (.object "java/lang/String")) rfl (Or.inl (hw _ (List.mem_of_getElem? (i := 76) rfl))) Via.refl (O42.get 4 rfl) O42.1 (Or.inr ⟨(hw _ (List.mem_of_getElem? (i := 77) rfl)), rfl, rfl⟩) (hw _ (List.mem_of_getElem? (i := 54) rfl)) (by decide) rfl (fits_ref0 rfl r3) (List.mem_of_getElem? (i := 0) rfl) fun T43 h45 W44 R46 => ?_
  have O47 : Obj Z h45 a1 "com/example/config_into_context/configintocontext/XmlElement" [(("com/example/config_into_context/configintocontext/XmlElement", "children", "Ljava/util/List;"), (.ref el)), (("com/example/config_into_context/configintocontext/XmlElement", "text", "Ljava/lang/String;"), (.ref a24)), (("com/example/config_into_context/configintocontext/XmlElement", "namespace", "Ljava/lang/String;"), v1), (("com/example/config_into_context/configintocontext/XmlElement", "localName", "Ljava/lang/String;"), v2), (("com/example/config_into_context/configintocontext/XmlElement", "name", "Ljava/lang/String;"), v3), (("com/example/config_into_context/configintocontext/XmlElement", "attributes", "Ljava/util/List;"), .null), (("com/example/config_into_context/configintocontext/XmlElement", "line", "I"), (.int 0))] := O42.put R46 4 rfl (dis_Xe hw)
  refine g_aload_n W44 d_prog_61_method_1_code_32 (pc' := 33) rfl rfl rfl ?_
  refine g_aload W44 d_prog_61_method_1_code_33 (pc' := 35) rfl rfl rfl ?_
  refine g_putfield W44 d_prog_61_method_1_code_35 (pc' := 38) (host := "") (ty := (.object "java/util/List")) rfl (Or.inl (hw _ (List.mem_of_getElem? (i := 78) rfl))) Via.refl (O47.get 5 rfl) O47.1 (Or.inr ⟨(hw _ (List.mem_of_getElem? (i := 79) rfl)), rfl, rfl⟩) (hw _ (List.mem_of_getElem? (i := 54) rfl)) (by decide) rfl rfl (List.mem_of_getElem? (i := 0) rfl) fun T48 h50 W49 R51 => ?_
  have O52 : Obj Z h50 a1 "com/example/config_into_context/configintocontext/XmlElement" [(("com/example/config_into_context/configintocontext/XmlElement", "children", "Ljava/util/List;"), (.ref el)), (("com/example/config_into_context/configintocontext/XmlElement", "text", "Ljava/lang/String;"), (.ref a24)), (("com/example/config_into_context/configintocontext/XmlElement", "namespace", "Ljava/lang/String;"), v1), (("com/example/config_into_context/configintocontext/XmlElement", "localName", "Ljava/lang/String;"), v2), (("com/example/config_into_context/configintocontext/XmlElement", "name", "Ljava/lang/String;"), v3), (("com/example/config_into_context/configintocontext/XmlElement", "attributes", "Ljava/util/List;"), (.ref l1)), (("com/example/config_into_context/configintocontext/XmlElement", "line", "I"), (.int 0))] := O47.put R51 5 rfl (dis_Xe hw)
  refine g_aload_n W49 d_prog_61_method_1_code_38 (pc' := 39) rfl rfl rfl ?_
  refine g_iload W49 d_prog_61_method_1_code_39 (pc' := 41) rfl rfl ?_
  refine g_putfield W49 d_prog_61_method_1_code_41 (pc' := 44) (host := "") (ty := .int) rfl (Or.inl (hw _ (List.mem_of_getElem? (i := 80) rfl))) Via.refl (O52.get 6 rfl) O52.1 (Or.inr ⟨(hw _ (List.mem_of_getElem? (i := 81) rfl)), rfl, rfl⟩) (hw _ (List.mem_of_getElem? (i := 54) rfl)) (by decide) rfl rfl (List.mem_of_getElem? (i := 0) rfl) fun T53 h55 W54 R56 => ?_
  have O57 : Obj Z h55 a1 "com/example/config_into_context/configintocontext/XmlElement" [(("com/example/config_into_context/configintocontext/XmlElement", "children", "Ljava/util/List;"), (.ref el)), (("com/example/config_into_context/configintocontext/XmlElement", "text", "Ljava/lang/String;"), (.ref a24)), (("com/example/config_into_context/configintocontext/XmlElement", "namespace", "Ljava/lang/String;"), v1), (("com/example/config_into_context/configintocontext/XmlElement", "localName", "Ljava/lang/String;"), v2), (("com/example/config_into_context/configintocontext/XmlElement", "name", "Ljava/lang/String;"), v3), (("com/example/config_into_context/configintocontext/XmlElement", "attributes", "Ljava/util/List;"), (.ref l1)), (("com/example/config_into_context/configintocontext/XmlElement", "line", "I"), (.int p5))] := O52.put R56 6 rfl (dis_Xe hw)
  have K58 : Keep h h55 [a1] := (((((((((Keep.refl h [a1]).wr R12 (Or.inl (List.mem_of_getElem? (i := 0) rfl))).ext E17).wr R29 (Or.inl (List.mem_of_getElem? (i := 0) rfl))).wr R36 (Or.inl (List.mem_of_getElem? (i := 0) rfl))).wr R41 (Or.inl (List.mem_of_getElem? (i := 0) rfl))).wr R46 (Or.inl (List.mem_of_getElem? (i := 0) rfl))).wr R51 (Or.inl (List.mem_of_getElem? (i := 0) rfl))).wr R56 (Or.inl (List.mem_of_getElem? (i := 0) rfl)))
  exact g_return W54 d_prog_61_method_1_code_44 K58 ⟨rfl, _, O57⟩ (by decide) (by decide)
theorem d_prog_61_method_9_code_0 : decode prog_61_method_9_code 0 = .ok (.iconst 0, 1) := by decide +kernel
theorem d_prog_61_method_9_code_1 : decode prog_61_method_9_code 1 = .ok (.istore_n 2, 1) := by decide +kernel
theorem d_prog_61_method_9_code_2 : decode prog_61_method_9_code 2 = .ok (.iload_n 2, 1) := by decide +kernel
theorem d_prog_61_method_9_code_3 : decode prog_61_method_9_code 3 = .ok (.aload_n 0, 1) := by decide +kernel
theorem d_prog_61_method_9_code_4 : decode prog_61_method_9_code 4 = .ok (.getfield 34, 3) := by decide +kernel
theorem pn_0 : plainName "java/util/ArrayList" = true := by first | (simp [plainName, overriddenIn]; done) | decide +kernel
theorem d_jdk_38_method_8_code_0 : decode jdk_38_method_8_code 0 = .ok (.aload_n 0, 1) := by decide +kernel
theorem d_jdk_38_method_8_code_1 : decode jdk_38_method_8_code 1 = .ok (.getfield 48, 3) := by decide +kernel
theorem d_jdk_38_method_8_code_4 : decode jdk_38_method_8_code 4 = .ok (.ireturn, 1) := by decide +kernel
theorem d_prog_61_method_9_code_7 : decode prog_61_method_9_code 7 = .ok (.invokeinterface 45 1, 5) := by decide +kernel
theorem pd_9 : parseMethodDescriptor "()I" = some ⟨[], some .int⟩ := by decide +kernel
theorem d_prog_61_method_9_code_12 : decode prog_61_method_9_code 12 = .ok (.if_icmp .ge 67, 3) := by decide +kernel
theorem d_prog_61_method_9_code_79 : decode prog_61_method_9_code 79 = .ok (.aconst_null, 1) := by decide +kernel
theorem d_prog_61_method_9_code_80 : decode prog_61_method_9_code 80 = .ok (.areturn, 1) := by decide +kernel
theorem pf_18 : plainFor (⟨"com/example/config_into_context/configintocontext/XmlElement", "given", "(Ljava/lang/String;)Ljava/lang/String;"⟩ : MethodName) = true := by first | (exact plainFor_of_name (by first | (simp [plainName, overriddenIn]; done) | decide +kernel)) | decide +kernel
set_option maxRecDepth 65536 in
set_option maxHeartbeats 40000000 in
theorem rm_given0 {l : Launch} {Z : State} {a0 : Array Value} (hw : ∀ d ∈ tables_1, d.before a0 Z = true) (hEL : EW Z a0 EL1) {zc : Int32} (Sc : Sta Z Z.heap "java/lang/String" "COMPACT_STRINGS" "Z" (.int zc)) (hzc : ¬ zc = 0) (a1 q : Addr) (csq : List Int32) (l1 d : Addr) (k : ClassId)   (h : Heap) (hX : Ext Z.heap h) (Fa : Fld Z h a1 "com/example/config_into_context/configintocontext/XmlElement" "attributes" "Ljava/util/List;" (.ref l1)) (Ol : Obj Z h l1 "java/util/ArrayList" [(("java/util/AbstractList", "modCount", "I"), (.int (0 : Int32))), (("java/util/ArrayList", "elementData", "[Ljava/lang/Object;"), (.ref d)), (("java/util/ArrayList", "size", "I"), (.int (0 : Int32)))]) (Sq : Str Z h q csq)  : Met l Z EL1 NW (⟨"com/example/config_into_context/configintocontext/XmlElement", "given", "(Ljava/lang/String;)Ljava/lang/String;"⟩ : MethodName) prog_61_method_9_code 4 (some (.object "java/lang/String")) [] ({ frames := 4, cells := 0, slots := 0, locals := 130 } : Room) #[(.ref a1), (.ref q)] h [] (fun v h' => h = h' ∧ v = some (.null : Value)) := by
  refine Met.intro pf_18 hEL hX (fun _ q => nomatch q) ?_
  intro p e s m below meth c T W
  refine Goes.cast (show entryFrame m #[(.ref a1), (.ref q)] 4 = mkF m 0 #[.val (.ref a1), .val (.ref q), .unset, .unset] [] by first | (simp [entryFrame, mkF, argsToLocals, Value.category]; done) | rfl) ?_
  refine g_iconst W d_prog_61_method_9_code_0 (pc' := 1) (v := (0 : Int32)) rfl rfl ?_
  refine g_istore_n W d_prog_61_method_9_code_1 (pc' := 2) (L' := #[.val (.ref a1), .val (.ref q), .val (.int (0 : Int32)), .unset]) rfl rfl ?_
  refine g_iload_n W d_prog_61_method_9_code_2 (pc' := 3) rfl rfl ?_
  refine g_aload_n W d_prog_61_method_9_code_3 (pc' := 4) rfl rfl rfl ?_
  refine g_getfield W d_prog_61_method_9_code_4 (pc' := 7) (host := "") rfl (Or.inl (hw _ (List.mem_of_getElem? (i := 78) rfl))) Via.refl Fa fun T1 W2 => ?_
  refine g_interface W2 d_prog_61_method_9_code_7 (pc' := 12) (a := l1) (fr' := []) (argsL := []) (rest := [(.int (0 : Int32))]) (Wd := 1) (kc := 0) (ks := 0) rfl (hw _ (List.mem_of_getElem? (i := 87) rfl)) (hw _ (List.mem_of_getElem? (i := 88) rfl)) (hw _ (List.mem_of_getElem? (i := 89) rfl)) (hw _ (List.mem_of_getElem? (i := 90) rfl)) (hw _ (List.mem_of_getElem? (i := 91) rfl)) (hw _ (List.mem_of_getElem? (i := 92) rfl)) (hw _ (List.mem_of_getElem? (i := 93) rfl)) (hw _ (List.mem_of_getElem? (i := 94) rfl)) rfl (by decide) Ol.1 rfl rfl (lenOf pd_9 rfl) rfl all0 (by decide) (by decide) (Met.pays (met_getter (rm := ({ frames := 0, cells := 0, slots := 0, locals := 0 } : Room)) (plainFor_of_name pn_0) hEL W2.ext d_jdk_38_method_8_code_0 d_jdk_38_method_8_code_1 (hw _ (List.mem_of_getElem? (i := 96) rfl)) (Ol.get 2 rfl) (Or.inr ⟨d_jdk_38_method_8_code_4, by decide, rfl, _, rfl⟩)) (hw _ (List.mem_of_getElem? (i := 95) rfl)) (hw _ (List.mem_of_getElem? (i := 31) rfl)) hEL (by decide) (by decide)) fun v8 T3 h5 W4 K6 q7 => ?_
  obtain ⟨rfl, rfl⟩ := q7
  show Goes _ _ _ _ _ _ _ _ _ _ _ T3 (mkF m 12 #[.val (.ref a1), .val (.ref q), .val (.int (0 : Int32)), .unset] [(.int (0 : Int32)), (.int (0 : Int32))])
  refine g_icmpY W4 d_prog_61_method_9_code_12 (pc' := 79) (by decide) (by decide) (Jvm.Free.XT.ii_ge_t (by decide)) ?_
  refine g_aconst_null W4 d_prog_61_method_9_code_79 (pc' := 80) rfl ?_
  exact g_areturn W4 d_prog_61_method_9_code_80 rfl rfl rfl (Keep.refl h []) ⟨rfl, by simp []⟩ (by decide) (by decide)
theorem d_prog_61_method_9_code_73 : decode prog_61_method_9_code 73 = .ok (.iinc 2 1, 3) := by decide +kernel
theorem d_prog_61_method_9_code_76 : decode prog_61_method_9_code 76 = .ok (.goto (-74), 3) := by decide +kernel
theorem d_prog_61_method_9_code_15 : decode prog_61_method_9_code 15 = .ok (.aload_n 0, 1) := by decide +kernel
theorem d_prog_61_method_9_code_16 : decode prog_61_method_9_code 16 = .ok (.getfield 34, 3) := by decide +kernel
theorem d_prog_61_method_9_code_19 : decode prog_61_method_9_code 19 = .ok (.iload_n 2, 1) := by decide +kernel
theorem d_prog_61_method_9_code_20 : decode prog_61_method_9_code 20 = .ok (.invokeinterface 49 2, 5) := by decide +kernel
theorem d_prog_61_method_9_code_25 : decode prog_61_method_9_code 25 = .ok (.checkcast 53, 3) := by decide +kernel
theorem d_prog_62_method_7_code_4 : decode prog_62_method_7_code 4 = .ok (.areturn, 1) := by decide +kernel
theorem pn_1 : plainName "com/example/config_into_context/configintocontext/XmlElement$Attribute" = true := by first | (simp [plainName, overriddenIn]; done) | decide +kernel
theorem d_prog_62_method_7_code_0 : decode prog_62_method_7_code 0 = .ok (.aload_n 0, 1) := by decide +kernel
theorem d_prog_62_method_7_code_1 : decode prog_62_method_7_code 1 = .ok (.getfield 16, 3) := by decide +kernel
theorem d_prog_61_method_9_code_28 : decode prog_61_method_9_code 28 = .ok (.invokevirtual 55, 3) := by decide +kernel
theorem pd_10 : parseMethodDescriptor "()Ljava/lang/String;" = some ⟨[], some (.object "java/lang/String")⟩ := by decide +kernel
theorem d_prog_61_method_9_code_31 : decode prog_61_method_9_code 31 = .ok (.astore_n 3, 1) := by decide +kernel
theorem d_prog_61_method_9_code_32 : decode prog_61_method_9_code 32 = .ok (.aload_n 3, 1) := by decide +kernel
theorem d_prog_61_method_9_code_33 : decode prog_61_method_9_code 33 = .ok (.aload_n 1, 1) := by decide +kernel
theorem d_prog_61_method_9_code_34 : decode prog_61_method_9_code 34 = .ok (.if_acmp .eq 22, 3) := by decide +kernel
theorem d_prog_61_method_9_code_56 : decode prog_61_method_9_code 56 = .ok (.aload_n 0, 1) := by decide +kernel
theorem d_prog_61_method_9_code_57 : decode prog_61_method_9_code 57 = .ok (.getfield 34, 3) := by decide +kernel
theorem d_prog_61_method_9_code_60 : decode prog_61_method_9_code 60 = .ok (.iload_n 2, 1) := by decide +kernel
theorem d_prog_61_method_9_code_61 : decode prog_61_method_9_code 61 = .ok (.invokeinterface 49 2, 5) := by decide +kernel
theorem d_prog_61_method_9_code_66 : decode prog_61_method_9_code 66 = .ok (.checkcast 53, 3) := by decide +kernel
theorem d_prog_62_method_8_code_4 : decode prog_62_method_8_code 4 = .ok (.areturn, 1) := by decide +kernel
theorem d_prog_62_method_8_code_0 : decode prog_62_method_8_code 0 = .ok (.aload_n 0, 1) := by decide +kernel
theorem d_prog_62_method_8_code_1 : decode prog_62_method_8_code 1 = .ok (.getfield 19, 3) := by decide +kernel
theorem d_prog_61_method_9_code_69 : decode prog_61_method_9_code 69 = .ok (.invokevirtual 67, 3) := by decide +kernel
theorem d_prog_61_method_9_code_72 : decode prog_61_method_9_code 72 = .ok (.areturn, 1) := by decide +kernel
theorem d_prog_61_method_9_code_37 : decode prog_61_method_9_code 37 = .ok (.aload_n 3, 1) := by decide +kernel
theorem d_prog_61_method_9_code_38 : decode prog_61_method_9_code 38 = .ok (.invokevirtual 58, 3) := by decide +kernel
theorem d_prog_61_method_9_code_41 : decode prog_61_method_9_code 41 = .ok (.aload_n 1, 1) := by decide +kernel
theorem d_prog_61_method_9_code_42 : decode prog_61_method_9_code 42 = .ok (.invokevirtual 58, 3) := by decide +kernel
theorem d_prog_61_method_9_code_45 : decode prog_61_method_9_code 45 = .ok (.if_icmp .ne 28, 3) := by decide +kernel
theorem d_prog_61_method_9_code_48 : decode prog_61_method_9_code 48 = .ok (.aload_n 3, 1) := by decide +kernel
theorem d_prog_61_method_9_code_49 : decode prog_61_method_9_code 49 = .ok (.aload_n 1, 1) := by decide +kernel
theorem d_prog_61_method_9_code_50 : decode prog_61_method_9_code 50 = .ok (.invokevirtual 63, 3) := by decide +kernel
theorem pd_11 : parseMethodDescriptor "(Ljava/lang/Object;)Z" = some ⟨[(.object "java/lang/Object")], some .boolean⟩ := by decide +kernel
theorem d_prog_61_method_9_code_53 : decode prog_61_method_9_code 53 = .ok (.ifCond .eq 20, 3) := by decide +kernel
set_option maxRecDepth 65536 in
set_option maxHeartbeats 40000000 in
theorem rm_given1 {l : Launch} {Z : State} {a0 : Array Value} (hw : ∀ d ∈ tables_1, d.before a0 Z = true) (hEL : EW Z a0 EL1) {zc : Int32} (Sc : Sta Z Z.heap "java/lang/String" "COMPACT_STRINGS" "Z" (.int zc)) (hzc : ¬ zc = 0) (a1 q : Addr) (csq : List Int32) (l1 d : Addr) (k : ClassId) (e0 x0 u0 : Addr) (y0 : Value) (cs0 : List Int32) (h : Heap) (hX : Ext Z.heap h) (Fa : Fld Z h a1 "com/example/config_into_context/configintocontext/XmlElement" "attributes" "Ljava/util/List;" (.ref l1)) (Ol : Obj Z h l1 "java/util/ArrayList" [(("java/util/AbstractList", "modCount", "I"), (.int (1 : Int32))), (("java/util/ArrayList", "elementData", "[Ljava/lang/Object;"), (.ref d)), (("java/util/ArrayList", "size", "I"), (.int (1 : Int32)))]) (Ad1 : Arv Z h d k (.object "java/lang/Object") (10 : Int32) [.ref e0, .null, .null, .null, .null, .null, .null, .null, .null, .null] .null) (Oe0 : Obj Z h e0 "com/example/config_into_context/configintocontext/XmlElement$Attribute" [(("com/example/config_into_context/configintocontext/XmlElement$Attribute", "namespace", "Ljava/lang/String;"), .null), (("com/example/config_into_context/configintocontext/XmlElement$Attribute", "localName", "Ljava/lang/String;"), y0), (("com/example/config_into_context/configintocontext/XmlElement$Attribute", "name", "Ljava/lang/String;"), (.ref x0)), (("com/example/config_into_context/configintocontext/XmlElement$Attribute", "value", "Ljava/lang/String;"), (.ref u0))]) (Sq : Str Z h q csq) (S0 : Str Z h x0 cs0) : Met l Z EL1 NW (⟨"com/example/config_into_context/configintocontext/XmlElement", "given", "(Ljava/lang/String;)Ljava/lang/String;"⟩ : MethodName) prog_61_method_9_code 4 (some (.object "java/lang/String")) [] ({ frames := 4, cells := 0, slots := 0, locals := 130 } : Room) #[(.ref a1), (.ref q)] h [] (fun v h' => h = h' ∧ v = some (if cs0 = csq then .ref u0 else .null : Value)) := by
  refine Met.intro pf_18 hEL hX (fun _ q => nomatch q) ?_
  intro p e s m below meth c T W
  refine Goes.cast (show entryFrame m #[(.ref a1), (.ref q)] 4 = mkF m 0 #[.val (.ref a1), .val (.ref q), .unset, .unset] [] by first | (simp [entryFrame, mkF, argsToLocals, Value.category]; done) | rfl) ?_
  refine g_iconst W d_prog_61_method_9_code_0 (pc' := 1) (v := (0 : Int32)) rfl rfl ?_
  refine g_istore_n W d_prog_61_method_9_code_1 (pc' := 2) (L' := #[.val (.ref a1), .val (.ref q), .val (.int (0 : Int32)), .unset]) rfl rfl ?_
  refine g_iload_n W d_prog_61_method_9_code_2 (pc' := 3) rfl rfl ?_
  refine g_aload_n W d_prog_61_method_9_code_3 (pc' := 4) rfl rfl rfl ?_
  refine g_getfield W d_prog_61_method_9_code_4 (pc' := 7) (host := "") rfl (Or.inl (hw _ (List.mem_of_getElem? (i := 78) rfl))) Via.refl Fa fun T1 W2 => ?_
  refine g_interface W2 d_prog_61_method_9_code_7 (pc' := 12) (a := l1) (fr' := []) (argsL := []) (rest := [(.int (0 : Int32))]) (Wd := 1) (kc := 0) (ks := 0) rfl (hw _ (List.mem_of_getElem? (i := 87) rfl)) (hw _ (List.mem_of_getElem? (i := 88) rfl)) (hw _ (List.mem_of_getElem? (i := 89) rfl)) (hw _ (List.mem_of_getElem? (i := 90) rfl)) (hw _ (List.mem_of_getElem? (i := 91) rfl)) (hw _ (List.mem_of_getElem? (i := 92) rfl)) (hw _ (List.mem_of_getElem? (i := 93) rfl)) (hw _ (List.mem_of_getElem? (i := 94) rfl)) rfl (by decide) Ol.1 rfl rfl (lenOf pd_9 rfl) rfl all0 (by decide) (by decide) (Met.pays (met_getter (rm := ({ frames := 0, cells := 0, slots := 0, locals := 0 } : Room)) (plainFor_of_name pn_0) hEL W2.ext d_jdk_38_method_8_code_0 d_jdk_38_method_8_code_1 (hw _ (List.mem_of_getElem? (i := 96) rfl)) (Ol.get 2 rfl) (Or.inr ⟨d_jdk_38_method_8_code_4, by decide, rfl, _, rfl⟩)) (hw _ (List.mem_of_getElem? (i := 95) rfl)) (hw _ (List.mem_of_getElem? (i := 31) rfl)) hEL (by decide) (by decide)) fun v8 T3 h5 W4 K6 q7 => ?_
  obtain ⟨rfl, rfl⟩ := q7
  show Goes _ _ _ _ _ _ _ _ _ _ _ T3 (mkF m 12 #[.val (.ref a1), .val (.ref q), .val (.int (0 : Int32)), .unset] [(.int (1 : Int32)), (.int (0 : Int32))])
  refine g_icmpN W4 d_prog_61_method_9_code_12 (pc' := 15) rfl (Jvm.Free.XT.ii_ge_f (by decide)) ?_
  have N0 : ¬ cs0 = csq → ∀ T', Wk p l e ({ frames := 4, cells := 0, slots := 0, locals := 130 } : Room) s m #[(.ref a1), (.ref q)] below meth c (⟨"com/example/config_into_context/configintocontext/XmlElement", "given", "(Ljava/lang/String;)Ljava/lang/String;"⟩ : MethodName) prog_61_method_9_code 4 (some (.object "java/lang/String")) Z a0 EL1 NW h T' h [] 0 0 → Goes p e below s Z EL1 NW h [] (fun v h' => h = h' ∧ v = some (if cs0 = csq then .ref u0 else .null : Value)) ({ frames := 4, cells := 0, slots := 0, locals := 130 } : Room) T' (mkF m 73 #[.val (.ref a1), .val (.ref q), .val (.int (0 : Int32)), .val (.ref x0)] []) := by
    intro nq0 T' W'
    refine g_iinc W' d_prog_61_method_9_code_73 (pc' := 76) (v := (1 : Int32)) (L' := #[.val (.ref a1), .val (.ref q), .val (.int ((0 : Int32) + (1 : Int32))), .val (.ref x0)]) rfl rfl rfl rfl ?_
    show Goes _ _ _ _ _ _ _ _ _ _ _ T' (mkF m 76 #[.val (.ref a1), .val (.ref q), .val (.int (1 : Int32)), .val (.ref x0)] [])
    refine g_goto W' d_prog_61_method_9_code_76 (pc' := 2) (by decide) (by decide) ?_
    refine g_iload_n W' d_prog_61_method_9_code_2 (pc' := 3) rfl rfl ?_
    refine g_aload_n W' d_prog_61_method_9_code_3 (pc' := 4) rfl rfl rfl ?_
    refine g_getfield W' d_prog_61_method_9_code_4 (pc' := 7) (host := "") rfl (Or.inl (hw _ (List.mem_of_getElem? (i := 78) rfl))) Via.refl Fa fun T9 W10 => ?_
    refine g_interface W10 d_prog_61_method_9_code_7 (pc' := 12) (a := l1) (fr' := []) (argsL := []) (rest := [(.int (1 : Int32))]) (Wd := 1) (kc := 0) (ks := 0) rfl (hw _ (List.mem_of_getElem? (i := 87) rfl)) (hw _ (List.mem_of_getElem? (i := 88) rfl)) (hw _ (List.mem_of_getElem? (i := 89) rfl)) (hw _ (List.mem_of_getElem? (i := 90) rfl)) (hw _ (List.mem_of_getElem? (i := 91) rfl)) (hw _ (List.mem_of_getElem? (i := 92) rfl)) (hw _ (List.mem_of_getElem? (i := 93) rfl)) (hw _ (List.mem_of_getElem? (i := 94) rfl)) rfl (by decide) Ol.1 rfl rfl (lenOf pd_9 rfl) rfl all0 (by decide) (by decide) (Met.pays (met_getter (rm := ({ frames := 0, cells := 0, slots := 0, locals := 0 } : Room)) (plainFor_of_name pn_0) hEL W10.ext d_jdk_38_method_8_code_0 d_jdk_38_method_8_code_1 (hw _ (List.mem_of_getElem? (i := 96) rfl)) (Ol.get 2 rfl) (Or.inr ⟨d_jdk_38_method_8_code_4, by decide, rfl, _, rfl⟩)) (hw _ (List.mem_of_getElem? (i := 95) rfl)) (hw _ (List.mem_of_getElem? (i := 31) rfl)) hEL (by decide) (by decide)) fun v16 T11 h13 W12 K14 q15 => ?_
    obtain ⟨rfl, rfl⟩ := q15
    show Goes _ _ _ _ _ _ _ _ _ _ _ T11 (mkF m 12 #[.val (.ref a1), .val (.ref q), .val (.int (1 : Int32)), .val (.ref x0)] [(.int (1 : Int32)), (.int (1 : Int32))])
    refine g_icmpY W12 d_prog_61_method_9_code_12 (pc' := 79) (by decide) (by decide) (Jvm.Free.XT.ii_ge_t (by decide)) ?_
    refine g_aconst_null W12 d_prog_61_method_9_code_79 (pc' := 80) rfl ?_
    exact g_areturn W12 d_prog_61_method_9_code_80 rfl rfl rfl (Keep.refl h []) ⟨rfl, by simp [nq0]⟩ (by decide) (by decide)
  refine g_aload_n W4 d_prog_61_method_9_code_15 (pc' := 16) rfl rfl rfl ?_
  refine g_getfield W4 d_prog_61_method_9_code_16 (pc' := 19) (host := "") rfl (Or.inl (hw _ (List.mem_of_getElem? (i := 78) rfl))) Via.refl Fa fun T17 W18 => ?_
  refine g_iload_n W18 d_prog_61_method_9_code_19 (pc' := 20) rfl rfl ?_
  refine g_interface W18 d_prog_61_method_9_code_20 (pc' := 25) (a := l1) (fr' := []) (argsL := [(.int (0 : Int32))]) (rest := []) (Wd := 0) (kc := 0) (ks := 0) rfl (hw _ (List.mem_of_getElem? (i := 147) rfl)) (hw _ (List.mem_of_getElem? (i := 148) rfl)) (hw _ (List.mem_of_getElem? (i := 149) rfl)) (hw _ (List.mem_of_getElem? (i := 150) rfl)) (hw _ (List.mem_of_getElem? (i := 151) rfl)) (hw _ (List.mem_of_getElem? (i := 152) rfl)) (hw _ (List.mem_of_getElem? (i := 153) rfl)) (hw _ (List.mem_of_getElem? (i := 94) rfl)) rfl (by decide) Ol.1 rfl rfl (lenOf pd_7 rfl) rfl all0 (by decide) (by decide) (Met.pays (rm_get hw hEL Sc hzc l1 d k (1 : Int32) (1 : Int32) (10 : Int32) (0 : Int32) _ (.ref e0) _ W18.ext Ol Ad1 (by decide) (by decide) rfl rfl) (hw _ (List.mem_of_getElem? (i := 154) rfl)) (hw _ (List.mem_of_getElem? (i := 31) rfl)) hEL (by decide) (by decide)) fun v24 T19 h21 W20 K22 q23 => ?_
  obtain ⟨rfl, rfl⟩ := q23
  show Goes _ _ _ _ _ _ _ _ _ _ _ T19 (mkF m 25 #[.val (.ref a1), .val (.ref q), .val (.int (0 : Int32)), .unset] [(.ref e0)])
  refine g_checkcast W20 d_prog_61_method_9_code_25 (pc' := 28) rfl (hw _ (List.mem_of_getElem? (i := 168) rfl)) (Ins.of_exa Oe0.1 (hw _ (List.mem_of_getElem? (i := 169) rfl))) fun T25 W26 => ?_
  refine g_virtual W26 d_prog_61_method_9_code_28 (pc' := 31) (a := e0) (fr' := []) (argsL := []) (rest := []) (Wd := 0) (kc := 0) (ks := 0) rfl (hw _ (List.mem_of_getElem? (i := 170) rfl)) (hw _ (List.mem_of_getElem? (i := 171) rfl)) (hw _ (List.mem_of_getElem? (i := 173) rfl)) (hw _ (List.mem_of_getElem? (i := 172) rfl)) (by decide) Oe0.1 rfl rfl (lenOf pd_10 rfl) rfl all0 (by decide) (by decide) (Met.pays (met_getter (rm := ({ frames := 0, cells := 0, slots := 0, locals := 0 } : Room)) (plainFor_of_name pn_1) hEL W26.ext d_prog_62_method_7_code_0 d_prog_62_method_7_code_1 (hw _ (List.mem_of_getElem? (i := 114) rfl)) (Oe0.get 2 rfl) (Or.inl ⟨d_prog_62_method_7_code_4, rfl, rfl⟩)) (hw _ (List.mem_of_getElem? (i := 174) rfl)) (hw _ (List.mem_of_getElem? (i := 100) rfl)) hEL (by decide) (by decide)) fun v32 T27 h29 W28 K30 q31 => ?_
  obtain ⟨rfl, rfl⟩ := q31
  show Goes _ _ _ _ _ _ _ _ _ _ _ T27 (mkF m 31 #[.val (.ref a1), .val (.ref q), .val (.int (0 : Int32)), .unset] [(.ref x0)])
  refine g_astore_n W28 d_prog_61_method_9_code_31 (pc' := 32) (L' := #[.val (.ref a1), .val (.ref q), .val (.int (0 : Int32)), .val (.ref x0)]) rfl rfl rfl ?_
  refine g_aload_n W28 d_prog_61_method_9_code_32 (pc' := 33) rfl rfl rfl ?_
  refine g_aload_n W28 d_prog_61_method_9_code_33 (pc' := 34) rfl rfl rfl ?_
  by_cases c33 : x0 = q
  · refine g_acmpY W28 d_prog_61_method_9_code_34 (pc' := 56) (by decide) (by decide) rfl rfl (Jvm.Free.XT.aa_eq_t (congrArg Value.ref c33)) ?_
    have ec33 : cs0 = csq := Str.uniq S0 (c33 ▸ Sq)
    refine g_aload_n W28 d_prog_61_method_9_code_56 (pc' := 57) rfl rfl rfl ?_
    refine g_getfield W28 d_prog_61_method_9_code_57 (pc' := 60) (host := "") rfl (Or.inl (hw _ (List.mem_of_getElem? (i := 78) rfl))) Via.refl Fa fun T34 W35 => ?_
    refine g_iload_n W35 d_prog_61_method_9_code_60 (pc' := 61) rfl rfl ?_
    refine g_interface W35 d_prog_61_method_9_code_61 (pc' := 66) (a := l1) (fr' := []) (argsL := [(.int (0 : Int32))]) (rest := []) (Wd := 0) (kc := 0) (ks := 0) rfl (hw _ (List.mem_of_getElem? (i := 147) rfl)) (hw _ (List.mem_of_getElem? (i := 148) rfl)) (hw _ (List.mem_of_getElem? (i := 149) rfl)) (hw _ (List.mem_of_getElem? (i := 150) rfl)) (hw _ (List.mem_of_getElem? (i := 151) rfl)) (hw _ (List.mem_of_getElem? (i := 152) rfl)) (hw _ (List.mem_of_getElem? (i := 153) rfl)) (hw _ (List.mem_of_getElem? (i := 94) rfl)) rfl (by decide) Ol.1 rfl rfl (lenOf pd_7 rfl) rfl all0 (by decide) (by decide) (Met.pays (rm_get hw hEL Sc hzc l1 d k (1 : Int32) (1 : Int32) (10 : Int32) (0 : Int32) _ (.ref e0) _ W35.ext Ol Ad1 (by decide) (by decide) rfl rfl) (hw _ (List.mem_of_getElem? (i := 154) rfl)) (hw _ (List.mem_of_getElem? (i := 31) rfl)) hEL (by decide) (by decide)) fun v41 T36 h38 W37 K39 q40 => ?_
    obtain ⟨rfl, rfl⟩ := q40
    show Goes _ _ _ _ _ _ _ _ _ _ _ T36 (mkF m 66 #[.val (.ref a1), .val (.ref q), .val (.int (0 : Int32)), .val (.ref x0)] [(.ref e0)])
    refine g_checkcast W37 d_prog_61_method_9_code_66 (pc' := 69) rfl (hw _ (List.mem_of_getElem? (i := 168) rfl)) (Ins.of_exa Oe0.1 (hw _ (List.mem_of_getElem? (i := 169) rfl))) fun T42 W43 => ?_
    refine g_virtual W43 d_prog_61_method_9_code_69 (pc' := 72) (a := e0) (fr' := []) (argsL := []) (rest := []) (Wd := 0) (kc := 0) (ks := 0) rfl (hw _ (List.mem_of_getElem? (i := 196) rfl)) (hw _ (List.mem_of_getElem? (i := 197) rfl)) (hw _ (List.mem_of_getElem? (i := 199) rfl)) (hw _ (List.mem_of_getElem? (i := 198) rfl)) (by decide) Oe0.1 rfl rfl (lenOf pd_10 rfl) rfl all0 (by decide) (by decide) (Met.pays (met_getter (rm := ({ frames := 0, cells := 0, slots := 0, locals := 0 } : Room)) (plainFor_of_name pn_1) hEL W43.ext d_prog_62_method_8_code_0 d_prog_62_method_8_code_1 (hw _ (List.mem_of_getElem? (i := 116) rfl)) (Oe0.get 3 rfl) (Or.inl ⟨d_prog_62_method_8_code_4, rfl, rfl⟩)) (hw _ (List.mem_of_getElem? (i := 200) rfl)) (hw _ (List.mem_of_getElem? (i := 100) rfl)) hEL (by decide) (by decide)) fun v49 T44 h46 W45 K47 q48 => ?_
    obtain ⟨rfl, rfl⟩ := q48
    show Goes _ _ _ _ _ _ _ _ _ _ _ T44 (mkF m 72 #[.val (.ref a1), .val (.ref q), .val (.int (0 : Int32)), .val (.ref x0)] [(.ref u0)])
    exact g_areturn W45 d_prog_61_method_9_code_72 rfl rfl rfl (Keep.refl h []) ⟨rfl, by simp [ec33]⟩ (by decide) (by decide)
  · refine g_acmpN W28 d_prog_61_method_9_code_34 (pc' := 37) rfl rfl rfl (Jvm.Free.XT.aa_eq_f (fun z => c33 (Value.ref.inj z))) ?_
    refine g_aload_n W28 d_prog_61_method_9_code_37 (pc' := 38) rfl rfl rfl ?_
    refine g_virtual W28 d_prog_61_method_9_code_38 (pc' := 41) (a := x0) (fr' := []) (argsL := []) (rest := []) (Wd := 0) (kc := 0) (ks := 0) rfl (hw _ (List.mem_of_getElem? (i := 175) rfl)) (hw _ (List.mem_of_getElem? (i := 176) rfl)) (hw _ (List.mem_of_getElem? (i := 178) rfl)) (hw _ (List.mem_of_getElem? (i := 177) rfl)) (by decide) S0.exa rfl rfl (lenOf pd_9 rfl) rfl all0 (by decide) (by decide) (pays_len hEL (fun d hd => hw d ((by decide +kernel : ∀ d ∈ StrChars.Road.wordsLen, d ∈ tables_1) d hd)) (hw _ (List.mem_of_getElem? (i := 5) rfl)) S0 Sc hzc W28.ext (by decide) (by decide)) fun v55 T50 h52 W51 K53 q54 => ?_
    obtain ⟨rfl, rfl⟩ := q54
    show Goes _ _ _ _ _ _ _ _ _ _ _ T50 (mkF m 41 #[.val (.ref a1), .val (.ref q), .val (.int (0 : Int32)), .val (.ref x0)] [(.int (Int32.ofNat cs0.length))])
    refine g_aload_n W51 d_prog_61_method_9_code_41 (pc' := 42) rfl rfl rfl ?_
    refine g_virtual W51 d_prog_61_method_9_code_42 (pc' := 45) (a := q) (fr' := []) (argsL := []) (rest := [(.int (Int32.ofNat cs0.length))]) (Wd := 1) (kc := 0) (ks := 0) rfl (hw _ (List.mem_of_getElem? (i := 175) rfl)) (hw _ (List.mem_of_getElem? (i := 176) rfl)) (hw _ (List.mem_of_getElem? (i := 178) rfl)) (hw _ (List.mem_of_getElem? (i := 177) rfl)) (by decide) Sq.exa rfl rfl (lenOf pd_9 rfl) rfl all0 (by decide) (by decide) (pays_len hEL (fun d hd => hw d ((by decide +kernel : ∀ d ∈ StrChars.Road.wordsLen, d ∈ tables_1) d hd)) (hw _ (List.mem_of_getElem? (i := 5) rfl)) Sq Sc hzc W51.ext (by decide) (by decide)) fun v61 T56 h58 W57 K59 q60 => ?_
    obtain ⟨rfl, rfl⟩ := q60
    show Goes _ _ _ _ _ _ _ _ _ _ _ T56 (mkF m 45 #[.val (.ref a1), .val (.ref q), .val (.int (0 : Int32)), .val (.ref x0)] [(.int (Int32.ofNat csq.length)), (.int (Int32.ofNat cs0.length))])
    by_cases c62 : (Int32.ofNat cs0.length) = (Int32.ofNat csq.length)
    · refine g_icmpN W57 d_prog_61_method_9_code_45 (pc' := 48) rfl (Jvm.Free.XT.ii_ne_f c62) ?_
      refine g_aload_n W57 d_prog_61_method_9_code_48 (pc' := 49) rfl rfl rfl ?_
      refine g_aload_n W57 d_prog_61_method_9_code_49 (pc' := 50) rfl rfl rfl ?_
      refine g_virtual W57 d_prog_61_method_9_code_50 (pc' := 53) (a := x0) (fr' := []) (argsL := [(.ref q)]) (rest := []) (Wd := 0) (kc := 0) (ks := 0) rfl (hw _ (List.mem_of_getElem? (i := 186) rfl)) (hw _ (List.mem_of_getElem? (i := 187) rfl)) (hw _ (List.mem_of_getElem? (i := 189) rfl)) (hw _ (List.mem_of_getElem? (i := 188) rfl)) (by decide) S0.exa rfl rfl (lenOf pd_11 rfl) rfl all0 (by decide) (by decide) (pays_eq hEL (fun d hd => hw d ((by decide +kernel : ∀ d ∈ StrChars.Road.wordsEq, d ∈ tables_1) d hd)) (hw _ (List.mem_of_getElem? (i := 5) rfl)) S0 Sq Sc hzc W57.ext (by decide) (by decide)) fun v68 T63 h65 W64 K66 q67 => ?_
      obtain ⟨rfl, ⟨rfl, c69⟩ | ⟨rfl, c69⟩⟩ := q67
      · refine g_ifN W64 d_prog_61_method_9_code_53 (pc' := 56) rfl (Jvm.Free.XT.i0_eq_f (by decide)) ?_
        refine g_aload_n W64 d_prog_61_method_9_code_56 (pc' := 57) rfl rfl rfl ?_
        refine g_getfield W64 d_prog_61_method_9_code_57 (pc' := 60) (host := "") rfl (Or.inl (hw _ (List.mem_of_getElem? (i := 78) rfl))) Via.refl Fa fun T70 W71 => ?_
        refine g_iload_n W71 d_prog_61_method_9_code_60 (pc' := 61) rfl rfl ?_
        refine g_interface W71 d_prog_61_method_9_code_61 (pc' := 66) (a := l1) (fr' := []) (argsL := [(.int (0 : Int32))]) (rest := []) (Wd := 0) (kc := 0) (ks := 0) rfl (hw _ (List.mem_of_getElem? (i := 147) rfl)) (hw _ (List.mem_of_getElem? (i := 148) rfl)) (hw _ (List.mem_of_getElem? (i := 149) rfl)) (hw _ (List.mem_of_getElem? (i := 150) rfl)) (hw _ (List.mem_of_getElem? (i := 151) rfl)) (hw _ (List.mem_of_getElem? (i := 152) rfl)) (hw _ (List.mem_of_getElem? (i := 153) rfl)) (hw _ (List.mem_of_getElem? (i := 94) rfl)) rfl (by decide) Ol.1 rfl rfl (lenOf pd_7 rfl) rfl all0 (by decide) (by decide) (Met.pays (rm_get hw hEL Sc hzc l1 d k (1 : Int32) (1 : Int32) (10 : Int32) (0 : Int32) _ (.ref e0) _ W71.ext Ol Ad1 (by decide) (by decide) rfl rfl) (hw _ (List.mem_of_getElem? (i := 154) rfl)) (hw _ (List.mem_of_getElem? (i := 31) rfl)) hEL (by decide) (by decide)) fun v77 T72 h74 W73 K75 q76 => ?_
        obtain ⟨rfl, rfl⟩ := q76
        show Goes _ _ _ _ _ _ _ _ _ _ _ T72 (mkF m 66 #[.val (.ref a1), .val (.ref q), .val (.int (0 : Int32)), .val (.ref x0)] [(.ref e0)])
        refine g_checkcast W73 d_prog_61_method_9_code_66 (pc' := 69) rfl (hw _ (List.mem_of_getElem? (i := 168) rfl)) (Ins.of_exa Oe0.1 (hw _ (List.mem_of_getElem? (i := 169) rfl))) fun T78 W79 => ?_
        refine g_virtual W79 d_prog_61_method_9_code_69 (pc' := 72) (a := e0) (fr' := []) (argsL := []) (rest := []) (Wd := 0) (kc := 0) (ks := 0) rfl (hw _ (List.mem_of_getElem? (i := 196) rfl)) (hw _ (List.mem_of_getElem? (i := 197) rfl)) (hw _ (List.mem_of_getElem? (i := 199) rfl)) (hw _ (List.mem_of_getElem? (i := 198) rfl)) (by decide) Oe0.1 rfl rfl (lenOf pd_10 rfl) rfl all0 (by decide) (by decide) (Met.pays (met_getter (rm := ({ frames := 0, cells := 0, slots := 0, locals := 0 } : Room)) (plainFor_of_name pn_1) hEL W79.ext d_prog_62_method_8_code_0 d_prog_62_method_8_code_1 (hw _ (List.mem_of_getElem? (i := 116) rfl)) (Oe0.get 3 rfl) (Or.inl ⟨d_prog_62_method_8_code_4, rfl, rfl⟩)) (hw _ (List.mem_of_getElem? (i := 200) rfl)) (hw _ (List.mem_of_getElem? (i := 100) rfl)) hEL (by decide) (by decide)) fun v85 T80 h82 W81 K83 q84 => ?_
        obtain ⟨rfl, rfl⟩ := q84
        show Goes _ _ _ _ _ _ _ _ _ _ _ T80 (mkF m 72 #[.val (.ref a1), .val (.ref q), .val (.int (0 : Int32)), .val (.ref x0)] [(.ref u0)])
        exact g_areturn W81 d_prog_61_method_9_code_72 rfl rfl rfl (Keep.refl h []) ⟨rfl, by simp [c69]⟩ (by decide) (by decide)
      · refine g_ifY W64 d_prog_61_method_9_code_53 (pc' := 73) (by decide) (by decide) (Jvm.Free.XT.i0_eq_t rfl) ?_
        exact N0 c69 _ W64
    · refine g_icmpY W57 d_prog_61_method_9_code_45 (pc' := 73) (by decide) (by decide) (Jvm.Free.XT.ii_ne_t c62) ?_
      exact N0 (fun z => c62 (by rw [z])) _ W57
set_option maxRecDepth 65536 in
set_option maxHeartbeats 40000000 in
theorem rm_given2 {l : Launch} {Z : State} {a0 : Array Value} (hw : ∀ d ∈ tables_1, d.before a0 Z = true) (hEL : EW Z a0 EL1) {zc : Int32} (Sc : Sta Z Z.heap "java/lang/String" "COMPACT_STRINGS" "Z" (.int zc)) (hzc : ¬ zc = 0) (a1 q : Addr) (csq : List Int32) (l1 d : Addr) (k : ClassId) (e0 x0 u0 : Addr) (y0 : Value) (e1 x1 u1 : Addr) (y1 : Value) (cs0 : List Int32) (cs1 : List Int32) (h : Heap) (hX : Ext Z.heap h) (Fa : Fld Z h a1 "com/example/config_into_context/configintocontext/XmlElement" "attributes" "Ljava/util/List;" (.ref l1)) (Ol : Obj Z h l1 "java/util/ArrayList" [(("java/util/AbstractList", "modCount", "I"), (.int (2 : Int32))), (("java/util/ArrayList", "elementData", "[Ljava/lang/Object;"), (.ref d)), (("java/util/ArrayList", "size", "I"), (.int (2 : Int32)))]) (Ad1 : Arv Z h d k (.object "java/lang/Object") (10 : Int32) [.ref e0, .ref e1, .null, .null, .null, .null, .null, .null, .null, .null] .null) (Oe0 : Obj Z h e0 "com/example/config_into_context/configintocontext/XmlElement$Attribute" [(("com/example/config_into_context/configintocontext/XmlElement$Attribute", "namespace", "Ljava/lang/String;"), .null), (("com/example/config_into_context/configintocontext/XmlElement$Attribute", "localName", "Ljava/lang/String;"), y0), (("com/example/config_into_context/configintocontext/XmlElement$Attribute", "name", "Ljava/lang/String;"), (.ref x0)), (("com/example/config_into_context/configintocontext/XmlElement$Attribute", "value", "Ljava/lang/String;"), (.ref u0))]) (Oe1 : Obj Z h e1 "com/example/config_into_context/configintocontext/XmlElement$Attribute" [(("com/example/config_into_context/configintocontext/XmlElement$Attribute", "namespace", "Ljava/lang/String;"), .null), (("com/example/config_into_context/configintocontext/XmlElement$Attribute", "localName", "Ljava/lang/String;"), y1), (("com/example/config_into_context/configintocontext/XmlElement$Attribute", "name", "Ljava/lang/String;"), (.ref x1)), (("com/example/config_into_context/configintocontext/XmlElement$Attribute", "value", "Ljava/lang/String;"), (.ref u1))]) (Sq : Str Z h q csq) (S0 : Str Z h x0 cs0) (S1 : Str Z h x1 cs1) : Met l Z EL1 NW (⟨"com/example/config_into_context/configintocontext/XmlElement", "given", "(Ljava/lang/String;)Ljava/lang/String;"⟩ : MethodName) prog_61_method_9_code 4 (some (.object "java/lang/String")) [] ({ frames := 4, cells := 0, slots := 0, locals := 130 } : Room) #[(.ref a1), (.ref q)] h [] (fun v h' => h = h' ∧ v = some (if cs0 = csq then .ref u0 else if cs1 = csq then .ref u1 else .null : Value)) := by
  refine Met.intro pf_18 hEL hX (fun _ q => nomatch q) ?_
  intro p e s m below meth c T W
  refine Goes.cast (show entryFrame m #[(.ref a1), (.ref q)] 4 = mkF m 0 #[.val (.ref a1), .val (.ref q), .unset, .unset] [] by first | (simp [entryFrame, mkF, argsToLocals, Value.category]; done) | rfl) ?_
  refine g_iconst W d_prog_61_method_9_code_0 (pc' := 1) (v := (0 : Int32)) rfl rfl ?_
  refine g_istore_n W d_prog_61_method_9_code_1 (pc' := 2) (L' := #[.val (.ref a1), .val (.ref q), .val (.int (0 : Int32)), .unset]) rfl rfl ?_
  refine g_iload_n W d_prog_61_method_9_code_2 (pc' := 3) rfl rfl ?_
  refine g_aload_n W d_prog_61_method_9_code_3 (pc' := 4) rfl rfl rfl ?_
  refine g_getfield W d_prog_61_method_9_code_4 (pc' := 7) (host := "") rfl (Or.inl (hw _ (List.mem_of_getElem? (i := 78) rfl))) Via.refl Fa fun T1 W2 => ?_
  refine g_interface W2 d_prog_61_method_9_code_7 (pc' := 12) (a := l1) (fr' := []) (argsL := []) (rest := [(.int (0 : Int32))]) (Wd := 1) (kc := 0) (ks := 0) rfl (hw _ (List.mem_of_getElem? (i := 87) rfl)) (hw _ (List.mem_of_getElem? (i := 88) rfl)) (hw _ (List.mem_of_getElem? (i := 89) rfl)) (hw _ (List.mem_of_getElem? (i := 90) rfl)) (hw _ (List.mem_of_getElem? (i := 91) rfl)) (hw _ (List.mem_of_getElem? (i := 92) rfl)) (hw _ (List.mem_of_getElem? (i := 93) rfl)) (hw _ (List.mem_of_getElem? (i := 94) rfl)) rfl (by decide) Ol.1 rfl rfl (lenOf pd_9 rfl) rfl all0 (by decide) (by decide) (Met.pays (met_getter (rm := ({ frames := 0, cells := 0, slots := 0, locals := 0 } : Room)) (plainFor_of_name pn_0) hEL W2.ext d_jdk_38_method_8_code_0 d_jdk_38_method_8_code_1 (hw _ (List.mem_of_getElem? (i := 96) rfl)) (Ol.get 2 rfl) (Or.inr ⟨d_jdk_38_method_8_code_4, by decide, rfl, _, rfl⟩)) (hw _ (List.mem_of_getElem? (i := 95) rfl)) (hw _ (List.mem_of_getElem? (i := 31) rfl)) hEL (by decide) (by decide)) fun v8 T3 h5 W4 K6 q7 => ?_
  obtain ⟨rfl, rfl⟩ := q7
  show Goes _ _ _ _ _ _ _ _ _ _ _ T3 (mkF m 12 #[.val (.ref a1), .val (.ref q), .val (.int (0 : Int32)), .unset] [(.int (2 : Int32)), (.int (0 : Int32))])
  refine g_icmpN W4 d_prog_61_method_9_code_12 (pc' := 15) rfl (Jvm.Free.XT.ii_ge_f (by decide)) ?_
  have N0 : ¬ cs0 = csq → ∀ T', Wk p l e ({ frames := 4, cells := 0, slots := 0, locals := 130 } : Room) s m #[(.ref a1), (.ref q)] below meth c (⟨"com/example/config_into_context/configintocontext/XmlElement", "given", "(Ljava/lang/String;)Ljava/lang/String;"⟩ : MethodName) prog_61_method_9_code 4 (some (.object "java/lang/String")) Z a0 EL1 NW h T' h [] 0 0 → Goes p e below s Z EL1 NW h [] (fun v h' => h = h' ∧ v = some (if cs0 = csq then .ref u0 else if cs1 = csq then .ref u1 else .null : Value)) ({ frames := 4, cells := 0, slots := 0, locals := 130 } : Room) T' (mkF m 73 #[.val (.ref a1), .val (.ref q), .val (.int (0 : Int32)), .val (.ref x0)] []) := by
    intro nq0 T' W'
    refine g_iinc W' d_prog_61_method_9_code_73 (pc' := 76) (v := (1 : Int32)) (L' := #[.val (.ref a1), .val (.ref q), .val (.int ((0 : Int32) + (1 : Int32))), .val (.ref x0)]) rfl rfl rfl rfl ?_
    show Goes _ _ _ _ _ _ _ _ _ _ _ T' (mkF m 76 #[.val (.ref a1), .val (.ref q), .val (.int (1 : Int32)), .val (.ref x0)] [])
    refine g_goto W' d_prog_61_method_9_code_76 (pc' := 2) (by decide) (by decide) ?_
    refine g_iload_n W' d_prog_61_method_9_code_2 (pc' := 3) rfl rfl ?_
    refine g_aload_n W' d_prog_61_method_9_code_3 (pc' := 4) rfl rfl rfl ?_
    refine g_getfield W' d_prog_61_method_9_code_4 (pc' := 7) (host := "") rfl (Or.inl (hw _ (List.mem_of_getElem? (i := 78) rfl))) Via.refl Fa fun T9 W10 => ?_
    refine g_interface W10 d_prog_61_method_9_code_7 (pc' := 12) (a := l1) (fr' := []) (argsL := []) (rest := [(.int (1 : Int32))]) (Wd := 1) (kc := 0) (ks := 0) rfl (hw _ (List.mem_of_getElem? (i := 87) rfl)) (hw _ (List.mem_of_getElem? (i := 88) rfl)) (hw _ (List.mem_of_getElem? (i := 89) rfl)) (hw _ (List.mem_of_getElem? (i := 90) rfl)) (hw _ (List.mem_of_getElem? (i := 91) rfl)) (hw _ (List.mem_of_getElem? (i := 92) rfl)) (hw _ (List.mem_of_getElem? (i := 93) rfl)) (hw _ (List.mem_of_getElem? (i := 94) rfl)) rfl (by decide) Ol.1 rfl rfl (lenOf pd_9 rfl) rfl all0 (by decide) (by decide) (Met.pays (met_getter (rm := ({ frames := 0, cells := 0, slots := 0, locals := 0 } : Room)) (plainFor_of_name pn_0) hEL W10.ext d_jdk_38_method_8_code_0 d_jdk_38_method_8_code_1 (hw _ (List.mem_of_getElem? (i := 96) rfl)) (Ol.get 2 rfl) (Or.inr ⟨d_jdk_38_method_8_code_4, by decide, rfl, _, rfl⟩)) (hw _ (List.mem_of_getElem? (i := 95) rfl)) (hw _ (List.mem_of_getElem? (i := 31) rfl)) hEL (by decide) (by decide)) fun v16 T11 h13 W12 K14 q15 => ?_
    obtain ⟨rfl, rfl⟩ := q15
    show Goes _ _ _ _ _ _ _ _ _ _ _ T11 (mkF m 12 #[.val (.ref a1), .val (.ref q), .val (.int (1 : Int32)), .val (.ref x0)] [(.int (2 : Int32)), (.int (1 : Int32))])
    refine g_icmpN W12 d_prog_61_method_9_code_12 (pc' := 15) rfl (Jvm.Free.XT.ii_ge_f (by decide)) ?_
    have N1 : ¬ cs1 = csq → ∀ T', Wk p l e ({ frames := 4, cells := 0, slots := 0, locals := 130 } : Room) s m #[(.ref a1), (.ref q)] below meth c (⟨"com/example/config_into_context/configintocontext/XmlElement", "given", "(Ljava/lang/String;)Ljava/lang/String;"⟩ : MethodName) prog_61_method_9_code 4 (some (.object "java/lang/String")) Z a0 EL1 NW h T' h [] 0 0 → Goes p e below s Z EL1 NW h [] (fun v h' => h = h' ∧ v = some (if cs0 = csq then .ref u0 else if cs1 = csq then .ref u1 else .null : Value)) ({ frames := 4, cells := 0, slots := 0, locals := 130 } : Room) T' (mkF m 73 #[.val (.ref a1), .val (.ref q), .val (.int (1 : Int32)), .val (.ref x1)] []) := by
      intro nq1 T' W'
      refine g_iinc W' d_prog_61_method_9_code_73 (pc' := 76) (v := (1 : Int32)) (L' := #[.val (.ref a1), .val (.ref q), .val (.int ((1 : Int32) + (1 : Int32))), .val (.ref x1)]) rfl rfl rfl rfl ?_
      show Goes _ _ _ _ _ _ _ _ _ _ _ T' (mkF m 76 #[.val (.ref a1), .val (.ref q), .val (.int (2 : Int32)), .val (.ref x1)] [])
      refine g_goto W' d_prog_61_method_9_code_76 (pc' := 2) (by decide) (by decide) ?_
      refine g_iload_n W' d_prog_61_method_9_code_2 (pc' := 3) rfl rfl ?_
      refine g_aload_n W' d_prog_61_method_9_code_3 (pc' := 4) rfl rfl rfl ?_
      refine g_getfield W' d_prog_61_method_9_code_4 (pc' := 7) (host := "") rfl (Or.inl (hw _ (List.mem_of_getElem? (i := 78) rfl))) Via.refl Fa fun T17 W18 => ?_
      refine g_interface W18 d_prog_61_method_9_code_7 (pc' := 12) (a := l1) (fr' := []) (argsL := []) (rest := [(.int (2 : Int32))]) (Wd := 1) (kc := 0) (ks := 0) rfl (hw _ (List.mem_of_getElem? (i := 87) rfl)) (hw _ (List.mem_of_getElem? (i := 88) rfl)) (hw _ (List.mem_of_getElem? (i := 89) rfl)) (hw _ (List.mem_of_getElem? (i := 90) rfl)) (hw _ (List.mem_of_getElem? (i := 91) rfl)) (hw _ (List.mem_of_getElem? (i := 92) rfl)) (hw _ (List.mem_of_getElem? (i := 93) rfl)) (hw _ (List.mem_of_getElem? (i := 94) rfl)) rfl (by decide) Ol.1 rfl rfl (lenOf pd_9 rfl) rfl all0 (by decide) (by decide) (Met.pays (met_getter (rm := ({ frames := 0, cells := 0, slots := 0, locals := 0 } : Room)) (plainFor_of_name pn_0) hEL W18.ext d_jdk_38_method_8_code_0 d_jdk_38_method_8_code_1 (hw _ (List.mem_of_getElem? (i := 96) rfl)) (Ol.get 2 rfl) (Or.inr ⟨d_jdk_38_method_8_code_4, by decide, rfl, _, rfl⟩)) (hw _ (List.mem_of_getElem? (i := 95) rfl)) (hw _ (List.mem_of_getElem? (i := 31) rfl)) hEL (by decide) (by decide)) fun v24 T19 h21 W20 K22 q23 => ?_
      obtain ⟨rfl, rfl⟩ := q23
      show Goes _ _ _ _ _ _ _ _ _ _ _ T19 (mkF m 12 #[.val (.ref a1), .val (.ref q), .val (.int (2 : Int32)), .val (.ref x1)] [(.int (2 : Int32)), (.int (2 : Int32))])
      refine g_icmpY W20 d_prog_61_method_9_code_12 (pc' := 79) (by decide) (by decide) (Jvm.Free.XT.ii_ge_t (by decide)) ?_
      refine g_aconst_null W20 d_prog_61_method_9_code_79 (pc' := 80) rfl ?_
      exact g_areturn W20 d_prog_61_method_9_code_80 rfl rfl rfl (Keep.refl h []) ⟨rfl, by simp [nq0, nq1]⟩ (by decide) (by decide)
    refine g_aload_n W12 d_prog_61_method_9_code_15 (pc' := 16) rfl rfl rfl ?_
    refine g_getfield W12 d_prog_61_method_9_code_16 (pc' := 19) (host := "") rfl (Or.inl (hw _ (List.mem_of_getElem? (i := 78) rfl))) Via.refl Fa fun T25 W26 => ?_
    refine g_iload_n W26 d_prog_61_method_9_code_19 (pc' := 20) rfl rfl ?_
    refine g_interface W26 d_prog_61_method_9_code_20 (pc' := 25) (a := l1) (fr' := []) (argsL := [(.int (1 : Int32))]) (rest := []) (Wd := 0) (kc := 0) (ks := 0) rfl (hw _ (List.mem_of_getElem? (i := 147) rfl)) (hw _ (List.mem_of_getElem? (i := 148) rfl)) (hw _ (List.mem_of_getElem? (i := 149) rfl)) (hw _ (List.mem_of_getElem? (i := 150) rfl)) (hw _ (List.mem_of_getElem? (i := 151) rfl)) (hw _ (List.mem_of_getElem? (i := 152) rfl)) (hw _ (List.mem_of_getElem? (i := 153) rfl)) (hw _ (List.mem_of_getElem? (i := 94) rfl)) rfl (by decide) Ol.1 rfl rfl (lenOf pd_7 rfl) rfl all0 (by decide) (by decide) (Met.pays (rm_get hw hEL Sc hzc l1 d k (2 : Int32) (2 : Int32) (10 : Int32) (1 : Int32) _ (.ref e1) _ W26.ext Ol Ad1 (by decide) (by decide) rfl rfl) (hw _ (List.mem_of_getElem? (i := 154) rfl)) (hw _ (List.mem_of_getElem? (i := 31) rfl)) hEL (by decide) (by decide)) fun v32 T27 h29 W28 K30 q31 => ?_
    obtain ⟨rfl, rfl⟩ := q31
    show Goes _ _ _ _ _ _ _ _ _ _ _ T27 (mkF m 25 #[.val (.ref a1), .val (.ref q), .val (.int (1 : Int32)), .val (.ref x0)] [(.ref e1)])
    refine g_checkcast W28 d_prog_61_method_9_code_25 (pc' := 28) rfl (hw _ (List.mem_of_getElem? (i := 168) rfl)) (Ins.of_exa Oe1.1 (hw _ (List.mem_of_getElem? (i := 169) rfl))) fun T33 W34 => ?_
    refine g_virtual W34 d_prog_61_method_9_code_28 (pc' := 31) (a := e1) (fr' := []) (argsL := []) (rest := []) (Wd := 0) (kc := 0) (ks := 0) rfl (hw _ (List.mem_of_getElem? (i := 170) rfl)) (hw _ (List.mem_of_getElem? (i := 171) rfl)) (hw _ (List.mem_of_getElem? (i := 173) rfl)) (hw _ (List.mem_of_getElem? (i := 172) rfl)) (by decide) Oe1.1 rfl rfl (lenOf pd_10 rfl) rfl all0 (by decide) (by decide) (Met.pays (met_getter (rm := ({ frames := 0, cells := 0, slots := 0, locals := 0 } : Room)) (plainFor_of_name pn_1) hEL W34.ext d_prog_62_method_7_code_0 d_prog_62_method_7_code_1 (hw _ (List.mem_of_getElem? (i := 114) rfl)) (Oe1.get 2 rfl) (Or.inl ⟨d_prog_62_method_7_code_4, rfl, rfl⟩)) (hw _ (List.mem_of_getElem? (i := 174) rfl)) (hw _ (List.mem_of_getElem? (i := 100) rfl)) hEL (by decide) (by decide)) fun v40 T35 h37 W36 K38 q39 => ?_
    obtain ⟨rfl, rfl⟩ := q39
    show Goes _ _ _ _ _ _ _ _ _ _ _ T35 (mkF m 31 #[.val (.ref a1), .val (.ref q), .val (.int (1 : Int32)), .val (.ref x0)] [(.ref x1)])
    refine g_astore_n W36 d_prog_61_method_9_code_31 (pc' := 32) (L' := #[.val (.ref a1), .val (.ref q), .val (.int (1 : Int32)), .val (.ref x1)]) rfl rfl rfl ?_
    refine g_aload_n W36 d_prog_61_method_9_code_32 (pc' := 33) rfl rfl rfl ?_
    refine g_aload_n W36 d_prog_61_method_9_code_33 (pc' := 34) rfl rfl rfl ?_
    by_cases c41 : x1 = q
    · refine g_acmpY W36 d_prog_61_method_9_code_34 (pc' := 56) (by decide) (by decide) rfl rfl (Jvm.Free.XT.aa_eq_t (congrArg Value.ref c41)) ?_
      have ec41 : cs1 = csq := Str.uniq S1 (c41 ▸ Sq)
      refine g_aload_n W36 d_prog_61_method_9_code_56 (pc' := 57) rfl rfl rfl ?_
      refine g_getfield W36 d_prog_61_method_9_code_57 (pc' := 60) (host := "") rfl (Or.inl (hw _ (List.mem_of_getElem? (i := 78) rfl))) Via.refl Fa fun T42 W43 => ?_
      refine g_iload_n W43 d_prog_61_method_9_code_60 (pc' := 61) rfl rfl ?_
      refine g_interface W43 d_prog_61_method_9_code_61 (pc' := 66) (a := l1) (fr' := []) (argsL := [(.int (1 : Int32))]) (rest := []) (Wd := 0) (kc := 0) (ks := 0) rfl (hw _ (List.mem_of_getElem? (i := 147) rfl)) (hw _ (List.mem_of_getElem? (i := 148) rfl)) (hw _ (List.mem_of_getElem? (i := 149) rfl)) (hw _ (List.mem_of_getElem? (i := 150) rfl)) (hw _ (List.mem_of_getElem? (i := 151) rfl)) (hw _ (List.mem_of_getElem? (i := 152) rfl)) (hw _ (List.mem_of_getElem? (i := 153) rfl)) (hw _ (List.mem_of_getElem? (i := 94) rfl)) rfl (by decide) Ol.1 rfl rfl (lenOf pd_7 rfl) rfl all0 (by decide) (by decide) (Met.pays (rm_get hw hEL Sc hzc l1 d k (2 : Int32) (2 : Int32) (10 : Int32) (1 : Int32) _ (.ref e1) _ W43.ext Ol Ad1 (by decide) (by decide) rfl rfl) (hw _ (List.mem_of_getElem? (i := 154) rfl)) (hw _ (List.mem_of_getElem? (i := 31) rfl)) hEL (by decide) (by decide)) fun v49 T44 h46 W45 K47 q48 => ?_
      obtain ⟨rfl, rfl⟩ := q48
      show Goes _ _ _ _ _ _ _ _ _ _ _ T44 (mkF m 66 #[.val (.ref a1), .val (.ref q), .val (.int (1 : Int32)), .val (.ref x1)] [(.ref e1)])
      refine g_checkcast W45 d_prog_61_method_9_code_66 (pc' := 69) rfl (hw _ (List.mem_of_getElem? (i := 168) rfl)) (Ins.of_exa Oe1.1 (hw _ (List.mem_of_getElem? (i := 169) rfl))) fun T50 W51 => ?_
      refine g_virtual W51 d_prog_61_method_9_code_69 (pc' := 72) (a := e1) (fr' := []) (argsL := []) (rest := []) (Wd := 0) (kc := 0) (ks := 0) rfl (hw _ (List.mem_of_getElem? (i := 196) rfl)) (hw _ (List.mem_of_getElem? (i := 197) rfl)) (hw _ (List.mem_of_getElem? (i := 199) rfl)) (hw _ (List.mem_of_getElem? (i := 198) rfl)) (by decide) Oe1.1 rfl rfl (lenOf pd_10 rfl) rfl all0 (by decide) (by decide) (Met.pays (met_getter (rm := ({ frames := 0, cells := 0, slots := 0, locals := 0 } : Room)) (plainFor_of_name pn_1) hEL W51.ext d_prog_62_method_8_code_0 d_prog_62_method_8_code_1 (hw _ (List.mem_of_getElem? (i := 116) rfl)) (Oe1.get 3 rfl) (Or.inl ⟨d_prog_62_method_8_code_4, rfl, rfl⟩)) (hw _ (List.mem_of_getElem? (i := 200) rfl)) (hw _ (List.mem_of_getElem? (i := 100) rfl)) hEL (by decide) (by decide)) fun v57 T52 h54 W53 K55 q56 => ?_
      obtain ⟨rfl, rfl⟩ := q56
      show Goes _ _ _ _ _ _ _ _ _ _ _ T52 (mkF m 72 #[.val (.ref a1), .val (.ref q), .val (.int (1 : Int32)), .val (.ref x1)] [(.ref u1)])
      exact g_areturn W53 d_prog_61_method_9_code_72 rfl rfl rfl (Keep.refl h []) ⟨rfl, by simp [nq0, ec41]⟩ (by decide) (by decide)
    · refine g_acmpN W36 d_prog_61_method_9_code_34 (pc' := 37) rfl rfl rfl (Jvm.Free.XT.aa_eq_f (fun z => c41 (Value.ref.inj z))) ?_
      refine g_aload_n W36 d_prog_61_method_9_code_37 (pc' := 38) rfl rfl rfl ?_
      refine g_virtual W36 d_prog_61_method_9_code_38 (pc' := 41) (a := x1) (fr' := []) (argsL := []) (rest := []) (Wd := 0) (kc := 0) (ks := 0) rfl (hw _ (List.mem_of_getElem? (i := 175) rfl)) (hw _ (List.mem_of_getElem? (i := 176) rfl)) (hw _ (List.mem_of_getElem? (i := 178) rfl)) (hw _ (List.mem_of_getElem? (i := 177) rfl)) (by decide) S1.exa rfl rfl (lenOf pd_9 rfl) rfl all0 (by decide) (by decide) (pays_len hEL (fun d hd => hw d ((by decide +kernel : ∀ d ∈ StrChars.Road.wordsLen, d ∈ tables_1) d hd)) (hw _ (List.mem_of_getElem? (i := 5) rfl)) S1 Sc hzc W36.ext (by decide) (by decide)) fun v63 T58 h60 W59 K61 q62 => ?_
      obtain ⟨rfl, rfl⟩ := q62
      show Goes _ _ _ _ _ _ _ _ _ _ _ T58 (mkF m 41 #[.val (.ref a1), .val (.ref q), .val (.int (1 : Int32)), .val (.ref x1)] [(.int (Int32.ofNat cs1.length))])
      refine g_aload_n W59 d_prog_61_method_9_code_41 (pc' := 42) rfl rfl rfl ?_
      refine g_virtual W59 d_prog_61_method_9_code_42 (pc' := 45) (a := q) (fr' := []) (argsL := []) (rest := [(.int (Int32.ofNat cs1.length))]) (Wd := 1) (kc := 0) (ks := 0) rfl (hw _ (List.mem_of_getElem? (i := 175) rfl)) (hw _ (List.mem_of_getElem? (i := 176) rfl)) (hw _ (List.mem_of_getElem? (i := 178) rfl)) (hw _ (List.mem_of_getElem? (i := 177) rfl)) (by decide) Sq.exa rfl rfl (lenOf pd_9 rfl) rfl all0 (by decide) (by decide) (pays_len hEL (fun d hd => hw d ((by decide +kernel : ∀ d ∈ StrChars.Road.wordsLen, d ∈ tables_1) d hd)) (hw _ (List.mem_of_getElem? (i := 5) rfl)) Sq Sc hzc W59.ext (by decide) (by decide)) fun v69 T64 h66 W65 K67 q68 => ?_
      obtain ⟨rfl, rfl⟩ := q68
      show Goes _ _ _ _ _ _ _ _ _ _ _ T64 (mkF m 45 #[.val (.ref a1), .val (.ref q), .val (.int (1 : Int32)), .val (.ref x1)] [(.int (Int32.ofNat csq.length)), (.int (Int32.ofNat cs1.length))])
      by_cases c70 : (Int32.ofNat cs1.length) = (Int32.ofNat csq.length)
      · refine g_icmpN W65 d_prog_61_method_9_code_45 (pc' := 48) rfl (Jvm.Free.XT.ii_ne_f c70) ?_
        refine g_aload_n W65 d_prog_61_method_9_code_48 (pc' := 49) rfl rfl rfl ?_
        refine g_aload_n W65 d_prog_61_method_9_code_49 (pc' := 50) rfl rfl rfl ?_
        refine g_virtual W65 d_prog_61_method_9_code_50 (pc' := 53) (a := x1) (fr' := []) (argsL := [(.ref q)]) (rest := []) (Wd := 0) (kc := 0) (ks := 0) rfl (hw _ (List.mem_of_getElem? (i := 186) rfl)) (hw _ (List.mem_of_getElem? (i := 187) rfl)) (hw _ (List.mem_of_getElem? (i := 189) rfl)) (hw _ (List.mem_of_getElem? (i := 188) rfl)) (by decide) S1.exa rfl rfl (lenOf pd_11 rfl) rfl all0 (by decide) (by decide) (pays_eq hEL (fun d hd => hw d ((by decide +kernel : ∀ d ∈ StrChars.Road.wordsEq, d ∈ tables_1) d hd)) (hw _ (List.mem_of_getElem? (i := 5) rfl)) S1 Sq Sc hzc W65.ext (by decide) (by decide)) fun v76 T71 h73 W72 K74 q75 => ?_
        obtain ⟨rfl, ⟨rfl, c77⟩ | ⟨rfl, c77⟩⟩ := q75
        · refine g_ifN W72 d_prog_61_method_9_code_53 (pc' := 56) rfl (Jvm.Free.XT.i0_eq_f (by decide)) ?_
          refine g_aload_n W72 d_prog_61_method_9_code_56 (pc' := 57) rfl rfl rfl ?_
          refine g_getfield W72 d_prog_61_method_9_code_57 (pc' := 60) (host := "") rfl (Or.inl (hw _ (List.mem_of_getElem? (i := 78) rfl))) Via.refl Fa fun T78 W79 => ?_
          refine g_iload_n W79 d_prog_61_method_9_code_60 (pc' := 61) rfl rfl ?_
          refine g_interface W79 d_prog_61_method_9_code_61 (pc' := 66) (a := l1) (fr' := []) (argsL := [(.int (1 : Int32))]) (rest := []) (Wd := 0) (kc := 0) (ks := 0) rfl (hw _ (List.mem_of_getElem? (i := 147) rfl)) (hw _ (List.mem_of_getElem? (i := 148) rfl)) (hw _ (List.mem_of_getElem? (i := 149) rfl)) (hw _ (List.mem_of_getElem? (i := 150) rfl)) (hw _ (List.mem_of_getElem? (i := 151) rfl)) (hw _ (List.mem_of_getElem? (i := 152) rfl)) (hw _ (List.mem_of_getElem? (i := 153) rfl)) (hw _ (List.mem_of_getElem? (i := 94) rfl)) rfl (by decide) Ol.1 rfl rfl (lenOf pd_7 rfl) rfl all0 (by decide) (by decide) (Met.pays (rm_get hw hEL Sc hzc l1 d k (2 : Int32) (2 : Int32) (10 : Int32) (1 : Int32) _ (.ref e1) _ W79.ext Ol Ad1 (by decide) (by decide) rfl rfl) (hw _ (List.mem_of_getElem? (i := 154) rfl)) (hw _ (List.mem_of_getElem? (i := 31) rfl)) hEL (by decide) (by decide)) fun v85 T80 h82 W81 K83 q84 => ?_
          obtain ⟨rfl, rfl⟩ := q84
          show Goes _ _ _ _ _ _ _ _ _ _ _ T80 (mkF m 66 #[.val (.ref a1), .val (.ref q), .val (.int (1 : Int32)), .val (.ref x1)] [(.ref e1)])
          refine g_checkcast W81 d_prog_61_method_9_code_66 (pc' := 69) rfl (hw _ (List.mem_of_getElem? (i := 168) rfl)) (Ins.of_exa Oe1.1 (hw _ (List.mem_of_getElem? (i := 169) rfl))) fun T86 W87 => ?_
          refine g_virtual W87 d_prog_61_method_9_code_69 (pc' := 72) (a := e1) (fr' := []) (argsL := []) (rest := []) (Wd := 0) (kc := 0) (ks := 0) rfl (hw _ (List.mem_of_getElem? (i := 196) rfl)) (hw _ (List.mem_of_getElem? (i := 197) rfl)) (hw _ (List.mem_of_getElem? (i := 199) rfl)) (hw _ (List.mem_of_getElem? (i := 198) rfl)) (by decide) Oe1.1 rfl rfl (lenOf pd_10 rfl) rfl all0 (by decide) (by decide) (Met.pays (met_getter (rm := ({ frames := 0, cells := 0, slots := 0, locals := 0 } : Room)) (plainFor_of_name pn_1) hEL W87.ext d_prog_62_method_8_code_0 d_prog_62_method_8_code_1 (hw _ (List.mem_of_getElem? (i := 116) rfl)) (Oe1.get 3 rfl) (Or.inl ⟨d_prog_62_method_8_code_4, rfl, rfl⟩)) (hw _ (List.mem_of_getElem? (i := 200) rfl)) (hw _ (List.mem_of_getElem? (i := 100) rfl)) hEL (by decide) (by decide)) fun v93 T88 h90 W89 K91 q92 => ?_
          obtain ⟨rfl, rfl⟩ := q92
          show Goes _ _ _ _ _ _ _ _ _ _ _ T88 (mkF m 72 #[.val (.ref a1), .val (.ref q), .val (.int (1 : Int32)), .val (.ref x1)] [(.ref u1)])
          exact g_areturn W89 d_prog_61_method_9_code_72 rfl rfl rfl (Keep.refl h []) ⟨rfl, by simp [nq0, c77]⟩ (by decide) (by decide)
        · refine g_ifY W72 d_prog_61_method_9_code_53 (pc' := 73) (by decide) (by decide) (Jvm.Free.XT.i0_eq_t rfl) ?_
          exact N1 c77 _ W72
      · refine g_icmpY W65 d_prog_61_method_9_code_45 (pc' := 73) (by decide) (by decide) (Jvm.Free.XT.ii_ne_t c70) ?_
        exact N1 (fun z => c70 (by rw [z])) _ W65
  refine g_aload_n W4 d_prog_61_method_9_code_15 (pc' := 16) rfl rfl rfl ?_
  refine g_getfield W4 d_prog_61_method_9_code_16 (pc' := 19) (host := "") rfl (Or.inl (hw _ (List.mem_of_getElem? (i := 78) rfl))) Via.refl Fa fun T94 W95 => ?_
  refine g_iload_n W95 d_prog_61_method_9_code_19 (pc' := 20) rfl rfl ?_
  refine g_interface W95 d_prog_61_method_9_code_20 (pc' := 25) (a := l1) (fr' := []) (argsL := [(.int (0 : Int32))]) (rest := []) (Wd := 0) (kc := 0) (ks := 0) rfl (hw _ (List.mem_of_getElem? (i := 147) rfl)) (hw _ (List.mem_of_getElem? (i := 148) rfl)) (hw _ (List.mem_of_getElem? (i := 149) rfl)) (hw _ (List.mem_of_getElem? (i := 150) rfl)) (hw _ (List.mem_of_getElem? (i := 151) rfl)) (hw _ (List.mem_of_getElem? (i := 152) rfl)) (hw _ (List.mem_of_getElem? (i := 153) rfl)) (hw _ (List.mem_of_getElem? (i := 94) rfl)) rfl (by decide) Ol.1 rfl rfl (lenOf pd_7 rfl) rfl all0 (by decide) (by decide) (Met.pays (rm_get hw hEL Sc hzc l1 d k (2 : Int32) (2 : Int32) (10 : Int32) (0 : Int32) _ (.ref e0) _ W95.ext Ol Ad1 (by decide) (by decide) rfl rfl) (hw _ (List.mem_of_getElem? (i := 154) rfl)) (hw _ (List.mem_of_getElem? (i := 31) rfl)) hEL (by decide) (by decide)) fun v101 T96 h98 W97 K99 q100 => ?_
  obtain ⟨rfl, rfl⟩ := q100
  show Goes _ _ _ _ _ _ _ _ _ _ _ T96 (mkF m 25 #[.val (.ref a1), .val (.ref q), .val (.int (0 : Int32)), .unset] [(.ref e0)])
  refine g_checkcast W97 d_prog_61_method_9_code_25 (pc' := 28) rfl (hw _ (List.mem_of_getElem? (i := 168) rfl)) (Ins.of_exa Oe0.1 (hw _ (List.mem_of_getElem? (i := 169) rfl))) fun T102 W103 => ?_
  refine g_virtual W103 d_prog_61_method_9_code_28 (pc' := 31) (a := e0) (fr' := []) (argsL := []) (rest := []) (Wd := 0) (kc := 0) (ks := 0) rfl (hw _ (List.mem_of_getElem? (i := 170) rfl)) (hw _ (List.mem_of_getElem? (i := 171) rfl)) (hw _ (List.mem_of_getElem? (i := 173) rfl)) (hw _ (List.mem_of_getElem? (i := 172) rfl)) (by decide) Oe0.1 rfl rfl (lenOf pd_10 rfl) rfl all0 (by decide) (by decide) (Met.pays (met_getter (rm := ({ frames := 0, cells := 0, slots := 0, locals := 0 } : Room)) (plainFor_of_name pn_1) hEL W103.ext d_prog_62_method_7_code_0 d_prog_62_method_7_code_1 (hw _ (List.mem_of_getElem? (i := 114) rfl)) (Oe0.get 2 rfl) (Or.inl ⟨d_prog_62_method_7_code_4, rfl, rfl⟩)) (hw _ (List.mem_of_getElem? (i := 174) rfl)) (hw _ (List.mem_of_getElem? (i := 100) rfl)) hEL (by decide) (by decide)) fun v109 T104 h106 W105 K107 q108 => ?_
  obtain ⟨rfl, rfl⟩ := q108
  show Goes _ _ _ _ _ _ _ _ _ _ _ T104 (mkF m 31 #[.val (.ref a1), .val (.ref q), .val (.int (0 : Int32)), .unset] [(.ref x0)])
  refine g_astore_n W105 d_prog_61_method_9_code_31 (pc' := 32) (L' := #[.val (.ref a1), .val (.ref q), .val (.int (0 : Int32)), .val (.ref x0)]) rfl rfl rfl ?_
  refine g_aload_n W105 d_prog_61_method_9_code_32 (pc' := 33) rfl rfl rfl ?_
  refine g_aload_n W105 d_prog_61_method_9_code_33 (pc' := 34) rfl rfl rfl ?_
  by_cases c110 : x0 = q
  · refine g_acmpY W105 d_prog_61_method_9_code_34 (pc' := 56) (by decide) (by decide) rfl rfl (Jvm.Free.XT.aa_eq_t (congrArg Value.ref c110)) ?_
    have ec110 : cs0 = csq := Str.uniq S0 (c110 ▸ Sq)
    refine g_aload_n W105 d_prog_61_method_9_code_56 (pc' := 57) rfl rfl rfl ?_
    refine g_getfield W105 d_prog_61_method_9_code_57 (pc' := 60) (host := "") rfl (Or.inl (hw _ (List.mem_of_getElem? (i := 78) rfl))) Via.refl Fa fun T111 W112 => ?_
    refine g_iload_n W112 d_prog_61_method_9_code_60 (pc' := 61) rfl rfl ?_
    refine g_interface W112 d_prog_61_method_9_code_61 (pc' := 66) (a := l1) (fr' := []) (argsL := [(.int (0 : Int32))]) (rest := []) (Wd := 0) (kc := 0) (ks := 0) rfl (hw _ (List.mem_of_getElem? (i := 147) rfl)) (hw _ (List.mem_of_getElem? (i := 148) rfl)) (hw _ (List.mem_of_getElem? (i := 149) rfl)) (hw _ (List.mem_of_getElem? (i := 150) rfl)) (hw _ (List.mem_of_getElem? (i := 151) rfl)) (hw _ (List.mem_of_getElem? (i := 152) rfl)) (hw _ (List.mem_of_getElem? (i := 153) rfl)) (hw _ (List.mem_of_getElem? (i := 94) rfl)) rfl (by decide) Ol.1 rfl rfl (lenOf pd_7 rfl) rfl all0 (by decide) (by decide) (Met.pays (rm_get hw hEL Sc hzc l1 d k (2 : Int32) (2 : Int32) (10 : Int32) (0 : Int32) _ (.ref e0) _ W112.ext Ol Ad1 (by decide) (by decide) rfl rfl) (hw _ (List.mem_of_getElem? (i := 154) rfl)) (hw _ (List.mem_of_getElem? (i := 31) rfl)) hEL (by decide) (by decide)) fun v118 T113 h115 W114 K116 q117 => ?_
    obtain ⟨rfl, rfl⟩ := q117
    show Goes _ _ _ _ _ _ _ _ _ _ _ T113 (mkF m 66 #[.val (.ref a1), .val (.ref q), .val (.int (0 : Int32)), .val (.ref x0)] [(.ref e0)])
    refine g_checkcast W114 d_prog_61_method_9_code_66 (pc' := 69) rfl (hw _ (List.mem_of_getElem? (i := 168) rfl)) (Ins.of_exa Oe0.1 (hw _ (List.mem_of_getElem? (i := 169) rfl))) fun T119 W120 => ?_
    refine g_virtual W120 d_prog_61_method_9_code_69 (pc' := 72) (a := e0) (fr' := []) (argsL := []) (rest := []) (Wd := 0) (kc := 0) (ks := 0) rfl (hw _ (List.mem_of_getElem? (i := 196) rfl)) (hw _ (List.mem_of_getElem? (i := 197) rfl)) (hw _ (List.mem_of_getElem? (i := 199) rfl)) (hw _ (List.mem_of_getElem? (i := 198) rfl)) (by decide) Oe0.1 rfl rfl (lenOf pd_10 rfl) rfl all0 (by decide) (by decide) (Met.pays (met_getter (rm := ({ frames := 0, cells := 0, slots := 0, locals := 0 } : Room)) (plainFor_of_name pn_1) hEL W120.ext d_prog_62_method_8_code_0 d_prog_62_method_8_code_1 (hw _ (List.mem_of_getElem? (i := 116) rfl)) (Oe0.get 3 rfl) (Or.inl ⟨d_prog_62_method_8_code_4, rfl, rfl⟩)) (hw _ (List.mem_of_getElem? (i := 200) rfl)) (hw _ (List.mem_of_getElem? (i := 100) rfl)) hEL (by decide) (by decide)) fun v126 T121 h123 W122 K124 q125 => ?_
    obtain ⟨rfl, rfl⟩ := q125
    show Goes _ _ _ _ _ _ _ _ _ _ _ T121 (mkF m 72 #[.val (.ref a1), .val (.ref q), .val (.int (0 : Int32)), .val (.ref x0)] [(.ref u0)])
    exact g_areturn W122 d_prog_61_method_9_code_72 rfl rfl rfl (Keep.refl h []) ⟨rfl, by simp [ec110]⟩ (by decide) (by decide)
  · refine g_acmpN W105 d_prog_61_method_9_code_34 (pc' := 37) rfl rfl rfl (Jvm.Free.XT.aa_eq_f (fun z => c110 (Value.ref.inj z))) ?_
    refine g_aload_n W105 d_prog_61_method_9_code_37 (pc' := 38) rfl rfl rfl ?_
    refine g_virtual W105 d_prog_61_method_9_code_38 (pc' := 41) (a := x0) (fr' := []) (argsL := []) (rest := []) (Wd := 0) (kc := 0) (ks := 0) rfl (hw _ (List.mem_of_getElem? (i := 175) rfl)) (hw _ (List.mem_of_getElem? (i := 176) rfl)) (hw _ (List.mem_of_getElem? (i := 178) rfl)) (hw _ (List.mem_of_getElem? (i := 177) rfl)) (by decide) S0.exa rfl rfl (lenOf pd_9 rfl) rfl all0 (by decide) (by decide) (pays_len hEL (fun d hd => hw d ((by decide +kernel : ∀ d ∈ StrChars.Road.wordsLen, d ∈ tables_1) d hd)) (hw _ (List.mem_of_getElem? (i := 5) rfl)) S0 Sc hzc W105.ext (by decide) (by decide)) fun v132 T127 h129 W128 K130 q131 => ?_
    obtain ⟨rfl, rfl⟩ := q131
    show Goes _ _ _ _ _ _ _ _ _ _ _ T127 (mkF m 41 #[.val (.ref a1), .val (.ref q), .val (.int (0 : Int32)), .val (.ref x0)] [(.int (Int32.ofNat cs0.length))])
    refine g_aload_n W128 d_prog_61_method_9_code_41 (pc' := 42) rfl rfl rfl ?_
    refine g_virtual W128 d_prog_61_method_9_code_42 (pc' := 45) (a := q) (fr' := []) (argsL := []) (rest := [(.int (Int32.ofNat cs0.length))]) (Wd := 1) (kc := 0) (ks := 0) rfl (hw _ (List.mem_of_getElem? (i := 175) rfl)) (hw _ (List.mem_of_getElem? (i := 176) rfl)) (hw _ (List.mem_of_getElem? (i := 178) rfl)) (hw _ (List.mem_of_getElem? (i := 177) rfl)) (by decide) Sq.exa rfl rfl (lenOf pd_9 rfl) rfl all0 (by decide) (by decide) (pays_len hEL (fun d hd => hw d ((by decide +kernel : ∀ d ∈ StrChars.Road.wordsLen, d ∈ tables_1) d hd)) (hw _ (List.mem_of_getElem? (i := 5) rfl)) Sq Sc hzc W128.ext (by decide) (by decide)) fun v138 T133 h135 W134 K136 q137 => ?_
    obtain ⟨rfl, rfl⟩ := q137
    show Goes _ _ _ _ _ _ _ _ _ _ _ T133 (mkF m 45 #[.val (.ref a1), .val (.ref q), .val (.int (0 : Int32)), .val (.ref x0)] [(.int (Int32.ofNat csq.length)), (.int (Int32.ofNat cs0.length))])
    by_cases c139 : (Int32.ofNat cs0.length) = (Int32.ofNat csq.length)
    · refine g_icmpN W134 d_prog_61_method_9_code_45 (pc' := 48) rfl (Jvm.Free.XT.ii_ne_f c139) ?_
      refine g_aload_n W134 d_prog_61_method_9_code_48 (pc' := 49) rfl rfl rfl ?_
      refine g_aload_n W134 d_prog_61_method_9_code_49 (pc' := 50) rfl rfl rfl ?_
      refine g_virtual W134 d_prog_61_method_9_code_50 (pc' := 53) (a := x0) (fr' := []) (argsL := [(.ref q)]) (rest := []) (Wd := 0) (kc := 0) (ks := 0) rfl (hw _ (List.mem_of_getElem? (i := 186) rfl)) (hw _ (List.mem_of_getElem? (i := 187) rfl)) (hw _ (List.mem_of_getElem? (i := 189) rfl)) (hw _ (List.mem_of_getElem? (i := 188) rfl)) (by decide) S0.exa rfl rfl (lenOf pd_11 rfl) rfl all0 (by decide) (by decide) (pays_eq hEL (fun d hd => hw d ((by decide +kernel : ∀ d ∈ StrChars.Road.wordsEq, d ∈ tables_1) d hd)) (hw _ (List.mem_of_getElem? (i := 5) rfl)) S0 Sq Sc hzc W134.ext (by decide) (by decide)) fun v145 T140 h142 W141 K143 q144 => ?_
      obtain ⟨rfl, ⟨rfl, c146⟩ | ⟨rfl, c146⟩⟩ := q144
      · refine g_ifN W141 d_prog_61_method_9_code_53 (pc' := 56) rfl (Jvm.Free.XT.i0_eq_f (by decide)) ?_
        refine g_aload_n W141 d_prog_61_method_9_code_56 (pc' := 57) rfl rfl rfl ?_
        refine g_getfield W141 d_prog_61_method_9_code_57 (pc' := 60) (host := "") rfl (Or.inl (hw _ (List.mem_of_getElem? (i := 78) rfl))) Via.refl Fa fun T147 W148 => ?_
        refine g_iload_n W148 d_prog_61_method_9_code_60 (pc' := 61) rfl rfl ?_
        refine g_interface W148 d_prog_61_method_9_code_61 (pc' := 66) (a := l1) (fr' := []) (argsL := [(.int (0 : Int32))]) (rest := []) (Wd := 0) (kc := 0) (ks := 0) rfl (hw _ (List.mem_of_getElem? (i := 147) rfl)) (hw _ (List.mem_of_getElem? (i := 148) rfl)) (hw _ (List.mem_of_getElem? (i := 149) rfl)) (hw _ (List.mem_of_getElem? (i := 150) rfl)) (hw _ (List.mem_of_getElem? (i := 151) rfl)) (hw _ (List.mem_of_getElem? (i := 152) rfl)) (hw _ (List.mem_of_getElem? (i := 153) rfl)) (hw _ (List.mem_of_getElem? (i := 94) rfl)) rfl (by decide) Ol.1 rfl rfl (lenOf pd_7 rfl) rfl all0 (by decide) (by decide) (Met.pays (rm_get hw hEL Sc hzc l1 d k (2 : Int32) (2 : Int32) (10 : Int32) (0 : Int32) _ (.ref e0) _ W148.ext Ol Ad1 (by decide) (by decide) rfl rfl) (hw _ (List.mem_of_getElem? (i := 154) rfl)) (hw _ (List.mem_of_getElem? (i := 31) rfl)) hEL (by decide) (by decide)) fun v154 T149 h151 W150 K152 q153 => ?_
        obtain ⟨rfl, rfl⟩ := q153
        show Goes _ _ _ _ _ _ _ _ _ _ _ T149 (mkF m 66 #[.val (.ref a1), .val (.ref q), .val (.int (0 : Int32)), .val (.ref x0)] [(.ref e0)])
        refine g_checkcast W150 d_prog_61_method_9_code_66 (pc' := 69) rfl (hw _ (List.mem_of_getElem? (i := 168) rfl)) (Ins.of_exa Oe0.1 (hw _ (List.mem_of_getElem? (i := 169) rfl))) fun T155 W156 => ?_
        refine g_virtual W156 d_prog_61_method_9_code_69 (pc' := 72) (a := e0) (fr' := []) (argsL := []) (rest := []) (Wd := 0) (kc := 0) (ks := 0) rfl (hw _ (List.mem_of_getElem? (i := 196) rfl)) (hw _ (List.mem_of_getElem? (i := 197) rfl)) (hw _ (List.mem_of_getElem? (i := 199) rfl)) (hw _ (List.mem_of_getElem? (i := 198) rfl)) (by decide) Oe0.1 rfl rfl (lenOf pd_10 rfl) rfl all0 (by decide) (by decide) (Met.pays (met_getter (rm := ({ frames := 0, cells := 0, slots := 0, locals := 0 } : Room)) (plainFor_of_name pn_1) hEL W156.ext d_prog_62_method_8_code_0 d_prog_62_method_8_code_1 (hw _ (List.mem_of_getElem? (i := 116) rfl)) (Oe0.get 3 rfl) (Or.inl ⟨d_prog_62_method_8_code_4, rfl, rfl⟩)) (hw _ (List.mem_of_getElem? (i := 200) rfl)) (hw _ (List.mem_of_getElem? (i := 100) rfl)) hEL (by decide) (by decide)) fun v162 T157 h159 W158 K160 q161 => ?_
        obtain ⟨rfl, rfl⟩ := q161
        show Goes _ _ _ _ _ _ _ _ _ _ _ T157 (mkF m 72 #[.val (.ref a1), .val (.ref q), .val (.int (0 : Int32)), .val (.ref x0)] [(.ref u0)])
        exact g_areturn W158 d_prog_61_method_9_code_72 rfl rfl rfl (Keep.refl h []) ⟨rfl, by simp [c146]⟩ (by decide) (by decide)
      · refine g_ifY W141 d_prog_61_method_9_code_53 (pc' := 73) (by decide) (by decide) (Jvm.Free.XT.i0_eq_t rfl) ?_
        exact N0 c146 _ W141
    · refine g_icmpY W134 d_prog_61_method_9_code_45 (pc' := 73) (by decide) (by decide) (Jvm.Free.XT.ii_ne_t c139) ?_
      exact N0 (fun z => c139 (by rw [z])) _ W134
set_option maxRecDepth 65536 in
set_option maxHeartbeats 40000000 in
theorem rm_given3 {l : Launch} {Z : State} {a0 : Array Value} (hw : ∀ d ∈ tables_1, d.before a0 Z = true) (hEL : EW Z a0 EL1) {zc : Int32} (Sc : Sta Z Z.heap "java/lang/String" "COMPACT_STRINGS" "Z" (.int zc)) (hzc : ¬ zc = 0) (a1 q : Addr) (csq : List Int32) (l1 d : Addr) (k : ClassId) (e0 x0 u0 : Addr) (y0 : Value) (e1 x1 u1 : Addr) (y1 : Value) (e2 x2 u2 : Addr) (y2 : Value) (cs0 : List Int32) (cs1 : List Int32) (cs2 : List Int32) (h : Heap) (hX : Ext Z.heap h) (Fa : Fld Z h a1 "com/example/config_into_context/configintocontext/XmlElement" "attributes" "Ljava/util/List;" (.ref l1)) (Ol : Obj Z h l1 "java/util/ArrayList" [(("java/util/AbstractList", "modCount", "I"), (.int (3 : Int32))), (("java/util/ArrayList", "elementData", "[Ljava/lang/Object;"), (.ref d)), (("java/util/ArrayList", "size", "I"), (.int (3 : Int32)))]) (Ad1 : Arv Z h d k (.object "java/lang/Object") (10 : Int32) [.ref e0, .ref e1, .ref e2, .null, .null, .null, .null, .null, .null, .null] .null) (Oe0 : Obj Z h e0 "com/example/config_into_context/configintocontext/XmlElement$Attribute" [(("com/example/config_into_context/configintocontext/XmlElement$Attribute", "namespace", "Ljava/lang/String;"), .null), (("com/example/config_into_context/configintocontext/XmlElement$Attribute", "localName", "Ljava/lang/String;"), y0), (("com/example/config_into_context/configintocontext/XmlElement$Attribute", "name", "Ljava/lang/String;"), (.ref x0)), (("com/example/config_into_context/configintocontext/XmlElement$Attribute", "value", "Ljava/lang/String;"), (.ref u0))]) (Oe1 : Obj Z h e1 "com/example/config_into_context/configintocontext/XmlElement$Attribute" [(("com/example/config_into_context/configintocontext/XmlElement$Attribute", "namespace", "Ljava/lang/String;"), .null), (("com/example/config_into_context/configintocontext/XmlElement$Attribute", "localName", "Ljava/lang/String;"), y1), (("com/example/config_into_context/configintocontext/XmlElement$Attribute", "name", "Ljava/lang/String;"), (.ref x1)), (("com/example/config_into_context/configintocontext/XmlElement$Attribute", "value", "Ljava/lang/String;"), (.ref u1))]) (Oe2 : Obj Z h e2 "com/example/config_into_context/configintocontext/XmlElement$Attribute" [(("com/example/config_into_context/configintocontext/XmlElement$Attribute", "namespace", "Ljava/lang/String;"), .null), (("com/example/config_into_context/configintocontext/XmlElement$Attribute", "localName", "Ljava/lang/String;"), y2), (("com/example/config_into_context/configintocontext/XmlElement$Attribute", "name", "Ljava/lang/String;"), (.ref x2)), (("com/example/config_into_context/configintocontext/XmlElement$Attribute", "value", "Ljava/lang/String;"), (.ref u2))]) (Sq : Str Z h q csq) (S0 : Str Z h x0 cs0) (S1 : Str Z h x1 cs1) (S2 : Str Z h x2 cs2) : Met l Z EL1 NW (⟨"com/example/config_into_context/configintocontext/XmlElement", "given", "(Ljava/lang/String;)Ljava/lang/String;"⟩ : MethodName) prog_61_method_9_code 4 (some (.object "java/lang/String")) [] ({ frames := 4, cells := 0, slots := 0, locals := 130 } : Room) #[(.ref a1), (.ref q)] h [] (fun v h' => h = h' ∧ v = some (if cs0 = csq then .ref u0 else if cs1 = csq then .ref u1 else if cs2 = csq then .ref u2 else .null : Value)) := by
  refine Met.intro pf_18 hEL hX (fun _ q => nomatch q) ?_
  intro p e s m below meth c T W
  refine Goes.cast (show entryFrame m #[(.ref a1), (.ref q)] 4 = mkF m 0 #[.val (.ref a1), .val (.ref q), .unset, .unset] [] by first | (simp [entryFrame, mkF, argsToLocals, Value.category]; done) | rfl) ?_
  refine g_iconst W d_prog_61_method_9_code_0 (pc' := 1) (v := (0 : Int32)) rfl rfl ?_
  refine g_istore_n W d_prog_61_method_9_code_1 (pc' := 2) (L' := #[.val (.ref a1), .val (.ref q), .val (.int (0 : Int32)), .unset]) rfl rfl ?_
  refine g_iload_n W d_prog_61_method_9_code_2 (pc' := 3) rfl rfl ?_
  refine g_aload_n W d_prog_61_method_9_code_3 (pc' := 4) rfl rfl rfl ?_
  refine g_getfield W d_prog_61_method_9_code_4 (pc' := 7) (host := "") rfl (Or.inl (hw _ (List.mem_of_getElem? (i := 78) rfl))) Via.refl Fa fun T1 W2 => ?_
  refine g_interface W2 d_prog_61_method_9_code_7 (pc' := 12) (a := l1) (fr' := []) (argsL := []) (rest := [(.int (0 : Int32))]) (Wd := 1) (kc := 0) (ks := 0) rfl (hw _ (List.mem_of_getElem? (i := 87) rfl)) (hw _ (List.mem_of_getElem? (i := 88) rfl)) (hw _ (List.mem_of_getElem? (i := 89) rfl)) (hw _ (List.mem_of_getElem? (i := 90) rfl)) (hw _ (List.mem_of_getElem? (i := 91) rfl)) (hw _ (List.mem_of_getElem? (i := 92) rfl)) (hw _ (List.mem_of_getElem? (i := 93) rfl)) (hw _ (List.mem_of_getElem? (i := 94) rfl)) rfl (by decide) Ol.1 rfl rfl (lenOf pd_9 rfl) rfl all0 (by decide) (by decide) (Met.pays (met_getter (rm := ({ frames := 0, cells := 0, slots := 0, locals := 0 } : Room)) (plainFor_of_name pn_0) hEL W2.ext d_jdk_38_method_8_code_0 d_jdk_38_method_8_code_1 (hw _ (List.mem_of_getElem? (i := 96) rfl)) (Ol.get 2 rfl) (Or.inr ⟨d_jdk_38_method_8_code_4, by decide, rfl, _, rfl⟩)) (hw _ (List.mem_of_getElem? (i := 95) rfl)) (hw _ (List.mem_of_getElem? (i := 31) rfl)) hEL (by decide) (by decide)) fun v8 T3 h5 W4 K6 q7 => ?_
  obtain ⟨rfl, rfl⟩ := q7
  show Goes _ _ _ _ _ _ _ _ _ _ _ T3 (mkF m 12 #[.val (.ref a1), .val (.ref q), .val (.int (0 : Int32)), .unset] [(.int (3 : Int32)), (.int (0 : Int32))])
  refine g_icmpN W4 d_prog_61_method_9_code_12 (pc' := 15) rfl (Jvm.Free.XT.ii_ge_f (by decide)) ?_
  have N0 : ¬ cs0 = csq → ∀ T', Wk p l e ({ frames := 4, cells := 0, slots := 0, locals := 130 } : Room) s m #[(.ref a1), (.ref q)] below meth c (⟨"com/example/config_into_context/configintocontext/XmlElement", "given", "(Ljava/lang/String;)Ljava/lang/String;"⟩ : MethodName) prog_61_method_9_code 4 (some (.object "java/lang/String")) Z a0 EL1 NW h T' h [] 0 0 → Goes p e below s Z EL1 NW h [] (fun v h' => h = h' ∧ v = some (if cs0 = csq then .ref u0 else if cs1 = csq then .ref u1 else if cs2 = csq then .ref u2 else .null : Value)) ({ frames := 4, cells := 0, slots := 0, locals := 130 } : Room) T' (mkF m 73 #[.val (.ref a1), .val (.ref q), .val (.int (0 : Int32)), .val (.ref x0)] []) := by
    intro nq0 T' W'
    refine g_iinc W' d_prog_61_method_9_code_73 (pc' := 76) (v := (1 : Int32)) (L' := #[.val (.ref a1), .val (.ref q), .val (.int ((0 : Int32) + (1 : Int32))), .val (.ref x0)]) rfl rfl rfl rfl ?_
    show Goes _ _ _ _ _ _ _ _ _ _ _ T' (mkF m 76 #[.val (.ref a1), .val (.ref q), .val (.int (1 : Int32)), .val (.ref x0)] [])
    refine g_goto W' d_prog_61_method_9_code_76 (pc' := 2) (by decide) (by decide) ?_
    refine g_iload_n W' d_prog_61_method_9_code_2 (pc' := 3) rfl rfl ?_
    refine g_aload_n W' d_prog_61_method_9_code_3 (pc' := 4) rfl rfl rfl ?_
    refine g_getfield W' d_prog_61_method_9_code_4 (pc' := 7) (host := "") rfl (Or.inl (hw _ (List.mem_of_getElem? (i := 78) rfl))) Via.refl Fa fun T9 W10 => ?_
    refine g_interface W10 d_prog_61_method_9_code_7 (pc' := 12) (a := l1) (fr' := []) (argsL := []) (rest := [(.int (1 : Int32))]) (Wd := 1) (kc := 0) (ks := 0) rfl (hw _ (List.mem_of_getElem? (i := 87) rfl)) (hw _ (List.mem_of_getElem? (i := 88) rfl)) (hw _ (List.mem_of_getElem? (i := 89) rfl)) (hw _ (List.mem_of_getElem? (i := 90) rfl)) (hw _ (List.mem_of_getElem? (i := 91) rfl)) (hw _ (List.mem_of_getElem? (i := 92) rfl)) (hw _ (List.mem_of_getElem? (i := 93) rfl)) (hw _ (List.mem_of_getElem? (i := 94) rfl)) rfl (by decide) Ol.1 rfl rfl (lenOf pd_9 rfl) rfl all0 (by decide) (by decide) (Met.pays (met_getter (rm := ({ frames := 0, cells := 0, slots := 0, locals := 0 } : Room)) (plainFor_of_name pn_0) hEL W10.ext d_jdk_38_method_8_code_0 d_jdk_38_method_8_code_1 (hw _ (List.mem_of_getElem? (i := 96) rfl)) (Ol.get 2 rfl) (Or.inr ⟨d_jdk_38_method_8_code_4, by decide, rfl, _, rfl⟩)) (hw _ (List.mem_of_getElem? (i := 95) rfl)) (hw _ (List.mem_of_getElem? (i := 31) rfl)) hEL (by decide) (by decide)) fun v16 T11 h13 W12 K14 q15 => ?_
    obtain ⟨rfl, rfl⟩ := q15
    show Goes _ _ _ _ _ _ _ _ _ _ _ T11 (mkF m 12 #[.val (.ref a1), .val (.ref q), .val (.int (1 : Int32)), .val (.ref x0)] [(.int (3 : Int32)), (.int (1 : Int32))])
    refine g_icmpN W12 d_prog_61_method_9_code_12 (pc' := 15) rfl (Jvm.Free.XT.ii_ge_f (by decide)) ?_
    have N1 : ¬ cs1 = csq → ∀ T', Wk p l e ({ frames := 4, cells := 0, slots := 0, locals := 130 } : Room) s m #[(.ref a1), (.ref q)] below meth c (⟨"com/example/config_into_context/configintocontext/XmlElement", "given", "(Ljava/lang/String;)Ljava/lang/String;"⟩ : MethodName) prog_61_method_9_code 4 (some (.object "java/lang/String")) Z a0 EL1 NW h T' h [] 0 0 → Goes p e below s Z EL1 NW h [] (fun v h' => h = h' ∧ v = some (if cs0 = csq then .ref u0 else if cs1 = csq then .ref u1 else if cs2 = csq then .ref u2 else .null : Value)) ({ frames := 4, cells := 0, slots := 0, locals := 130 } : Room) T' (mkF m 73 #[.val (.ref a1), .val (.ref q), .val (.int (1 : Int32)), .val (.ref x1)] []) := by
      intro nq1 T' W'
      refine g_iinc W' d_prog_61_method_9_code_73 (pc' := 76) (v := (1 : Int32)) (L' := #[.val (.ref a1), .val (.ref q), .val (.int ((1 : Int32) + (1 : Int32))), .val (.ref x1)]) rfl rfl rfl rfl ?_
      show Goes _ _ _ _ _ _ _ _ _ _ _ T' (mkF m 76 #[.val (.ref a1), .val (.ref q), .val (.int (2 : Int32)), .val (.ref x1)] [])
      refine g_goto W' d_prog_61_method_9_code_76 (pc' := 2) (by decide) (by decide) ?_
      refine g_iload_n W' d_prog_61_method_9_code_2 (pc' := 3) rfl rfl ?_
      refine g_aload_n W' d_prog_61_method_9_code_3 (pc' := 4) rfl rfl rfl ?_
      refine g_getfield W' d_prog_61_method_9_code_4 (pc' := 7) (host := "") rfl (Or.inl (hw _ (List.mem_of_getElem? (i := 78) rfl))) Via.refl Fa fun T17 W18 => ?_
      refine g_interface W18 d_prog_61_method_9_code_7 (pc' := 12) (a := l1) (fr' := []) (argsL := []) (rest := [(.int (2 : Int32))]) (Wd := 1) (kc := 0) (ks := 0) rfl (hw _ (List.mem_of_getElem? (i := 87) rfl)) (hw _ (List.mem_of_getElem? (i := 88) rfl)) (hw _ (List.mem_of_getElem? (i := 89) rfl)) (hw _ (List.mem_of_getElem? (i := 90) rfl)) (hw _ (List.mem_of_getElem? (i := 91) rfl)) (hw _ (List.mem_of_getElem? (i := 92) rfl)) (hw _ (List.mem_of_getElem? (i := 93) rfl)) (hw _ (List.mem_of_getElem? (i := 94) rfl)) rfl (by decide) Ol.1 rfl rfl (lenOf pd_9 rfl) rfl all0 (by decide) (by decide) (Met.pays (met_getter (rm := ({ frames := 0, cells := 0, slots := 0, locals := 0 } : Room)) (plainFor_of_name pn_0) hEL W18.ext d_jdk_38_method_8_code_0 d_jdk_38_method_8_code_1 (hw _ (List.mem_of_getElem? (i := 96) rfl)) (Ol.get 2 rfl) (Or.inr ⟨d_jdk_38_method_8_code_4, by decide, rfl, _, rfl⟩)) (hw _ (List.mem_of_getElem? (i := 95) rfl)) (hw _ (List.mem_of_getElem? (i := 31) rfl)) hEL (by decide) (by decide)) fun v24 T19 h21 W20 K22 q23 => ?_
      obtain ⟨rfl, rfl⟩ := q23
      show Goes _ _ _ _ _ _ _ _ _ _ _ T19 (mkF m 12 #[.val (.ref a1), .val (.ref q), .val (.int (2 : Int32)), .val (.ref x1)] [(.int (3 : Int32)), (.int (2 : Int32))])
      refine g_icmpN W20 d_prog_61_method_9_code_12 (pc' := 15) rfl (Jvm.Free.XT.ii_ge_f (by decide)) ?_
      have N2 : ¬ cs2 = csq → ∀ T', Wk p l e ({ frames := 4, cells := 0, slots := 0, locals := 130 } : Room) s m #[(.ref a1), (.ref q)] below meth c (⟨"com/example/config_into_context/configintocontext/XmlElement", "given", "(Ljava/lang/String;)Ljava/lang/String;"⟩ : MethodName) prog_61_method_9_code 4 (some (.object "java/lang/String")) Z a0 EL1 NW h T' h [] 0 0 → Goes p e below s Z EL1 NW h [] (fun v h' => h = h' ∧ v = some (if cs0 = csq then .ref u0 else if cs1 = csq then .ref u1 else if cs2 = csq then .ref u2 else .null : Value)) ({ frames := 4, cells := 0, slots := 0, locals := 130 } : Room) T' (mkF m 73 #[.val (.ref a1), .val (.ref q), .val (.int (2 : Int32)), .val (.ref x2)] []) := by
        intro nq2 T' W'
        refine g_iinc W' d_prog_61_method_9_code_73 (pc' := 76) (v := (1 : Int32)) (L' := #[.val (.ref a1), .val (.ref q), .val (.int ((2 : Int32) + (1 : Int32))), .val (.ref x2)]) rfl rfl rfl rfl ?_
        show Goes _ _ _ _ _ _ _ _ _ _ _ T' (mkF m 76 #[.val (.ref a1), .val (.ref q), .val (.int (3 : Int32)), .val (.ref x2)] [])
        refine g_goto W' d_prog_61_method_9_code_76 (pc' := 2) (by decide) (by decide) ?_
        refine g_iload_n W' d_prog_61_method_9_code_2 (pc' := 3) rfl rfl ?_
        refine g_aload_n W' d_prog_61_method_9_code_3 (pc' := 4) rfl rfl rfl ?_
        refine g_getfield W' d_prog_61_method_9_code_4 (pc' := 7) (host := "") rfl (Or.inl (hw _ (List.mem_of_getElem? (i := 78) rfl))) Via.refl Fa fun T25 W26 => ?_
        refine g_interface W26 d_prog_61_method_9_code_7 (pc' := 12) (a := l1) (fr' := []) (argsL := []) (rest := [(.int (3 : Int32))]) (Wd := 1) (kc := 0) (ks := 0) rfl (hw _ (List.mem_of_getElem? (i := 87) rfl)) (hw _ (List.mem_of_getElem? (i := 88) rfl)) (hw _ (List.mem_of_getElem? (i := 89) rfl)) (hw _ (List.mem_of_getElem? (i := 90) rfl)) (hw _ (List.mem_of_getElem? (i := 91) rfl)) (hw _ (List.mem_of_getElem? (i := 92) rfl)) (hw _ (List.mem_of_getElem? (i := 93) rfl)) (hw _ (List.mem_of_getElem? (i := 94) rfl)) rfl (by decide) Ol.1 rfl rfl (lenOf pd_9 rfl) rfl all0 (by decide) (by decide) (Met.pays (met_getter (rm := ({ frames := 0, cells := 0, slots := 0, locals := 0 } : Room)) (plainFor_of_name pn_0) hEL W26.ext d_jdk_38_method_8_code_0 d_jdk_38_method_8_code_1 (hw _ (List.mem_of_getElem? (i := 96) rfl)) (Ol.get 2 rfl) (Or.inr ⟨d_jdk_38_method_8_code_4, by decide, rfl, _, rfl⟩)) (hw _ (List.mem_of_getElem? (i := 95) rfl)) (hw _ (List.mem_of_getElem? (i := 31) rfl)) hEL (by decide) (by decide)) fun v32 T27 h29 W28 K30 q31 => ?_
        obtain ⟨rfl, rfl⟩ := q31
        show Goes _ _ _ _ _ _ _ _ _ _ _ T27 (mkF m 12 #[.val (.ref a1), .val (.ref q), .val (.int (3 : Int32)), .val (.ref x2)] [(.int (3 : Int32)), (.int (3 : Int32))])
        refine g_icmpY W28 d_prog_61_method_9_code_12 (pc' := 79) (by decide) (by decide) (Jvm.Free.XT.ii_ge_t (by decide)) ?_
        refine g_aconst_null W28 d_prog_61_method_9_code_79 (pc' := 80) rfl ?_
        exact g_areturn W28 d_prog_61_method_9_code_80 rfl rfl rfl (Keep.refl h []) ⟨rfl, by simp [nq0, nq1, nq2]⟩ (by decide) (by decide)
      refine g_aload_n W20 d_prog_61_method_9_code_15 (pc' := 16) rfl rfl rfl ?_
      refine g_getfield W20 d_prog_61_method_9_code_16 (pc' := 19) (host := "") rfl (Or.inl (hw _ (List.mem_of_getElem? (i := 78) rfl))) Via.refl Fa fun T33 W34 => ?_
      refine g_iload_n W34 d_prog_61_method_9_code_19 (pc' := 20) rfl rfl ?_
      refine g_interface W34 d_prog_61_method_9_code_20 (pc' := 25) (a := l1) (fr' := []) (argsL := [(.int (2 : Int32))]) (rest := []) (Wd := 0) (kc := 0) (ks := 0) rfl (hw _ (List.mem_of_getElem? (i := 147) rfl)) (hw _ (List.mem_of_getElem? (i := 148) rfl)) (hw _ (List.mem_of_getElem? (i := 149) rfl)) (hw _ (List.mem_of_getElem? (i := 150) rfl)) (hw _ (List.mem_of_getElem? (i := 151) rfl)) (hw _ (List.mem_of_getElem? (i := 152) rfl)) (hw _ (List.mem_of_getElem? (i := 153) rfl)) (hw _ (List.mem_of_getElem? (i := 94) rfl)) rfl (by decide) Ol.1 rfl rfl (lenOf pd_7 rfl) rfl all0 (by decide) (by decide) (Met.pays (rm_get hw hEL Sc hzc l1 d k (3 : Int32) (3 : Int32) (10 : Int32) (2 : Int32) _ (.ref e2) _ W34.ext Ol Ad1 (by decide) (by decide) rfl rfl) (hw _ (List.mem_of_getElem? (i := 154) rfl)) (hw _ (List.mem_of_getElem? (i := 31) rfl)) hEL (by decide) (by decide)) fun v40 T35 h37 W36 K38 q39 => ?_
      obtain ⟨rfl, rfl⟩ := q39
      show Goes _ _ _ _ _ _ _ _ _ _ _ T35 (mkF m 25 #[.val (.ref a1), .val (.ref q), .val (.int (2 : Int32)), .val (.ref x1)] [(.ref e2)])
      refine g_checkcast W36 d_prog_61_method_9_code_25 (pc' := 28) rfl (hw _ (List.mem_of_getElem? (i := 168) rfl)) (Ins.of_exa Oe2.1 (hw _ (List.mem_of_getElem? (i := 169) rfl))) fun T41 W42 => ?_
      refine g_virtual W42 d_prog_61_method_9_code_28 (pc' := 31) (a := e2) (fr' := []) (argsL := []) (rest := []) (Wd := 0) (kc := 0) (ks := 0) rfl (hw _ (List.mem_of_getElem? (i := 170) rfl)) (hw _ (List.mem_of_getElem? (i := 171) rfl)) (hw _ (List.mem_of_getElem? (i := 173) rfl)) (hw _ (List.mem_of_getElem? (i := 172) rfl)) (by decide) Oe2.1 rfl rfl (lenOf pd_10 rfl) rfl all0 (by decide) (by decide) (Met.pays (met_getter (rm := ({ frames := 0, cells := 0, slots := 0, locals := 0 } : Room)) (plainFor_of_name pn_1) hEL W42.ext d_prog_62_method_7_code_0 d_prog_62_method_7_code_1 (hw _ (List.mem_of_getElem? (i := 114) rfl)) (Oe2.get 2 rfl) (Or.inl ⟨d_prog_62_method_7_code_4, rfl, rfl⟩)) (hw _ (List.mem_of_getElem? (i := 174) rfl)) (hw _ (List.mem_of_getElem? (i := 100) rfl)) hEL (by decide) (by decide)) fun v48 T43 h45 W44 K46 q47 => ?_
      obtain ⟨rfl, rfl⟩ := q47
      show Goes _ _ _ _ _ _ _ _ _ _ _ T43 (mkF m 31 #[.val (.ref a1), .val (.ref q), .val (.int (2 : Int32)), .val (.ref x1)] [(.ref x2)])
      refine g_astore_n W44 d_prog_61_method_9_code_31 (pc' := 32) (L' := #[.val (.ref a1), .val (.ref q), .val (.int (2 : Int32)), .val (.ref x2)]) rfl rfl rfl ?_
      refine g_aload_n W44 d_prog_61_method_9_code_32 (pc' := 33) rfl rfl rfl ?_
      refine g_aload_n W44 d_prog_61_method_9_code_33 (pc' := 34) rfl rfl rfl ?_
      by_cases c49 : x2 = q
      · refine g_acmpY W44 d_prog_61_method_9_code_34 (pc' := 56) (by decide) (by decide) rfl rfl (Jvm.Free.XT.aa_eq_t (congrArg Value.ref c49)) ?_
        have ec49 : cs2 = csq := Str.uniq S2 (c49 ▸ Sq)
        refine g_aload_n W44 d_prog_61_method_9_code_56 (pc' := 57) rfl rfl rfl ?_
        refine g_getfield W44 d_prog_61_method_9_code_57 (pc' := 60) (host := "") rfl (Or.inl (hw _ (List.mem_of_getElem? (i := 78) rfl))) Via.refl Fa fun T50 W51 => ?_
        refine g_iload_n W51 d_prog_61_method_9_code_60 (pc' := 61) rfl rfl ?_
        refine g_interface W51 d_prog_61_method_9_code_61 (pc' := 66) (a := l1) (fr' := []) (argsL := [(.int (2 : Int32))]) (rest := []) (Wd := 0) (kc := 0) (ks := 0) rfl (hw _ (List.mem_of_getElem? (i := 147) rfl)) (hw _ (List.mem_of_getElem? (i := 148) rfl)) (hw _ (List.mem_of_getElem? (i := 149) rfl)) (hw _ (List.mem_of_getElem? (i := 150) rfl)) (hw _ (List.mem_of_getElem? (i := 151) rfl)) (hw _ (List.mem_of_getElem? (i := 152) rfl)) (hw _ (List.mem_of_getElem? (i := 153) rfl)) (hw _ (List.mem_of_getElem? (i := 94) rfl)) rfl (by decide) Ol.1 rfl rfl (lenOf pd_7 rfl) rfl all0 (by decide) (by decide) (Met.pays (rm_get hw hEL Sc hzc l1 d k (3 : Int32) (3 : Int32) (10 : Int32) (2 : Int32) _ (.ref e2) _ W51.ext Ol Ad1 (by decide) (by decide) rfl rfl) (hw _ (List.mem_of_getElem? (i := 154) rfl)) (hw _ (List.mem_of_getElem? (i := 31) rfl)) hEL (by decide) (by decide)) fun v57 T52 h54 W53 K55 q56 => ?_
        obtain ⟨rfl, rfl⟩ := q56
        show Goes _ _ _ _ _ _ _ _ _ _ _ T52 (mkF m 66 #[.val (.ref a1), .val (.ref q), .val (.int (2 : Int32)), .val (.ref x2)] [(.ref e2)])
        refine g_checkcast W53 d_prog_61_method_9_code_66 (pc' := 69) rfl (hw _ (List.mem_of_getElem? (i := 168) rfl)) (Ins.of_exa Oe2.1 (hw _ (List.mem_of_getElem? (i := 169) rfl))) fun T58 W59 => ?_
        refine g_virtual W59 d_prog_61_method_9_code_69 (pc' := 72) (a := e2) (fr' := []) (argsL := []) (rest := []) (Wd := 0) (kc := 0) (ks := 0) rfl (hw _ (List.mem_of_getElem? (i := 196) rfl)) (hw _ (List.mem_of_getElem? (i := 197) rfl)) (hw _ (List.mem_of_getElem? (i := 199) rfl)) (hw _ (List.mem_of_getElem? (i := 198) rfl)) (by decide) Oe2.1 rfl rfl (lenOf pd_10 rfl) rfl all0 (by decide) (by decide) (Met.pays (met_getter (rm := ({ frames := 0, cells := 0, slots := 0, locals := 0 } : Room)) (plainFor_of_name pn_1) hEL W59.ext d_prog_62_method_8_code_0 d_prog_62_method_8_code_1 (hw _ (List.mem_of_getElem? (i := 116) rfl)) (Oe2.get 3 rfl) (Or.inl ⟨d_prog_62_method_8_code_4, rfl, rfl⟩)) (hw _ (List.mem_of_getElem? (i := 200) rfl)) (hw _ (List.mem_of_getElem? (i := 100) rfl)) hEL (by decide) (by decide)) fun v65 T60 h62 W61 K63 q64 => ?_
        obtain ⟨rfl, rfl⟩ := q64
        show Goes _ _ _ _ _ _ _ _ _ _ _ T60 (mkF m 72 #[.val (.ref a1), .val (.ref q), .val (.int (2 : Int32)), .val (.ref x2)] [(.ref u2)])
        exact g_areturn W61 d_prog_61_method_9_code_72 rfl rfl rfl (Keep.refl h []) ⟨rfl, by simp [nq0, nq1, ec49]⟩ (by decide) (by decide)
      · refine g_acmpN W44 d_prog_61_method_9_code_34 (pc' := 37) rfl rfl rfl (Jvm.Free.XT.aa_eq_f (fun z => c49 (Value.ref.inj z))) ?_
        refine g_aload_n W44 d_prog_61_method_9_code_37 (pc' := 38) rfl rfl rfl ?_
        refine g_virtual W44 d_prog_61_method_9_code_38 (pc' := 41) (a := x2) (fr' := []) (argsL := []) (rest := []) (Wd := 0) (kc := 0) (ks := 0) rfl (hw _ (List.mem_of_getElem? (i := 175) rfl)) (hw _ (List.mem_of_getElem? (i := 176) rfl)) (hw _ (List.mem_of_getElem? (i := 178) rfl)) (hw _ (List.mem_of_getElem? (i := 177) rfl)) (by decide) S2.exa rfl rfl (lenOf pd_9 rfl) rfl all0 (by decide) (by decide) (pays_len hEL (fun d hd => hw d ((by decide +kernel : ∀ d ∈ StrChars.Road.wordsLen, d ∈ tables_1) d hd)) (hw _ (List.mem_of_getElem? (i := 5) rfl)) S2 Sc hzc W44.ext (by decide) (by decide)) fun v71 T66 h68 W67 K69 q70 => ?_
        obtain ⟨rfl, rfl⟩ := q70
        show Goes _ _ _ _ _ _ _ _ _ _ _ T66 (mkF m 41 #[.val (.ref a1), .val (.ref q), .val (.int (2 : Int32)), .val (.ref x2)] [(.int (Int32.ofNat cs2.length))])
        refine g_aload_n W67 d_prog_61_method_9_code_41 (pc' := 42) rfl rfl rfl ?_
        refine g_virtual W67 d_prog_61_method_9_code_42 (pc' := 45) (a := q) (fr' := []) (argsL := []) (rest := [(.int (Int32.ofNat cs2.length))]) (Wd := 1) (kc := 0) (ks := 0) rfl (hw _ (List.mem_of_getElem? (i := 175) rfl)) (hw _ (List.mem_of_getElem? (i := 176) rfl)) (hw _ (List.mem_of_getElem? (i := 178) rfl)) (hw _ (List.mem_of_getElem? (i := 177) rfl)) (by decide) Sq.exa rfl rfl (lenOf pd_9 rfl) rfl all0 (by decide) (by decide) (pays_len hEL (fun d hd => hw d ((by decide +kernel : ∀ d ∈ StrChars.Road.wordsLen, d ∈ tables_1) d hd)) (hw _ (List.mem_of_getElem? (i := 5) rfl)) Sq Sc hzc W67.ext (by decide) (by decide)) fun v77 T72 h74 W73 K75 q76 => ?_
        obtain ⟨rfl, rfl⟩ := q76
        show Goes _ _ _ _ _ _ _ _ _ _ _ T72 (mkF m 45 #[.val (.ref a1), .val (.ref q), .val (.int (2 : Int32)), .val (.ref x2)] [(.int (Int32.ofNat csq.length)), (.int (Int32.ofNat cs2.length))])
        by_cases c78 : (Int32.ofNat cs2.length) = (Int32.ofNat csq.length)
        · refine g_icmpN W73 d_prog_61_method_9_code_45 (pc' := 48) rfl (Jvm.Free.XT.ii_ne_f c78) ?_
          refine g_aload_n W73 d_prog_61_method_9_code_48 (pc' := 49) rfl rfl rfl ?_
          refine g_aload_n W73 d_prog_61_method_9_code_49 (pc' := 50) rfl rfl rfl ?_
          refine g_virtual W73 d_prog_61_method_9_code_50 (pc' := 53) (a := x2) (fr' := []) (argsL := [(.ref q)]) (rest := []) (Wd := 0) (kc := 0) (ks := 0) rfl (hw _ (List.mem_of_getElem? (i := 186) rfl)) (hw _ (List.mem_of_getElem? (i := 187) rfl)) (hw _ (List.mem_of_getElem? (i := 189) rfl)) (hw _ (List.mem_of_getElem? (i := 188) rfl)) (by decide) S2.exa rfl rfl (lenOf pd_11 rfl) rfl all0 (by decide) (by decide) (pays_eq hEL (fun d hd => hw d ((by decide +kernel : ∀ d ∈ StrChars.Road.wordsEq, d ∈ tables_1) d hd)) (hw _ (List.mem_of_getElem? (i := 5) rfl)) S2 Sq Sc hzc W73.ext (by decide) (by decide)) fun v84 T79 h81 W80 K82 q83 => ?_
          obtain ⟨rfl, ⟨rfl, c85⟩ | ⟨rfl, c85⟩⟩ := q83
          · refine g_ifN W80 d_prog_61_method_9_code_53 (pc' := 56) rfl (Jvm.Free.XT.i0_eq_f (by decide)) ?_
            refine g_aload_n W80 d_prog_61_method_9_code_56 (pc' := 57) rfl rfl rfl ?_
            refine g_getfield W80 d_prog_61_method_9_code_57 (pc' := 60) (host := "") rfl (Or.inl (hw _ (List.mem_of_getElem? (i := 78) rfl))) Via.refl Fa fun T86 W87 => ?_
            refine g_iload_n W87 d_prog_61_method_9_code_60 (pc' := 61) rfl rfl ?_
            refine g_interface W87 d_prog_61_method_9_code_61 (pc' := 66) (a := l1) (fr' := []) (argsL := [(.int (2 : Int32))]) (rest := []) (Wd := 0) (kc := 0) (ks := 0) rfl (hw _ (List.mem_of_getElem? (i := 147) rfl)) (hw _ (List.mem_of_getElem? (i := 148) rfl)) (hw _ (List.mem_of_getElem? (i := 149) rfl)) (hw _ (List.mem_of_getElem? (i := 150) rfl)) (hw _ (List.mem_of_getElem? (i := 151) rfl)) (hw _ (List.mem_of_getElem? (i := 152) rfl)) (hw _ (List.mem_of_getElem? (i := 153) rfl)) (hw _ (List.mem_of_getElem? (i := 94) rfl)) rfl (by decide) Ol.1 rfl rfl (lenOf pd_7 rfl) rfl all0 (by decide) (by decide) (Met.pays (rm_get hw hEL Sc hzc l1 d k (3 : Int32) (3 : Int32) (10 : Int32) (2 : Int32) _ (.ref e2) _ W87.ext Ol Ad1 (by decide) (by decide) rfl rfl) (hw _ (List.mem_of_getElem? (i := 154) rfl)) (hw _ (List.mem_of_getElem? (i := 31) rfl)) hEL (by decide) (by decide)) fun v93 T88 h90 W89 K91 q92 => ?_
            obtain ⟨rfl, rfl⟩ := q92
            show Goes _ _ _ _ _ _ _ _ _ _ _ T88 (mkF m 66 #[.val (.ref a1), .val (.ref q), .val (.int (2 : Int32)), .val (.ref x2)] [(.ref e2)])
            refine g_checkcast W89 d_prog_61_method_9_code_66 (pc' := 69) rfl (hw _ (List.mem_of_getElem? (i := 168) rfl)) (Ins.of_exa Oe2.1 (hw _ (List.mem_of_getElem? (i := 169) rfl))) fun T94 W95 => ?_
            refine g_virtual W95 d_prog_61_method_9_code_69 (pc' := 72) (a := e2) (fr' := []) (argsL := []) (rest := []) (Wd := 0) (kc := 0) (ks := 0) rfl (hw _ (List.mem_of_getElem? (i := 196) rfl)) (hw _ (List.mem_of_getElem? (i := 197) rfl)) (hw _ (List.mem_of_getElem? (i := 199) rfl)) (hw _ (List.mem_of_getElem? (i := 198) rfl)) (by decide) Oe2.1 rfl rfl (lenOf pd_10 rfl) rfl all0 (by decide) (by decide) (Met.pays (met_getter (rm := ({ frames := 0, cells := 0, slots := 0, locals := 0 } : Room)) (plainFor_of_name pn_1) hEL W95.ext d_prog_62_method_8_code_0 d_prog_62_method_8_code_1 (hw _ (List.mem_of_getElem? (i := 116) rfl)) (Oe2.get 3 rfl) (Or.inl ⟨d_prog_62_method_8_code_4, rfl, rfl⟩)) (hw _ (List.mem_of_getElem? (i := 200) rfl)) (hw _ (List.mem_of_getElem? (i := 100) rfl)) hEL (by decide) (by decide)) fun v101 T96 h98 W97 K99 q100 => ?_
            obtain ⟨rfl, rfl⟩ := q100
            show Goes _ _ _ _ _ _ _ _ _ _ _ T96 (mkF m 72 #[.val (.ref a1), .val (.ref q), .val (.int (2 : Int32)), .val (.ref x2)] [(.ref u2)])
            exact g_areturn W97 d_prog_61_method_9_code_72 rfl rfl rfl (Keep.refl h []) ⟨rfl, by simp [nq0, nq1, c85]⟩ (by decide) (by decide)
          · refine g_ifY W80 d_prog_61_method_9_code_53 (pc' := 73) (by decide) (by decide) (Jvm.Free.XT.i0_eq_t rfl) ?_
            exact N2 c85 _ W80
        · refine g_icmpY W73 d_prog_61_method_9_code_45 (pc' := 73) (by decide) (by decide) (Jvm.Free.XT.ii_ne_t c78) ?_
          exact N2 (fun z => c78 (by rw [z])) _ W73
    refine g_aload_n W12 d_prog_61_method_9_code_15 (pc' := 16) rfl rfl rfl ?_
    refine g_getfield W12 d_prog_61_method_9_code_16 (pc' := 19) (host := "") rfl (Or.inl (hw _ (List.mem_of_getElem? (i := 78) rfl))) Via.refl Fa fun T102 W103 => ?_
    refine g_iload_n W103 d_prog_61_method_9_code_19 (pc' := 20) rfl rfl ?_
    refine g_interface W103 d_prog_61_method_9_code_20 (pc' := 25) (a := l1) (fr' := []) (argsL := [(.int (1 : Int32))]) (rest := []) (Wd := 0) (kc := 0) (ks := 0) rfl (hw _ (List.mem_of_getElem? (i := 147) rfl)) (hw _ (List.mem_of_getElem? (i := 148) rfl)) (hw _ (List.mem_of_getElem? (i := 149) rfl)) (hw _ (List.mem_of_getElem? (i := 150) rfl)) (hw _ (List.mem_of_getElem? (i := 151) rfl)) (hw _ (List.mem_of_getElem? (i := 152) rfl)) (hw _ (List.mem_of_getElem? (i := 153) rfl)) (hw _ (List.mem_of_getElem? (i := 94) rfl)) rfl (by decide) Ol.1 rfl rfl (lenOf pd_7 rfl) rfl all0 (by decide) (by decide) (Met.pays (rm_get hw hEL Sc hzc l1 d k (3 : Int32) (3 : Int32) (10 : Int32) (1 : Int32) _ (.ref e1) _ W103.ext Ol Ad1 (by decide) (by decide) rfl rfl) (hw _ (List.mem_of_getElem? (i := 154) rfl)) (hw _ (List.mem_of_getElem? (i := 31) rfl)) hEL (by decide) (by decide)) fun v109 T104 h106 W105 K107 q108 => ?_
    obtain ⟨rfl, rfl⟩ := q108
    show Goes _ _ _ _ _ _ _ _ _ _ _ T104 (mkF m 25 #[.val (.ref a1), .val (.ref q), .val (.int (1 : Int32)), .val (.ref x0)] [(.ref e1)])
    refine g_checkcast W105 d_prog_61_method_9_code_25 (pc' := 28) rfl (hw _ (List.mem_of_getElem? (i := 168) rfl)) (Ins.of_exa Oe1.1 (hw _ (List.mem_of_getElem? (i := 169) rfl))) fun T110 W111 => ?_
    refine g_virtual W111 d_prog_61_method_9_code_28 (pc' := 31) (a := e1) (fr' := []) (argsL := []) (rest := []) (Wd := 0) (kc := 0) (ks := 0) rfl (hw _ (List.mem_of_getElem? (i := 170) rfl)) (hw _ (List.mem_of_getElem? (i := 171) rfl)) (hw _ (List.mem_of_getElem? (i := 173) rfl)) (hw _ (List.mem_of_getElem? (i := 172) rfl)) (by decide) Oe1.1 rfl rfl (lenOf pd_10 rfl) rfl all0 (by decide) (by decide) (Met.pays (met_getter (rm := ({ frames := 0, cells := 0, slots := 0, locals := 0 } : Room)) (plainFor_of_name pn_1) hEL W111.ext d_prog_62_method_7_code_0 d_prog_62_method_7_code_1 (hw _ (List.mem_of_getElem? (i := 114) rfl)) (Oe1.get 2 rfl) (Or.inl ⟨d_prog_62_method_7_code_4, rfl, rfl⟩)) (hw _ (List.mem_of_getElem? (i := 174) rfl)) (hw _ (List.mem_of_getElem? (i := 100) rfl)) hEL (by decide) (by decide)) fun v117 T112 h114 W113 K115 q116 => ?_
    obtain ⟨rfl, rfl⟩ := q116
    show Goes _ _ _ _ _ _ _ _ _ _ _ T112 (mkF m 31 #[.val (.ref a1), .val (.ref q), .val (.int (1 : Int32)), .val (.ref x0)] [(.ref x1)])
    refine g_astore_n W113 d_prog_61_method_9_code_31 (pc' := 32) (L' := #[.val (.ref a1), .val (.ref q), .val (.int (1 : Int32)), .val (.ref x1)]) rfl rfl rfl ?_
    refine g_aload_n W113 d_prog_61_method_9_code_32 (pc' := 33) rfl rfl rfl ?_
    refine g_aload_n W113 d_prog_61_method_9_code_33 (pc' := 34) rfl rfl rfl ?_
    by_cases c118 : x1 = q
    · refine g_acmpY W113 d_prog_61_method_9_code_34 (pc' := 56) (by decide) (by decide) rfl rfl (Jvm.Free.XT.aa_eq_t (congrArg Value.ref c118)) ?_
      have ec118 : cs1 = csq := Str.uniq S1 (c118 ▸ Sq)
      refine g_aload_n W113 d_prog_61_method_9_code_56 (pc' := 57) rfl rfl rfl ?_
      refine g_getfield W113 d_prog_61_method_9_code_57 (pc' := 60) (host := "") rfl (Or.inl (hw _ (List.mem_of_getElem? (i := 78) rfl))) Via.refl Fa fun T119 W120 => ?_
      refine g_iload_n W120 d_prog_61_method_9_code_60 (pc' := 61) rfl rfl ?_
      refine g_interface W120 d_prog_61_method_9_code_61 (pc' := 66) (a := l1) (fr' := []) (argsL := [(.int (1 : Int32))]) (rest := []) (Wd := 0) (kc := 0) (ks := 0) rfl (hw _ (List.mem_of_getElem? (i := 147) rfl)) (hw _ (List.mem_of_getElem? (i := 148) rfl)) (hw _ (List.mem_of_getElem? (i := 149) rfl)) (hw _ (List.mem_of_getElem? (i := 150) rfl)) (hw _ (List.mem_of_getElem? (i := 151) rfl)) (hw _ (List.mem_of_getElem? (i := 152) rfl)) (hw _ (List.mem_of_getElem? (i := 153) rfl)) (hw _ (List.mem_of_getElem? (i := 94) rfl)) rfl (by decide) Ol.1 rfl rfl (lenOf pd_7 rfl) rfl all0 (by decide) (by decide) (Met.pays (rm_get hw hEL Sc hzc l1 d k (3 : Int32) (3 : Int32) (10 : Int32) (1 : Int32) _ (.ref e1) _ W120.ext Ol Ad1 (by decide) (by decide) rfl rfl) (hw _ (List.mem_of_getElem? (i := 154) rfl)) (hw _ (List.mem_of_getElem? (i := 31) rfl)) hEL (by decide) (by decide)) fun v126 T121 h123 W122 K124 q125 => ?_
      obtain ⟨rfl, rfl⟩ := q125
      show Goes _ _ _ _ _ _ _ _ _ _ _ T121 (mkF m 66 #[.val (.ref a1), .val (.ref q), .val (.int (1 : Int32)), .val (.ref x1)] [(.ref e1)])
      refine g_checkcast W122 d_prog_61_method_9_code_66 (pc' := 69) rfl (hw _ (List.mem_of_getElem? (i := 168) rfl)) (Ins.of_exa Oe1.1 (hw _ (List.mem_of_getElem? (i := 169) rfl))) fun T127 W128 => ?_
      refine g_virtual W128 d_prog_61_method_9_code_69 (pc' := 72) (a := e1) (fr' := []) (argsL := []) (rest := []) (Wd := 0) (kc := 0) (ks := 0) rfl (hw _ (List.mem_of_getElem? (i := 196) rfl)) (hw _ (List.mem_of_getElem? (i := 197) rfl)) (hw _ (List.mem_of_getElem? (i := 199) rfl)) (hw _ (List.mem_of_getElem? (i := 198) rfl)) (by decide) Oe1.1 rfl rfl (lenOf pd_10 rfl) rfl all0 (by decide) (by decide) (Met.pays (met_getter (rm := ({ frames := 0, cells := 0, slots := 0, locals := 0 } : Room)) (plainFor_of_name pn_1) hEL W128.ext d_prog_62_method_8_code_0 d_prog_62_method_8_code_1 (hw _ (List.mem_of_getElem? (i := 116) rfl)) (Oe1.get 3 rfl) (Or.inl ⟨d_prog_62_method_8_code_4, rfl, rfl⟩)) (hw _ (List.mem_of_getElem? (i := 200) rfl)) (hw _ (List.mem_of_getElem? (i := 100) rfl)) hEL (by decide) (by decide)) fun v134 T129 h131 W130 K132 q133 => ?_
      obtain ⟨rfl, rfl⟩ := q133
      show Goes _ _ _ _ _ _ _ _ _ _ _ T129 (mkF m 72 #[.val (.ref a1), .val (.ref q), .val (.int (1 : Int32)), .val (.ref x1)] [(.ref u1)])
      exact g_areturn W130 d_prog_61_method_9_code_72 rfl rfl rfl (Keep.refl h []) ⟨rfl, by simp [nq0, ec118]⟩ (by decide) (by decide)
    · refine g_acmpN W113 d_prog_61_method_9_code_34 (pc' := 37) rfl rfl rfl (Jvm.Free.XT.aa_eq_f (fun z => c118 (Value.ref.inj z))) ?_
      refine g_aload_n W113 d_prog_61_method_9_code_37 (pc' := 38) rfl rfl rfl ?_
      refine g_virtual W113 d_prog_61_method_9_code_38 (pc' := 41) (a := x1) (fr' := []) (argsL := []) (rest := []) (Wd := 0) (kc := 0) (ks := 0) rfl (hw _ (List.mem_of_getElem? (i := 175) rfl)) (hw _ (List.mem_of_getElem? (i := 176) rfl)) (hw _ (List.mem_of_getElem? (i := 178) rfl)) (hw _ (List.mem_of_getElem? (i := 177) rfl)) (by decide) S1.exa rfl rfl (lenOf pd_9 rfl) rfl all0 (by decide) (by decide) (pays_len hEL (fun d hd => hw d ((by decide +kernel : ∀ d ∈ StrChars.Road.wordsLen, d ∈ tables_1) d hd)) (hw _ (List.mem_of_getElem? (i := 5) rfl)) S1 Sc hzc W113.ext (by decide) (by decide)) fun v140 T135 h137 W136 K138 q139 => ?_
      obtain ⟨rfl, rfl⟩ := q139
      show Goes _ _ _ _ _ _ _ _ _ _ _ T135 (mkF m 41 #[.val (.ref a1), .val (.ref q), .val (.int (1 : Int32)), .val (.ref x1)] [(.int (Int32.ofNat cs1.length))])
      refine g_aload_n W136 d_prog_61_method_9_code_41 (pc' := 42) rfl rfl rfl ?_
      refine g_virtual W136 d_prog_61_method_9_code_42 (pc' := 45) (a := q) (fr' := []) (argsL := []) (rest := [(.int (Int32.ofNat cs1.length))]) (Wd := 1) (kc := 0) (ks := 0) rfl (hw _ (List.mem_of_getElem? (i := 175) rfl)) (hw _ (List.mem_of_getElem? (i := 176) rfl)) (hw _ (List.mem_of_getElem? (i := 178) rfl)) (hw _ (List.mem_of_getElem? (i := 177) rfl)) (by decide) Sq.exa rfl rfl (lenOf pd_9 rfl) rfl all0 (by decide) (by decide) (pays_len hEL (fun d hd => hw d ((by decide +kernel : ∀ d ∈ StrChars.Road.wordsLen, d ∈ tables_1) d hd)) (hw _ (List.mem_of_getElem? (i := 5) rfl)) Sq Sc hzc W136.ext (by decide) (by decide)) fun v146 T141 h143 W142 K144 q145 => ?_
      obtain ⟨rfl, rfl⟩ := q145
      show Goes _ _ _ _ _ _ _ _ _ _ _ T141 (mkF m 45 #[.val (.ref a1), .val (.ref q), .val (.int (1 : Int32)), .val (.ref x1)] [(.int (Int32.ofNat csq.length)), (.int (Int32.ofNat cs1.length))])
      by_cases c147 : (Int32.ofNat cs1.length) = (Int32.ofNat csq.length)
      · refine g_icmpN W142 d_prog_61_method_9_code_45 (pc' := 48) rfl (Jvm.Free.XT.ii_ne_f c147) ?_
        refine g_aload_n W142 d_prog_61_method_9_code_48 (pc' := 49) rfl rfl rfl ?_
        refine g_aload_n W142 d_prog_61_method_9_code_49 (pc' := 50) rfl rfl rfl ?_
        refine g_virtual W142 d_prog_61_method_9_code_50 (pc' := 53) (a := x1) (fr' := []) (argsL := [(.ref q)]) (rest := []) (Wd := 0) (kc := 0) (ks := 0) rfl (hw _ (List.mem_of_getElem? (i := 186) rfl)) (hw _ (List.mem_of_getElem? (i := 187) rfl)) (hw _ (List.mem_of_getElem? (i := 189) rfl)) (hw _ (List.mem_of_getElem? (i := 188) rfl)) (by decide) S1.exa rfl rfl (lenOf pd_11 rfl) rfl all0 (by decide) (by decide) (pays_eq hEL (fun d hd => hw d ((by decide +kernel : ∀ d ∈ StrChars.Road.wordsEq, d ∈ tables_1) d hd)) (hw _ (List.mem_of_getElem? (i := 5) rfl)) S1 Sq Sc hzc W142.ext (by decide) (by decide)) fun v153 T148 h150 W149 K151 q152 => ?_
        obtain ⟨rfl, ⟨rfl, c154⟩ | ⟨rfl, c154⟩⟩ := q152
        · refine g_ifN W149 d_prog_61_method_9_code_53 (pc' := 56) rfl (Jvm.Free.XT.i0_eq_f (by decide)) ?_
          refine g_aload_n W149 d_prog_61_method_9_code_56 (pc' := 57) rfl rfl rfl ?_
          refine g_getfield W149 d_prog_61_method_9_code_57 (pc' := 60) (host := "") rfl (Or.inl (hw _ (List.mem_of_getElem? (i := 78) rfl))) Via.refl Fa fun T155 W156 => ?_
          refine g_iload_n W156 d_prog_61_method_9_code_60 (pc' := 61) rfl rfl ?_
          refine g_interface W156 d_prog_61_method_9_code_61 (pc' := 66) (a := l1) (fr' := []) (argsL := [(.int (1 : Int32))]) (rest := []) (Wd := 0) (kc := 0) (ks := 0) rfl (hw _ (List.mem_of_getElem? (i := 147) rfl)) (hw _ (List.mem_of_getElem? (i := 148) rfl)) (hw _ (List.mem_of_getElem? (i := 149) rfl)) (hw _ (List.mem_of_getElem? (i := 150) rfl)) (hw _ (List.mem_of_getElem? (i := 151) rfl)) (hw _ (List.mem_of_getElem? (i := 152) rfl)) (hw _ (List.mem_of_getElem? (i := 153) rfl)) (hw _ (List.mem_of_getElem? (i := 94) rfl)) rfl (by decide) Ol.1 rfl rfl (lenOf pd_7 rfl) rfl all0 (by decide) (by decide) (Met.pays (rm_get hw hEL Sc hzc l1 d k (3 : Int32) (3 : Int32) (10 : Int32) (1 : Int32) _ (.ref e1) _ W156.ext Ol Ad1 (by decide) (by decide) rfl rfl) (hw _ (List.mem_of_getElem? (i := 154) rfl)) (hw _ (List.mem_of_getElem? (i := 31) rfl)) hEL (by decide) (by decide)) fun v162 T157 h159 W158 K160 q161 => ?_
          obtain ⟨rfl, rfl⟩ := q161
          show Goes _ _ _ _ _ _ _ _ _ _ _ T157 (mkF m 66 #[.val (.ref a1), .val (.ref q), .val (.int (1 : Int32)), .val (.ref x1)] [(.ref e1)])
          refine g_checkcast W158 d_prog_61_method_9_code_66 (pc' := 69) rfl (hw _ (List.mem_of_getElem? (i := 168) rfl)) (Ins.of_exa Oe1.1 (hw _ (List.mem_of_getElem? (i := 169) rfl))) fun T163 W164 => ?_
          refine g_virtual W164 d_prog_61_method_9_code_69 (pc' := 72) (a := e1) (fr' := []) (argsL := []) (rest := []) (Wd := 0) (kc := 0) (ks := 0) rfl (hw _ (List.mem_of_getElem? (i := 196) rfl)) (hw _ (List.mem_of_getElem? (i := 197) rfl)) (hw _ (List.mem_of_getElem? (i := 199) rfl)) (hw _ (List.mem_of_getElem? (i := 198) rfl)) (by decide) Oe1.1 rfl rfl (lenOf pd_10 rfl) rfl all0 (by decide) (by decide) (Met.pays (met_getter (rm := ({ frames := 0, cells := 0, slots := 0, locals := 0 } : Room)) (plainFor_of_name pn_1) hEL W164.ext d_prog_62_method_8_code_0 d_prog_62_method_8_code_1 (hw _ (List.mem_of_getElem? (i := 116) rfl)) (Oe1.get 3 rfl) (Or.inl ⟨d_prog_62_method_8_code_4, rfl, rfl⟩)) (hw _ (List.mem_of_getElem? (i := 200) rfl)) (hw _ (List.mem_of_getElem? (i := 100) rfl)) hEL (by decide) (by decide)) fun v170 T165 h167 W166 K168 q169 => ?_
          obtain ⟨rfl, rfl⟩ := q169
          show Goes _ _ _ _ _ _ _ _ _ _ _ T165 (mkF m 72 #[.val (.ref a1), .val (.ref q), .val (.int (1 : Int32)), .val (.ref x1)] [(.ref u1)])
          exact g_areturn W166 d_prog_61_method_9_code_72 rfl rfl rfl (Keep.refl h []) ⟨rfl, by simp [nq0, c154]⟩ (by decide) (by decide)
        · refine g_ifY W149 d_prog_61_method_9_code_53 (pc' := 73) (by decide) (by decide) (Jvm.Free.XT.i0_eq_t rfl) ?_
          exact N1 c154 _ W149
      · refine g_icmpY W142 d_prog_61_method_9_code_45 (pc' := 73) (by decide) (by decide) (Jvm.Free.XT.ii_ne_t c147) ?_
        exact N1 (fun z => c147 (by rw [z])) _ W142
  refine g_aload_n W4 d_prog_61_method_9_code_15 (pc' := 16) rfl rfl rfl ?_
  refine g_getfield W4 d_prog_61_method_9_code_16 (pc' := 19) (host := "") rfl (Or.inl (hw _ (List.mem_of_getElem? (i := 78) rfl))) Via.refl Fa fun T171 W172 => ?_
  refine g_iload_n W172 d_prog_61_method_9_code_19 (pc' := 20) rfl rfl ?_
  refine g_interface W172 d_prog_61_method_9_code_20 (pc' := 25) (a := l1) (fr' := []) (argsL := [(.int (0 : Int32))]) (rest := []) (Wd := 0) (kc := 0) (ks := 0) rfl (hw _ (List.mem_of_getElem? (i := 147) rfl)) (hw _ (List.mem_of_getElem? (i := 148) rfl)) (hw _ (List.mem_of_getElem? (i := 149) rfl)) (hw _ (List.mem_of_getElem? (i := 150) rfl)) (hw _ (List.mem_of_getElem? (i := 151) rfl)) (hw _ (List.mem_of_getElem? (i := 152) rfl)) (hw _ (List.mem_of_getElem? (i := 153) rfl)) (hw _ (List.mem_of_getElem? (i := 94) rfl)) rfl (by decide) Ol.1 rfl rfl (lenOf pd_7 rfl) rfl all0 (by decide) (by decide) (Met.pays (rm_get hw hEL Sc hzc l1 d k (3 : Int32) (3 : Int32) (10 : Int32) (0 : Int32) _ (.ref e0) _ W172.ext Ol Ad1 (by decide) (by decide) rfl rfl) (hw _ (List.mem_of_getElem? (i := 154) rfl)) (hw _ (List.mem_of_getElem? (i := 31) rfl)) hEL (by decide) (by decide)) fun v178 T173 h175 W174 K176 q177 => ?_
  obtain ⟨rfl, rfl⟩ := q177
  show Goes _ _ _ _ _ _ _ _ _ _ _ T173 (mkF m 25 #[.val (.ref a1), .val (.ref q), .val (.int (0 : Int32)), .unset] [(.ref e0)])
  refine g_checkcast W174 d_prog_61_method_9_code_25 (pc' := 28) rfl (hw _ (List.mem_of_getElem? (i := 168) rfl)) (Ins.of_exa Oe0.1 (hw _ (List.mem_of_getElem? (i := 169) rfl))) fun T179 W180 => ?_
  refine g_virtual W180 d_prog_61_method_9_code_28 (pc' := 31) (a := e0) (fr' := []) (argsL := []) (rest := []) (Wd := 0) (kc := 0) (ks := 0) rfl (hw _ (List.mem_of_getElem? (i := 170) rfl)) (hw _ (List.mem_of_getElem? (i := 171) rfl)) (hw _ (List.mem_of_getElem? (i := 173) rfl)) (hw _ (List.mem_of_getElem? (i := 172) rfl)) (by decide) Oe0.1 rfl rfl (lenOf pd_10 rfl) rfl all0 (by decide) (by decide) (Met.pays (met_getter (rm := ({ frames := 0, cells := 0, slots := 0, locals := 0 } : Room)) (plainFor_of_name pn_1) hEL W180.ext d_prog_62_method_7_code_0 d_prog_62_method_7_code_1 (hw _ (List.mem_of_getElem? (i := 114) rfl)) (Oe0.get 2 rfl) (Or.inl ⟨d_prog_62_method_7_code_4, rfl, rfl⟩)) (hw _ (List.mem_of_getElem? (i := 174) rfl)) (hw _ (List.mem_of_getElem? (i := 100) rfl)) hEL (by decide) (by decide)) fun v186 T181 h183 W182 K184 q185 => ?_
  obtain ⟨rfl, rfl⟩ := q185
  show Goes _ _ _ _ _ _ _ _ _ _ _ T181 (mkF m 31 #[.val (.ref a1), .val (.ref q), .val (.int (0 : Int32)), .unset] [(.ref x0)])
  refine g_astore_n W182 d_prog_61_method_9_code_31 (pc' := 32) (L' := #[.val (.ref a1), .val (.ref q), .val (.int (0 : Int32)), .val (.ref x0)]) rfl rfl rfl ?_
  refine g_aload_n W182 d_prog_61_method_9_code_32 (pc' := 33) rfl rfl rfl ?_
  refine g_aload_n W182 d_prog_61_method_9_code_33 (pc' := 34) rfl rfl rfl ?_
  by_cases c187 : x0 = q
  · refine g_acmpY W182 d_prog_61_method_9_code_34 (pc' := 56) (by decide) (by decide) rfl rfl (Jvm.Free.XT.aa_eq_t (congrArg Value.ref c187)) ?_
    have ec187 : cs0 = csq := Str.uniq S0 (c187 ▸ Sq)
    refine g_aload_n W182 d_prog_61_method_9_code_56 (pc' := 57) rfl rfl rfl ?_
    refine g_getfield W182 d_prog_61_method_9_code_57 (pc' := 60) (host := "") rfl (Or.inl (hw _ (List.mem_of_getElem? (i := 78) rfl))) Via.refl Fa fun T188 W189 => ?_
    refine g_iload_n W189 d_prog_61_method_9_code_60 (pc' := 61) rfl rfl ?_
    refine g_interface W189 d_prog_61_method_9_code_61 (pc' := 66) (a := l1) (fr' := []) (argsL := [(.int (0 : Int32))]) (rest := []) (Wd := 0) (kc := 0) (ks := 0) rfl (hw _ (List.mem_of_getElem? (i := 147) rfl)) (hw _ (List.mem_of_getElem? (i := 148) rfl)) (hw _ (List.mem_of_getElem? (i := 149) rfl)) (hw _ (List.mem_of_getElem? (i := 150) rfl)) (hw _ (List.mem_of_getElem? (i := 151) rfl)) (hw _ (List.mem_of_getElem? (i := 152) rfl)) (hw _ (List.mem_of_getElem? (i := 153) rfl)) (hw _ (List.mem_of_getElem? (i := 94) rfl)) rfl (by decide) Ol.1 rfl rfl (lenOf pd_7 rfl) rfl all0 (by decide) (by decide) (Met.pays (rm_get hw hEL Sc hzc l1 d k (3 : Int32) (3 : Int32) (10 : Int32) (0 : Int32) _ (.ref e0) _ W189.ext Ol Ad1 (by decide) (by decide) rfl rfl) (hw _ (List.mem_of_getElem? (i := 154) rfl)) (hw _ (List.mem_of_getElem? (i := 31) rfl)) hEL (by decide) (by decide)) fun v195 T190 h192 W191 K193 q194 => ?_
    obtain ⟨rfl, rfl⟩ := q194
    show Goes _ _ _ _ _ _ _ _ _ _ _ T190 (mkF m 66 #[.val (.ref a1), .val (.ref q), .val (.int (0 : Int32)), .val (.ref x0)] [(.ref e0)])
    refine g_checkcast W191 d_prog_61_method_9_code_66 (pc' := 69) rfl (hw _ (List.mem_of_getElem? (i := 168) rfl)) (Ins.of_exa Oe0.1 (hw _ (List.mem_of_getElem? (i := 169) rfl))) fun T196 W197 => ?_
    refine g_virtual W197 d_prog_61_method_9_code_69 (pc' := 72) (a := e0) (fr' := []) (argsL := []) (rest := []) (Wd := 0) (kc := 0) (ks := 0) rfl (hw _ (List.mem_of_getElem? (i := 196) rfl)) (hw _ (List.mem_of_getElem? (i := 197) rfl)) (hw _ (List.mem_of_getElem? (i := 199) rfl)) (hw _ (List.mem_of_getElem? (i := 198) rfl)) (by decide) Oe0.1 rfl rfl (lenOf pd_10 rfl) rfl all0 (by decide) (by decide) (Met.pays (met_getter (rm := ({ frames := 0, cells := 0, slots := 0, locals := 0 } : Room)) (plainFor_of_name pn_1) hEL W197.ext d_prog_62_method_8_code_0 d_prog_62_method_8_code_1 (hw _ (List.mem_of_getElem? (i := 116) rfl)) (Oe0.get 3 rfl) (Or.inl ⟨d_prog_62_method_8_code_4, rfl, rfl⟩)) (hw _ (List.mem_of_getElem? (i := 200) rfl)) (hw _ (List.mem_of_getElem? (i := 100) rfl)) hEL (by decide) (by decide)) fun v203 T198 h200 W199 K201 q202 => ?_
    obtain ⟨rfl, rfl⟩ := q202
    show Goes _ _ _ _ _ _ _ _ _ _ _ T198 (mkF m 72 #[.val (.ref a1), .val (.ref q), .val (.int (0 : Int32)), .val (.ref x0)] [(.ref u0)])
    exact g_areturn W199 d_prog_61_method_9_code_72 rfl rfl rfl (Keep.refl h []) ⟨rfl, by simp [ec187]⟩ (by decide) (by decide)
  · refine g_acmpN W182 d_prog_61_method_9_code_34 (pc' := 37) rfl rfl rfl (Jvm.Free.XT.aa_eq_f (fun z => c187 (Value.ref.inj z))) ?_
    refine g_aload_n W182 d_prog_61_method_9_code_37 (pc' := 38) rfl rfl rfl ?_
    refine g_virtual W182 d_prog_61_method_9_code_38 (pc' := 41) (a := x0) (fr' := []) (argsL := []) (rest := []) (Wd := 0) (kc := 0) (ks := 0) rfl (hw _ (List.mem_of_getElem? (i := 175) rfl)) (hw _ (List.mem_of_getElem? (i := 176) rfl)) (hw _ (List.mem_of_getElem? (i := 178) rfl)) (hw _ (List.mem_of_getElem? (i := 177) rfl)) (by decide) S0.exa rfl rfl (lenOf pd_9 rfl) rfl all0 (by decide) (by decide) (pays_len hEL (fun d hd => hw d ((by decide +kernel : ∀ d ∈ StrChars.Road.wordsLen, d ∈ tables_1) d hd)) (hw _ (List.mem_of_getElem? (i := 5) rfl)) S0 Sc hzc W182.ext (by decide) (by decide)) fun v209 T204 h206 W205 K207 q208 => ?_
    obtain ⟨rfl, rfl⟩ := q208
    show Goes _ _ _ _ _ _ _ _ _ _ _ T204 (mkF m 41 #[.val (.ref a1), .val (.ref q), .val (.int (0 : Int32)), .val (.ref x0)] [(.int (Int32.ofNat cs0.length))])
    refine g_aload_n W205 d_prog_61_method_9_code_41 (pc' := 42) rfl rfl rfl ?_
    refine g_virtual W205 d_prog_61_method_9_code_42 (pc' := 45) (a := q) (fr' := []) (argsL := []) (rest := [(.int (Int32.ofNat cs0.length))]) (Wd := 1) (kc := 0) (ks := 0) rfl (hw _ (List.mem_of_getElem? (i := 175) rfl)) (hw _ (List.mem_of_getElem? (i := 176) rfl)) (hw _ (List.mem_of_getElem? (i := 178) rfl)) (hw _ (List.mem_of_getElem? (i := 177) rfl)) (by decide) Sq.exa rfl rfl (lenOf pd_9 rfl) rfl all0 (by decide) (by decide) (pays_len hEL (fun d hd => hw d ((by decide +kernel : ∀ d ∈ StrChars.Road.wordsLen, d ∈ tables_1) d hd)) (hw _ (List.mem_of_getElem? (i := 5) rfl)) Sq Sc hzc W205.ext (by decide) (by decide)) fun v215 T210 h212 W211 K213 q214 => ?_
    obtain ⟨rfl, rfl⟩ := q214
    show Goes _ _ _ _ _ _ _ _ _ _ _ T210 (mkF m 45 #[.val (.ref a1), .val (.ref q), .val (.int (0 : Int32)), .val (.ref x0)] [(.int (Int32.ofNat csq.length)), (.int (Int32.ofNat cs0.length))])
    by_cases c216 : (Int32.ofNat cs0.length) = (Int32.ofNat csq.length)
    · refine g_icmpN W211 d_prog_61_method_9_code_45 (pc' := 48) rfl (Jvm.Free.XT.ii_ne_f c216) ?_
      refine g_aload_n W211 d_prog_61_method_9_code_48 (pc' := 49) rfl rfl rfl ?_
      refine g_aload_n W211 d_prog_61_method_9_code_49 (pc' := 50) rfl rfl rfl ?_
      refine g_virtual W211 d_prog_61_method_9_code_50 (pc' := 53) (a := x0) (fr' := []) (argsL := [(.ref q)]) (rest := []) (Wd := 0) (kc := 0) (ks := 0) rfl (hw _ (List.mem_of_getElem? (i := 186) rfl)) (hw _ (List.mem_of_getElem? (i := 187) rfl)) (hw _ (List.mem_of_getElem? (i := 189) rfl)) (hw _ (List.mem_of_getElem? (i := 188) rfl)) (by decide) S0.exa rfl rfl (lenOf pd_11 rfl) rfl all0 (by decide) (by decide) (pays_eq hEL (fun d hd => hw d ((by decide +kernel : ∀ d ∈ StrChars.Road.wordsEq, d ∈ tables_1) d hd)) (hw _ (List.mem_of_getElem? (i := 5) rfl)) S0 Sq Sc hzc W211.ext (by decide) (by decide)) fun v222 T217 h219 W218 K220 q221 => ?_
      obtain ⟨rfl, ⟨rfl, c223⟩ | ⟨rfl, c223⟩⟩ := q221
      · refine g_ifN W218 d_prog_61_method_9_code_53 (pc' := 56) rfl (Jvm.Free.XT.i0_eq_f (by decide)) ?_
        refine g_aload_n W218 d_prog_61_method_9_code_56 (pc' := 57) rfl rfl rfl ?_
        refine g_getfield W218 d_prog_61_method_9_code_57 (pc' := 60) (host := "") rfl (Or.inl (hw _ (List.mem_of_getElem? (i := 78) rfl))) Via.refl Fa fun T224 W225 => ?_
        refine g_iload_n W225 d_prog_61_method_9_code_60 (pc' := 61) rfl rfl ?_
        refine g_interface W225 d_prog_61_method_9_code_61 (pc' := 66) (a := l1) (fr' := []) (argsL := [(.int (0 : Int32))]) (rest := []) (Wd := 0) (kc := 0) (ks := 0) rfl (hw _ (List.mem_of_getElem? (i := 147) rfl)) (hw _ (List.mem_of_getElem? (i := 148) rfl)) (hw _ (List.mem_of_getElem? (i := 149) rfl)) (hw _ (List.mem_of_getElem? (i := 150) rfl)) (hw _ (List.mem_of_getElem? (i := 151) rfl)) (hw _ (List.mem_of_getElem? (i := 152) rfl)) (hw _ (List.mem_of_getElem? (i := 153) rfl)) (hw _ (List.mem_of_getElem? (i := 94) rfl)) rfl (by decide) Ol.1 rfl rfl (lenOf pd_7 rfl) rfl all0 (by decide) (by decide) (Met.pays (rm_get hw hEL Sc hzc l1 d k (3 : Int32) (3 : Int32) (10 : Int32) (0 : Int32) _ (.ref e0) _ W225.ext Ol Ad1 (by decide) (by decide) rfl rfl) (hw _ (List.mem_of_getElem? (i := 154) rfl)) (hw _ (List.mem_of_getElem? (i := 31) rfl)) hEL (by decide) (by decide)) fun v231 T226 h228 W227 K229 q230 => ?_
        obtain ⟨rfl, rfl⟩ := q230
        show Goes _ _ _ _ _ _ _ _ _ _ _ T226 (mkF m 66 #[.val (.ref a1), .val (.ref q), .val (.int (0 : Int32)), .val (.ref x0)] [(.ref e0)])
        refine g_checkcast W227 d_prog_61_method_9_code_66 (pc' := 69) rfl (hw _ (List.mem_of_getElem? (i := 168) rfl)) (Ins.of_exa Oe0.1 (hw _ (List.mem_of_getElem? (i := 169) rfl))) fun T232 W233 => ?_
        refine g_virtual W233 d_prog_61_method_9_code_69 (pc' := 72) (a := e0) (fr' := []) (argsL := []) (rest := []) (Wd := 0) (kc := 0) (ks := 0) rfl (hw _ (List.mem_of_getElem? (i := 196) rfl)) (hw _ (List.mem_of_getElem? (i := 197) rfl)) (hw _ (List.mem_of_getElem? (i := 199) rfl)) (hw _ (List.mem_of_getElem? (i := 198) rfl)) (by decide) Oe0.1 rfl rfl (lenOf pd_10 rfl) rfl all0 (by decide) (by decide) (Met.pays (met_getter (rm := ({ frames := 0, cells := 0, slots := 0, locals := 0 } : Room)) (plainFor_of_name pn_1) hEL W233.ext d_prog_62_method_8_code_0 d_prog_62_method_8_code_1 (hw _ (List.mem_of_getElem? (i := 116) rfl)) (Oe0.get 3 rfl) (Or.inl ⟨d_prog_62_method_8_code_4, rfl, rfl⟩)) (hw _ (List.mem_of_getElem? (i := 200) rfl)) (hw _ (List.mem_of_getElem? (i := 100) rfl)) hEL (by decide) (by decide)) fun v239 T234 h236 W235 K237 q238 => ?_
        obtain ⟨rfl, rfl⟩ := q238
        show Goes _ _ _ _ _ _ _ _ _ _ _ T234 (mkF m 72 #[.val (.ref a1), .val (.ref q), .val (.int (0 : Int32)), .val (.ref x0)] [(.ref u0)])
        exact g_areturn W235 d_prog_61_method_9_code_72 rfl rfl rfl (Keep.refl h []) ⟨rfl, by simp [c223]⟩ (by decide) (by decide)
      · refine g_ifY W218 d_prog_61_method_9_code_53 (pc' := 73) (by decide) (by decide) (Jvm.Free.XT.i0_eq_t rfl) ?_
        exact N0 c223 _ W218
    · refine g_icmpY W211 d_prog_61_method_9_code_45 (pc' := 73) (by decide) (by decide) (Jvm.Free.XT.ii_ne_t c216) ?_
      exact N0 (fun z => c216 (by rw [z])) _ W211
theorem d_method_2_code_0 : decode method_2_code 0 = .ok (.iload_n 0, 1) := by decide +kernel
theorem d_method_2_code_1 : decode method_2_code 1 = .ok (.bipush 24, 2) := by decide +kernel
theorem d_method_2_code_3 : decode method_2_code 3 = .ok (.iushr, 1) := by decide +kernel
theorem d_method_2_code_4 : decode method_2_code 4 = .ok (.iconst 3, 1) := by decide +kernel
theorem d_method_2_code_5 : decode method_2_code 5 = .ok (.iand, 1) := by decide +kernel
theorem d_method_2_code_6 : decode method_2_code 6 = .ok (.istore_n 1, 1) := by decide +kernel
theorem d_method_2_code_7 : decode method_2_code 7 = .ok (.iload_n 0, 1) := by decide +kernel
theorem d_method_2_code_8 : decode method_2_code 8 = .ok (.sipush 255, 3) := by decide +kernel
theorem d_method_2_code_11 : decode method_2_code 11 = .ok (.iand, 1) := by decide +kernel
theorem d_method_2_code_12 : decode method_2_code 12 = .ok (.i2c, 1) := by decide +kernel
theorem d_method_2_code_13 : decode method_2_code 13 = .ok (.istore_n 2, 1) := by decide +kernel
theorem d_method_2_code_14 : decode method_2_code 14 = .ok (.iload_n 0, 1) := by decide +kernel
theorem d_method_2_code_15 : decode method_2_code 15 = .ok (.bipush 8, 2) := by decide +kernel
theorem d_method_2_code_17 : decode method_2_code 17 = .ok (.iushr, 1) := by decide +kernel
theorem d_method_2_code_18 : decode method_2_code 18 = .ok (.sipush 255, 3) := by decide +kernel
theorem d_method_2_code_21 : decode method_2_code 21 = .ok (.iand, 1) := by decide +kernel
theorem d_method_2_code_22 : decode method_2_code 22 = .ok (.i2c, 1) := by decide +kernel
theorem d_method_2_code_23 : decode method_2_code 23 = .ok (.istore_n 3, 1) := by decide +kernel
theorem d_method_2_code_24 : decode method_2_code 24 = .ok (.iload_n 0, 1) := by decide +kernel
theorem d_method_2_code_25 : decode method_2_code 25 = .ok (.bipush 16, 2) := by decide +kernel
theorem d_method_2_code_27 : decode method_2_code 27 = .ok (.iushr, 1) := by decide +kernel
theorem d_method_2_code_28 : decode method_2_code 28 = .ok (.sipush 255, 3) := by decide +kernel
theorem d_method_2_code_31 : decode method_2_code 31 = .ok (.iand, 1) := by decide +kernel
theorem d_method_2_code_32 : decode method_2_code 32 = .ok (.i2c, 1) := by decide +kernel
theorem d_method_2_code_33 : decode method_2_code 33 = .ok (.istore 4, 2) := by decide +kernel
theorem d_method_2_code_35 : decode method_2_code 35 = .ok (.iload_n 1, 1) := by decide +kernel
theorem d_method_2_code_36 : decode method_2_code 36 = .ok (.ifCond .ne 14, 3) := by decide +kernel
theorem d_method_2_code_39 : decode method_2_code 39 = .ok (.new 7, 3) := by decide +kernel
theorem d_method_2_code_42 : decode method_2_code 42 = .ok (.dup, 1) := by decide +kernel
theorem d_method_2_code_43 : decode method_2_code 43 = .ok (.iconst 0, 1) := by decide +kernel
theorem d_method_2_code_44 : decode method_2_code 44 = .ok (.newarray .char, 2) := by decide +kernel
theorem d_method_2_code_46 : decode method_2_code 46 = .ok (.invokespecial 9, 3) := by decide +kernel
theorem pd_12 : parseMethodDescriptor "([C)V" = some ⟨[(.array .char)], none⟩ := by decide +kernel
theorem d_method_2_code_49 : decode method_2_code 49 = .ok (.areturn, 1) := by decide +kernel
theorem d_method_2_code_50 : decode method_2_code 50 = .ok (.iload_n 1, 1) := by decide +kernel
theorem d_method_2_code_51 : decode method_2_code 51 = .ok (.iconst 1, 1) := by decide +kernel
theorem d_method_2_code_52 : decode method_2_code 52 = .ok (.if_icmp .ne 23, 3) := by decide +kernel
theorem d_method_2_code_55 : decode method_2_code 55 = .ok (.iconst 1, 1) := by decide +kernel
theorem d_method_2_code_56 : decode method_2_code 56 = .ok (.newarray .char, 2) := by decide +kernel
theorem d_method_2_code_58 : decode method_2_code 58 = .ok (.astore 5, 2) := by decide +kernel
theorem d_method_2_code_60 : decode method_2_code 60 = .ok (.aload 5, 2) := by decide +kernel
theorem d_method_2_code_62 : decode method_2_code 62 = .ok (.iconst 0, 1) := by decide +kernel
theorem d_method_2_code_63 : decode method_2_code 63 = .ok (.iload_n 2, 1) := by decide +kernel
theorem d_method_2_code_64 : decode method_2_code 64 = .ok (.castore, 1) := by decide +kernel
theorem d_method_2_code_65 : decode method_2_code 65 = .ok (.new 7, 3) := by decide +kernel
theorem d_method_2_code_68 : decode method_2_code 68 = .ok (.dup, 1) := by decide +kernel
theorem d_method_2_code_69 : decode method_2_code 69 = .ok (.aload 5, 2) := by decide +kernel
theorem d_method_2_code_71 : decode method_2_code 71 = .ok (.invokespecial 9, 3) := by decide +kernel
theorem d_method_2_code_74 : decode method_2_code 74 = .ok (.areturn, 1) := by decide +kernel
theorem d_method_2_code_75 : decode method_2_code 75 = .ok (.iload_n 1, 1) := by decide +kernel
theorem d_method_2_code_76 : decode method_2_code 76 = .ok (.iconst 2, 1) := by decide +kernel
theorem d_method_2_code_77 : decode method_2_code 77 = .ok (.if_icmp .ne 28, 3) := by decide +kernel
theorem d_method_2_code_80 : decode method_2_code 80 = .ok (.iconst 2, 1) := by decide +kernel
theorem d_method_2_code_81 : decode method_2_code 81 = .ok (.newarray .char, 2) := by decide +kernel
theorem d_method_2_code_83 : decode method_2_code 83 = .ok (.astore 5, 2) := by decide +kernel
theorem d_method_2_code_85 : decode method_2_code 85 = .ok (.aload 5, 2) := by decide +kernel
theorem d_method_2_code_87 : decode method_2_code 87 = .ok (.iconst 0, 1) := by decide +kernel
theorem d_method_2_code_88 : decode method_2_code 88 = .ok (.iload_n 2, 1) := by decide +kernel
theorem d_method_2_code_89 : decode method_2_code 89 = .ok (.castore, 1) := by decide +kernel
theorem d_method_2_code_90 : decode method_2_code 90 = .ok (.aload 5, 2) := by decide +kernel
theorem d_method_2_code_92 : decode method_2_code 92 = .ok (.iconst 1, 1) := by decide +kernel
theorem d_method_2_code_93 : decode method_2_code 93 = .ok (.iload_n 3, 1) := by decide +kernel
theorem d_method_2_code_94 : decode method_2_code 94 = .ok (.castore, 1) := by decide +kernel
theorem d_method_2_code_95 : decode method_2_code 95 = .ok (.new 7, 3) := by decide +kernel
theorem d_method_2_code_98 : decode method_2_code 98 = .ok (.dup, 1) := by decide +kernel
theorem d_method_2_code_99 : decode method_2_code 99 = .ok (.aload 5, 2) := by decide +kernel
theorem d_method_2_code_101 : decode method_2_code 101 = .ok (.invokespecial 9, 3) := by decide +kernel
theorem d_method_2_code_104 : decode method_2_code 104 = .ok (.areturn, 1) := by decide +kernel
theorem d_method_2_code_105 : decode method_2_code 105 = .ok (.iconst 3, 1) := by decide +kernel
theorem d_method_2_code_106 : decode method_2_code 106 = .ok (.newarray .char, 2) := by decide +kernel
theorem d_method_2_code_108 : decode method_2_code 108 = .ok (.astore 5, 2) := by decide +kernel
theorem d_method_2_code_110 : decode method_2_code 110 = .ok (.aload 5, 2) := by decide +kernel
theorem d_method_2_code_112 : decode method_2_code 112 = .ok (.iconst 0, 1) := by decide +kernel
theorem d_method_2_code_113 : decode method_2_code 113 = .ok (.iload_n 2, 1) := by decide +kernel
theorem d_method_2_code_114 : decode method_2_code 114 = .ok (.castore, 1) := by decide +kernel
theorem d_method_2_code_115 : decode method_2_code 115 = .ok (.aload 5, 2) := by decide +kernel
theorem d_method_2_code_117 : decode method_2_code 117 = .ok (.iconst 1, 1) := by decide +kernel
theorem d_method_2_code_118 : decode method_2_code 118 = .ok (.iload_n 3, 1) := by decide +kernel
theorem d_method_2_code_119 : decode method_2_code 119 = .ok (.castore, 1) := by decide +kernel
theorem d_method_2_code_120 : decode method_2_code 120 = .ok (.aload 5, 2) := by decide +kernel
theorem d_method_2_code_122 : decode method_2_code 122 = .ok (.iconst 2, 1) := by decide +kernel
theorem d_method_2_code_123 : decode method_2_code 123 = .ok (.iload 4, 2) := by decide +kernel
theorem d_method_2_code_125 : decode method_2_code 125 = .ok (.castore, 1) := by decide +kernel
theorem d_method_2_code_126 : decode method_2_code 126 = .ok (.new 7, 3) := by decide +kernel
theorem d_method_2_code_129 : decode method_2_code 129 = .ok (.dup, 1) := by decide +kernel
theorem d_method_2_code_130 : decode method_2_code 130 = .ok (.aload 5, 2) := by decide +kernel
theorem d_method_2_code_132 : decode method_2_code 132 = .ok (.invokespecial 9, 3) := by decide +kernel
theorem d_method_2_code_135 : decode method_2_code 135 = .ok (.areturn, 1) := by decide +kernel
theorem pf_19 : plainFor (⟨"com/example/config_into_context/configintocontext/XmlElementGivenPinLaw", "mk", "(I)Ljava/lang/String;"⟩ : MethodName) = true := by first | (exact plainFor_of_name (by first | (simp [plainName, overriddenIn]; done) | decide +kernel)) | decide +kernel
set_option maxRecDepth 65536 in
set_option maxHeartbeats 40000000 in
theorem rm_mk {l : Launch} {Z : State} {a0 : Array Value} (hw : ∀ d ∈ tables_1, d.before a0 Z = true) (hEL : EW Z a0 EL1) {zc : Int32} (Sc : Sta Z Z.heap "java/lang/String" "COMPACT_STRINGS" "Z" (.int zc)) (hzc : ¬ zc = 0) (p1 : Int32) (h : Heap) (hX : Ext Z.heap h)  : Met l Z EL1 NW (⟨"com/example/config_into_context/configintocontext/XmlElementGivenPinLaw", "mk", "(I)Ljava/lang/String;"⟩ : MethodName) method_2_code 6 (some (.object "java/lang/String")) [] ({ frames := 5, cells := 6, slots := 16, locals := 120 } : Room) #[(.int p1)] h [] (fun v h' => ∃ a cs, v = some (.ref a) ∧ Str Z h' a cs) := by
  refine Met.intro pf_19 hEL hX (fun _ q => nomatch q) ?_
  intro p e s m below meth c T W
  refine Goes.cast (show entryFrame m #[(.int p1)] 6 = mkF m 0 #[.val (.int p1), .unset, .unset, .unset, .unset, .unset] [] by first | (simp [entryFrame, mkF, argsToLocals, Value.category]; done) | rfl) ?_
  refine g_iload_n W d_method_2_code_0 (pc' := 1) rfl rfl ?_
  refine g_bipush W d_method_2_code_1 (pc' := 3) (v := (24 : Int32)) rfl (by decide) ?_
  refine g_iushr W d_method_2_code_3 (pc' := 4) rfl ?_
  refine g_iconst W d_method_2_code_4 (pc' := 5) (v := (3 : Int32)) rfl rfl ?_
  refine g_iand W d_method_2_code_5 (pc' := 6) rfl ?_
  refine g_istore_n W d_method_2_code_6 (pc' := 7) (L' := #[.val (.int p1), .val (.int (((p1.toUInt32 >>> ((24 : Int32) &&& 31).toUInt32).toInt32) &&& (3 : Int32))), .unset, .unset, .unset, .unset]) rfl rfl ?_
  refine g_iload_n W d_method_2_code_7 (pc' := 8) rfl rfl ?_
  refine g_sipush W d_method_2_code_8 (pc' := 11) (v := (255 : Int32)) rfl (by decide) ?_
  refine g_iand W d_method_2_code_11 (pc' := 12) rfl ?_
  refine g_i2c W d_method_2_code_12 (pc' := 13) rfl ?_
  refine g_istore_n W d_method_2_code_13 (pc' := 14) (L' := #[.val (.int p1), .val (.int (((p1.toUInt32 >>> ((24 : Int32) &&& 31).toUInt32).toInt32) &&& (3 : Int32))), .val (.int ((p1 &&& (255 : Int32)).toUInt32.toUInt16.toUInt32.toInt32)), .unset, .unset, .unset]) rfl rfl ?_
  refine g_iload_n W d_method_2_code_14 (pc' := 15) rfl rfl ?_
  refine g_bipush W d_method_2_code_15 (pc' := 17) (v := (8 : Int32)) rfl (by decide) ?_
  refine g_iushr W d_method_2_code_17 (pc' := 18) rfl ?_
  refine g_sipush W d_method_2_code_18 (pc' := 21) (v := (255 : Int32)) rfl (by decide) ?_
  refine g_iand W d_method_2_code_21 (pc' := 22) rfl ?_
  refine g_i2c W d_method_2_code_22 (pc' := 23) rfl ?_
  refine g_istore_n W d_method_2_code_23 (pc' := 24) (L' := #[.val (.int p1), .val (.int (((p1.toUInt32 >>> ((24 : Int32) &&& 31).toUInt32).toInt32) &&& (3 : Int32))), .val (.int ((p1 &&& (255 : Int32)).toUInt32.toUInt16.toUInt32.toInt32)), .val (.int ((((p1.toUInt32 >>> ((8 : Int32) &&& 31).toUInt32).toInt32) &&& (255 : Int32)).toUInt32.toUInt16.toUInt32.toInt32)), .unset, .unset]) rfl rfl ?_
  refine g_iload_n W d_method_2_code_24 (pc' := 25) rfl rfl ?_
  refine g_bipush W d_method_2_code_25 (pc' := 27) (v := (16 : Int32)) rfl (by decide) ?_
  refine g_iushr W d_method_2_code_27 (pc' := 28) rfl ?_
  refine g_sipush W d_method_2_code_28 (pc' := 31) (v := (255 : Int32)) rfl (by decide) ?_
  refine g_iand W d_method_2_code_31 (pc' := 32) rfl ?_
  refine g_i2c W d_method_2_code_32 (pc' := 33) rfl ?_
  refine g_istore W d_method_2_code_33 (pc' := 35) (L' := #[.val (.int p1), .val (.int (((p1.toUInt32 >>> ((24 : Int32) &&& 31).toUInt32).toInt32) &&& (3 : Int32))), .val (.int ((p1 &&& (255 : Int32)).toUInt32.toUInt16.toUInt32.toInt32)), .val (.int ((((p1.toUInt32 >>> ((8 : Int32) &&& 31).toUInt32).toInt32) &&& (255 : Int32)).toUInt32.toUInt16.toUInt32.toInt32)), .val (.int ((((p1.toUInt32 >>> ((16 : Int32) &&& 31).toUInt32).toInt32) &&& (255 : Int32)).toUInt32.toUInt16.toUInt32.toInt32)), .unset]) rfl rfl ?_
  refine g_iload_n W d_method_2_code_35 (pc' := 36) rfl rfl ?_
  by_cases c1 : (((p1.toUInt32 >>> ((24 : Int32) &&& 31).toUInt32).toInt32) &&& (3 : Int32)) = 0
  · refine g_ifN W d_method_2_code_36 (pc' := 39) rfl (Jvm.Free.XT.i0_ne_f c1) ?_
    refine g_new W d_method_2_code_39 (pc' := 42) rfl (hw _ (List.mem_of_getElem? (i := 4) rfl)) (hw _ (List.mem_of_getElem? (i := 5) rfl)) (hw _ (List.mem_of_getElem? (i := 6) rfl)) (by decide) (by decide) fun T2 h4 b1 g5 W3 E6 A7 D8 => ?_
    have O_b1 := new_Str hw A7 D8
    refine g_dup W3 d_method_2_code_42 (pc' := 43) rfl rfl ?_
    refine g_iconst W3 d_method_2_code_43 (pc' := 44) (v := (0 : Int32)) rfl rfl ?_
    refine g_newarray W3 d_method_2_code_44 (pc' := 46) (cap := 0) rfl (hw _ (List.mem_of_getElem? (i := 7) rfl)) (by decide) (by decide) (by decide) (by decide) (by decide) fun T9 h11 b2 kA15 g12 W10 E13 A14 => ?_
    have A16 : Arv Z h11 b2 kA15 .char (0 : Int32) [] (.int (0 : Int32)) := A14.pad (pad_rep [] (.int (0 : Int32)) 0)
    have K17 : Keep h4 h11 [] := ((Keep.refl h4 []).ext E13)
    have F18 := O_b1.mv K17
    refine g_special W10 d_method_2_code_46 (pc' := 49) (a := b1) (fr' := [b1]) (argsL := [(.ref b2)]) (rest := [(.ref b1)]) (Wd := 1) (kc := 4) (ks := 8) rfl rfl (hw _ (List.mem_of_getElem? (i := 8) rfl)) (hw _ (List.mem_of_getElem? (i := 9) rfl)) (hw _ (List.mem_of_getElem? (i := 10) rfl)) (by decide) rfl rfl (lenOf pd_12 rfl) rfl (allS (List.mem_of_getElem? (i := 1) rfl) (all0)) (by decide) (by decide) (Met.pays (rm_new1e hw hEL Sc hzc b1 b2 _ _ _ _ W10.ext (W10.frs b1 (List.mem_of_getElem? (i := 1) rfl)).1 F18 A16) (hw _ (List.mem_of_getElem? (i := 10) rfl)) (hw _ (List.mem_of_getElem? (i := 6) rfl)) hEL (by decide) (by decide)) fun v24 T19 h21 W20 K22 q23 => ?_
    obtain ⟨rfl, S_b1⟩ := q23
    show Goes _ _ _ _ _ _ _ _ _ _ _ T19 (mkF m 49 #[.val (.int p1), .val (.int (((p1.toUInt32 >>> ((24 : Int32) &&& 31).toUInt32).toInt32) &&& (3 : Int32))), .val (.int ((p1 &&& (255 : Int32)).toUInt32.toUInt16.toUInt32.toInt32)), .val (.int ((((p1.toUInt32 >>> ((8 : Int32) &&& 31).toUInt32).toInt32) &&& (255 : Int32)).toUInt32.toUInt16.toUInt32.toInt32)), .val (.int ((((p1.toUInt32 >>> ((16 : Int32) &&& 31).toUInt32).toInt32) &&& (255 : Int32)).toUInt32.toUInt16.toUInt32.toInt32)), .unset] [(.ref b1)])
    have K25 : Keep h h21 [] := ((((Keep.refl h []).ext E6).ext E13).trans K22 fun x q => by cases List.mem_singleton.mp q; exact Or.inr (Nat.le_of_eq g5.symm))
    exact g_areturn W20 d_method_2_code_49 rfl rfl rfl K25 ⟨_, _, rfl, S_b1⟩ (by decide) (by decide)
  · refine g_ifY W d_method_2_code_36 (pc' := 50) (by decide) (by decide) (Jvm.Free.XT.i0_ne_t c1) ?_
    refine g_iload_n W d_method_2_code_50 (pc' := 51) rfl rfl ?_
    refine g_iconst W d_method_2_code_51 (pc' := 52) (v := (1 : Int32)) rfl rfl ?_
    by_cases c26 : (((p1.toUInt32 >>> ((24 : Int32) &&& 31).toUInt32).toInt32) &&& (3 : Int32)) = (1 : Int32)
    · refine g_icmpN W d_method_2_code_52 (pc' := 55) rfl (Jvm.Free.XT.ii_ne_f c26) ?_
      refine g_iconst W d_method_2_code_55 (pc' := 56) (v := (1 : Int32)) rfl rfl ?_
      refine g_newarray W d_method_2_code_56 (pc' := 58) (cap := 1) rfl (hw _ (List.mem_of_getElem? (i := 7) rfl)) (by decide) (by decide) (by decide) (by decide) (by decide) fun T27 h29 b1 kA33 g30 W28 E31 A32 => ?_
      have A34 : Arv Z h29 b1 kA33 .char (1 : Int32) [(.int (0 : Int32))] (.int (0 : Int32)) := A32.pad (pad_rep [] (.int (0 : Int32)) 1)
      refine g_astore W28 d_method_2_code_58 (pc' := 60) (L' := #[.val (.int p1), .val (.int (((p1.toUInt32 >>> ((24 : Int32) &&& 31).toUInt32).toInt32) &&& (3 : Int32))), .val (.int ((p1 &&& (255 : Int32)).toUInt32.toUInt16.toUInt32.toInt32)), .val (.int ((((p1.toUInt32 >>> ((8 : Int32) &&& 31).toUInt32).toInt32) &&& (255 : Int32)).toUInt32.toUInt16.toUInt32.toInt32)), .val (.int ((((p1.toUInt32 >>> ((16 : Int32) &&& 31).toUInt32).toInt32) &&& (255 : Int32)).toUInt32.toUInt16.toUInt32.toInt32)), .val (.ref b1)]) rfl rfl rfl ?_
      refine g_aload W28 d_method_2_code_60 (pc' := 62) rfl rfl rfl ?_
      refine g_iconst W28 d_method_2_code_62 (pc' := 63) (v := (0 : Int32)) rfl rfl ?_
      refine g_iload_n W28 d_method_2_code_63 (pc' := 64) rfl rfl ?_
      refine g_castore W28 d_method_2_code_64 (pc' := 65) (i := 0) (x' := p1 &&& (255 : Int32)) rfl (nar_mask p1) A34 ⟨by decide, by decide⟩ rfl (Nat.le_of_ble_eq_true rfl) (List.mem_of_getElem? (i := 0) rfl) fun T35 h37 W36 R38 A39 => ?_
      have A40 : Arv Z h37 b1 kA33 .char (1 : Int32) [(.int (p1 &&& (255 : Int32)))] (.int (0 : Int32)) := A39
      refine g_new W36 d_method_2_code_65 (pc' := 68) rfl (hw _ (List.mem_of_getElem? (i := 4) rfl)) (hw _ (List.mem_of_getElem? (i := 5) rfl)) (hw _ (List.mem_of_getElem? (i := 6) rfl)) (by decide) (by decide) fun T41 h43 b2 g44 W42 E45 A46 D47 => ?_
      have O_b2 := new_Str hw A46 D47
      refine g_dup W42 d_method_2_code_68 (pc' := 69) rfl rfl ?_
      refine g_aload W42 d_method_2_code_69 (pc' := 71) rfl rfl rfl ?_
      have K48 : Keep h37 h43 [] := ((Keep.refl h37 []).ext E45)
      have F49 := A40.mv K48
      refine g_special W42 d_method_2_code_71 (pc' := 74) (a := b2) (fr' := [b2]) (argsL := [(.ref b1)]) (rest := [(.ref b2)]) (Wd := 1) (kc := 1) (ks := 1) rfl rfl (hw _ (List.mem_of_getElem? (i := 8) rfl)) (hw _ (List.mem_of_getElem? (i := 9) rfl)) (hw _ (List.mem_of_getElem? (i := 10) rfl)) (by decide) rfl rfl (lenOf pd_12 rfl) rfl (allS (List.mem_of_getElem? (i := 0) rfl) (all0)) (by decide) (by decide) (pays_newStr (cs := [p1 &&& (255 : Int32)]) hEL (fun d hd => hw d ((by decide +kernel : ∀ d ∈ StrChars.Road.words, d ∈ tables_1) d hd)) (hw _ (List.mem_of_getElem? (i := 5) rfl)) O_b2 F49 Sc hzc W42.ext (W42.frs b2 (List.mem_of_getElem? (i := 0) rfl)).1 rfl (by decide) (by decide) (by decide) (lowC _ lowN) (by decide) (by decide)) fun v55 T50 h52 W51 K53 q54 => ?_
      obtain ⟨rfl, S_b2⟩ := q54
      show Goes _ _ _ _ _ _ _ _ _ _ _ T50 (mkF m 74 #[.val (.int p1), .val (.int (((p1.toUInt32 >>> ((24 : Int32) &&& 31).toUInt32).toInt32) &&& (3 : Int32))), .val (.int ((p1 &&& (255 : Int32)).toUInt32.toUInt16.toUInt32.toInt32)), .val (.int ((((p1.toUInt32 >>> ((8 : Int32) &&& 31).toUInt32).toInt32) &&& (255 : Int32)).toUInt32.toUInt16.toUInt32.toInt32)), .val (.int ((((p1.toUInt32 >>> ((16 : Int32) &&& 31).toUInt32).toInt32) &&& (255 : Int32)).toUInt32.toUInt16.toUInt32.toInt32)), .val (.ref b1)] [(.ref b2)])
      have K56 : Keep h h37 [] := (((Keep.refl h []).ext E31).wr R38 (Or.inr (Nat.le_of_eq g30.symm)))
      have K57 : Keep h h52 [] := (((((Keep.refl h []).ext E31).wr R38 (Or.inr (Nat.le_of_eq g30.symm))).ext E45).trans K53 fun x q => by cases List.mem_singleton.mp q; exact Or.inr (Nat.le_trans K56.1 (Nat.le_of_eq g44.symm)))
      exact g_areturn W51 d_method_2_code_74 rfl rfl rfl K57 ⟨_, _, rfl, S_b2⟩ (by decide) (by decide)
    · refine g_icmpY W d_method_2_code_52 (pc' := 75) (by decide) (by decide) (Jvm.Free.XT.ii_ne_t c26) ?_
      refine g_iload_n W d_method_2_code_75 (pc' := 76) rfl rfl ?_
      refine g_iconst W d_method_2_code_76 (pc' := 77) (v := (2 : Int32)) rfl rfl ?_
      by_cases c58 : (((p1.toUInt32 >>> ((24 : Int32) &&& 31).toUInt32).toInt32) &&& (3 : Int32)) = (2 : Int32)
      · refine g_icmpN W d_method_2_code_77 (pc' := 80) rfl (Jvm.Free.XT.ii_ne_f c58) ?_
        refine g_iconst W d_method_2_code_80 (pc' := 81) (v := (2 : Int32)) rfl rfl ?_
        refine g_newarray W d_method_2_code_81 (pc' := 83) (cap := 2) rfl (hw _ (List.mem_of_getElem? (i := 7) rfl)) (by decide) (by decide) (by decide) (by decide) (by decide) fun T59 h61 b1 kA65 g62 W60 E63 A64 => ?_
        have A66 : Arv Z h61 b1 kA65 .char (2 : Int32) [(.int (0 : Int32)), (.int (0 : Int32))] (.int (0 : Int32)) := A64.pad (pad_rep [] (.int (0 : Int32)) 2)
        refine g_astore W60 d_method_2_code_83 (pc' := 85) (L' := #[.val (.int p1), .val (.int (((p1.toUInt32 >>> ((24 : Int32) &&& 31).toUInt32).toInt32) &&& (3 : Int32))), .val (.int ((p1 &&& (255 : Int32)).toUInt32.toUInt16.toUInt32.toInt32)), .val (.int ((((p1.toUInt32 >>> ((8 : Int32) &&& 31).toUInt32).toInt32) &&& (255 : Int32)).toUInt32.toUInt16.toUInt32.toInt32)), .val (.int ((((p1.toUInt32 >>> ((16 : Int32) &&& 31).toUInt32).toInt32) &&& (255 : Int32)).toUInt32.toUInt16.toUInt32.toInt32)), .val (.ref b1)]) rfl rfl rfl ?_
        refine g_aload W60 d_method_2_code_85 (pc' := 87) rfl rfl rfl ?_
        refine g_iconst W60 d_method_2_code_87 (pc' := 88) (v := (0 : Int32)) rfl rfl ?_
        refine g_iload_n W60 d_method_2_code_88 (pc' := 89) rfl rfl ?_
        refine g_castore W60 d_method_2_code_89 (pc' := 90) (i := 0) (x' := p1 &&& (255 : Int32)) rfl (nar_mask p1) A66 ⟨by decide, by decide⟩ rfl (Nat.le_of_ble_eq_true rfl) (List.mem_of_getElem? (i := 0) rfl) fun T67 h69 W68 R70 A71 => ?_
        have A72 : Arv Z h69 b1 kA65 .char (2 : Int32) [(.int (p1 &&& (255 : Int32))), (.int (0 : Int32))] (.int (0 : Int32)) := A71
        refine g_aload W68 d_method_2_code_90 (pc' := 92) rfl rfl rfl ?_
        refine g_iconst W68 d_method_2_code_92 (pc' := 93) (v := (1 : Int32)) rfl rfl ?_
        refine g_iload_n W68 d_method_2_code_93 (pc' := 94) rfl rfl ?_
        refine g_castore W68 d_method_2_code_94 (pc' := 95) (i := 1) (x' := ((p1.toUInt32 >>> ((8 : Int32) &&& 31).toUInt32).toInt32) &&& (255 : Int32)) rfl (nar_mask ((p1.toUInt32 >>> ((8 : Int32) &&& 31).toUInt32).toInt32)) A72 ⟨by decide, by decide⟩ rfl (Nat.le_of_ble_eq_true rfl) (List.mem_of_getElem? (i := 0) rfl) fun T73 h75 W74 R76 A77 => ?_
        have A78 : Arv Z h75 b1 kA65 .char (2 : Int32) [(.int (p1 &&& (255 : Int32))), (.int (((p1.toUInt32 >>> ((8 : Int32) &&& 31).toUInt32).toInt32) &&& (255 : Int32)))] (.int (0 : Int32)) := A77
        refine g_new W74 d_method_2_code_95 (pc' := 98) rfl (hw _ (List.mem_of_getElem? (i := 4) rfl)) (hw _ (List.mem_of_getElem? (i := 5) rfl)) (hw _ (List.mem_of_getElem? (i := 6) rfl)) (by decide) (by decide) fun T79 h81 b2 g82 W80 E83 A84 D85 => ?_
        have O_b2 := new_Str hw A84 D85
        refine g_dup W80 d_method_2_code_98 (pc' := 99) rfl rfl ?_
        refine g_aload W80 d_method_2_code_99 (pc' := 101) rfl rfl rfl ?_
        have K86 : Keep h75 h81 [] := ((Keep.refl h75 []).ext E83)
        have F87 := A78.mv K86
        refine g_special W80 d_method_2_code_101 (pc' := 104) (a := b2) (fr' := [b2]) (argsL := [(.ref b1)]) (rest := [(.ref b2)]) (Wd := 1) (kc := 1) (ks := 2) rfl rfl (hw _ (List.mem_of_getElem? (i := 8) rfl)) (hw _ (List.mem_of_getElem? (i := 9) rfl)) (hw _ (List.mem_of_getElem? (i := 10) rfl)) (by decide) rfl rfl (lenOf pd_12 rfl) rfl (allS (List.mem_of_getElem? (i := 0) rfl) (all0)) (by decide) (by decide) (pays_newStr (cs := [p1 &&& (255 : Int32), ((p1.toUInt32 >>> ((8 : Int32) &&& 31).toUInt32).toInt32) &&& (255 : Int32)]) hEL (fun d hd => hw d ((by decide +kernel : ∀ d ∈ StrChars.Road.words, d ∈ tables_1) d hd)) (hw _ (List.mem_of_getElem? (i := 5) rfl)) O_b2 F87 Sc hzc W80.ext (W80.frs b2 (List.mem_of_getElem? (i := 0) rfl)).1 rfl (by decide) (by decide) (by decide) (lowC _ (lowC _ lowN)) (by decide) (by decide)) fun v93 T88 h90 W89 K91 q92 => ?_
        obtain ⟨rfl, S_b2⟩ := q92
        show Goes _ _ _ _ _ _ _ _ _ _ _ T88 (mkF m 104 #[.val (.int p1), .val (.int (((p1.toUInt32 >>> ((24 : Int32) &&& 31).toUInt32).toInt32) &&& (3 : Int32))), .val (.int ((p1 &&& (255 : Int32)).toUInt32.toUInt16.toUInt32.toInt32)), .val (.int ((((p1.toUInt32 >>> ((8 : Int32) &&& 31).toUInt32).toInt32) &&& (255 : Int32)).toUInt32.toUInt16.toUInt32.toInt32)), .val (.int ((((p1.toUInt32 >>> ((16 : Int32) &&& 31).toUInt32).toInt32) &&& (255 : Int32)).toUInt32.toUInt16.toUInt32.toInt32)), .val (.ref b1)] [(.ref b2)])
        have K94 : Keep h h75 [] := ((((Keep.refl h []).ext E63).wr R70 (Or.inr (Nat.le_of_eq g62.symm))).wr R76 (Or.inr (Nat.le_of_eq g62.symm)))
        have K95 : Keep h h90 [] := ((((((Keep.refl h []).ext E63).wr R70 (Or.inr (Nat.le_of_eq g62.symm))).wr R76 (Or.inr (Nat.le_of_eq g62.symm))).ext E83).trans K91 fun x q => by cases List.mem_singleton.mp q; exact Or.inr (Nat.le_trans K94.1 (Nat.le_of_eq g82.symm)))
        exact g_areturn W89 d_method_2_code_104 rfl rfl rfl K95 ⟨_, _, rfl, S_b2⟩ (by decide) (by decide)
      · refine g_icmpY W d_method_2_code_77 (pc' := 105) (by decide) (by decide) (Jvm.Free.XT.ii_ne_t c58) ?_
        refine g_iconst W d_method_2_code_105 (pc' := 106) (v := (3 : Int32)) rfl rfl ?_
        refine g_newarray W d_method_2_code_106 (pc' := 108) (cap := 3) rfl (hw _ (List.mem_of_getElem? (i := 7) rfl)) (by decide) (by decide) (by decide) (by decide) (by decide) fun T96 h98 b1 kA102 g99 W97 E100 A101 => ?_
        have A103 : Arv Z h98 b1 kA102 .char (3 : Int32) [(.int (0 : Int32)), (.int (0 : Int32)), (.int (0 : Int32))] (.int (0 : Int32)) := A101.pad (pad_rep [] (.int (0 : Int32)) 3)
        refine g_astore W97 d_method_2_code_108 (pc' := 110) (L' := #[.val (.int p1), .val (.int (((p1.toUInt32 >>> ((24 : Int32) &&& 31).toUInt32).toInt32) &&& (3 : Int32))), .val (.int ((p1 &&& (255 : Int32)).toUInt32.toUInt16.toUInt32.toInt32)), .val (.int ((((p1.toUInt32 >>> ((8 : Int32) &&& 31).toUInt32).toInt32) &&& (255 : Int32)).toUInt32.toUInt16.toUInt32.toInt32)), .val (.int ((((p1.toUInt32 >>> ((16 : Int32) &&& 31).toUInt32).toInt32) &&& (255 : Int32)).toUInt32.toUInt16.toUInt32.toInt32)), .val (.ref b1)]) rfl rfl rfl ?_
        refine g_aload W97 d_method_2_code_110 (pc' := 112) rfl rfl rfl ?_
        refine g_iconst W97 d_method_2_code_112 (pc' := 113) (v := (0 : Int32)) rfl rfl ?_
        refine g_iload_n W97 d_method_2_code_113 (pc' := 114) rfl rfl ?_
        refine g_castore W97 d_method_2_code_114 (pc' := 115) (i := 0) (x' := p1 &&& (255 : Int32)) rfl (nar_mask p1) A103 ⟨by decide, by decide⟩ rfl (Nat.le_of_ble_eq_true rfl) (List.mem_of_getElem? (i := 0) rfl) fun T104 h106 W105 R107 A108 => ?_
        have A109 : Arv Z h106 b1 kA102 .char (3 : Int32) [(.int (p1 &&& (255 : Int32))), (.int (0 : Int32)), (.int (0 : Int32))] (.int (0 : Int32)) := A108
        refine g_aload W105 d_method_2_code_115 (pc' := 117) rfl rfl rfl ?_
        refine g_iconst W105 d_method_2_code_117 (pc' := 118) (v := (1 : Int32)) rfl rfl ?_
        refine g_iload_n W105 d_method_2_code_118 (pc' := 119) rfl rfl ?_
        refine g_castore W105 d_method_2_code_119 (pc' := 120) (i := 1) (x' := ((p1.toUInt32 >>> ((8 : Int32) &&& 31).toUInt32).toInt32) &&& (255 : Int32)) rfl (nar_mask ((p1.toUInt32 >>> ((8 : Int32) &&& 31).toUInt32).toInt32)) A109 ⟨by decide, by decide⟩ rfl (Nat.le_of_ble_eq_true rfl) (List.mem_of_getElem? (i := 0) rfl) fun T110 h112 W111 R113 A114 => ?_
        have A115 : Arv Z h112 b1 kA102 .char (3 : Int32) [(.int (p1 &&& (255 : Int32))), (.int (((p1.toUInt32 >>> ((8 : Int32) &&& 31).toUInt32).toInt32) &&& (255 : Int32))), (.int (0 : Int32))] (.int (0 : Int32)) := A114
        refine g_aload W111 d_method_2_code_120 (pc' := 122) rfl rfl rfl ?_
        refine g_iconst W111 d_method_2_code_122 (pc' := 123) (v := (2 : Int32)) rfl rfl ?_
        refine g_iload W111 d_method_2_code_123 (pc' := 125) rfl rfl ?_
        refine g_castore W111 d_method_2_code_125 (pc' := 126) (i := 2) (x' := ((p1.toUInt32 >>> ((16 : Int32) &&& 31).toUInt32).toInt32) &&& (255 : Int32)) rfl (nar_mask ((p1.toUInt32 >>> ((16 : Int32) &&& 31).toUInt32).toInt32)) A115 ⟨by decide, by decide⟩ rfl (Nat.le_of_ble_eq_true rfl) (List.mem_of_getElem? (i := 0) rfl) fun T116 h118 W117 R119 A120 => ?_
        have A121 : Arv Z h118 b1 kA102 .char (3 : Int32) [(.int (p1 &&& (255 : Int32))), (.int (((p1.toUInt32 >>> ((8 : Int32) &&& 31).toUInt32).toInt32) &&& (255 : Int32))), (.int (((p1.toUInt32 >>> ((16 : Int32) &&& 31).toUInt32).toInt32) &&& (255 : Int32)))] (.int (0 : Int32)) := A120
        refine g_new W117 d_method_2_code_126 (pc' := 129) rfl (hw _ (List.mem_of_getElem? (i := 4) rfl)) (hw _ (List.mem_of_getElem? (i := 5) rfl)) (hw _ (List.mem_of_getElem? (i := 6) rfl)) (by decide) (by decide) fun T122 h124 b2 g125 W123 E126 A127 D128 => ?_
        have O_b2 := new_Str hw A127 D128
        refine g_dup W123 d_method_2_code_129 (pc' := 130) rfl rfl ?_
        refine g_aload W123 d_method_2_code_130 (pc' := 132) rfl rfl rfl ?_
        have K129 : Keep h118 h124 [] := ((Keep.refl h118 []).ext E126)
        have F130 := A121.mv K129
        refine g_special W123 d_method_2_code_132 (pc' := 135) (a := b2) (fr' := [b2]) (argsL := [(.ref b1)]) (rest := [(.ref b2)]) (Wd := 1) (kc := 1) (ks := 3) rfl rfl (hw _ (List.mem_of_getElem? (i := 8) rfl)) (hw _ (List.mem_of_getElem? (i := 9) rfl)) (hw _ (List.mem_of_getElem? (i := 10) rfl)) (by decide) rfl rfl (lenOf pd_12 rfl) rfl (allS (List.mem_of_getElem? (i := 0) rfl) (all0)) (by decide) (by decide) (pays_newStr (cs := [p1 &&& (255 : Int32), ((p1.toUInt32 >>> ((8 : Int32) &&& 31).toUInt32).toInt32) &&& (255 : Int32), ((p1.toUInt32 >>> ((16 : Int32) &&& 31).toUInt32).toInt32) &&& (255 : Int32)]) hEL (fun d hd => hw d ((by decide +kernel : ∀ d ∈ StrChars.Road.words, d ∈ tables_1) d hd)) (hw _ (List.mem_of_getElem? (i := 5) rfl)) O_b2 F130 Sc hzc W123.ext (W123.frs b2 (List.mem_of_getElem? (i := 0) rfl)).1 rfl (by decide) (by decide) (by decide) (lowC _ (lowC _ (lowC _ lowN))) (by decide) (by decide)) fun v136 T131 h133 W132 K134 q135 => ?_
        obtain ⟨rfl, S_b2⟩ := q135
        show Goes _ _ _ _ _ _ _ _ _ _ _ T131 (mkF m 135 #[.val (.int p1), .val (.int (((p1.toUInt32 >>> ((24 : Int32) &&& 31).toUInt32).toInt32) &&& (3 : Int32))), .val (.int ((p1 &&& (255 : Int32)).toUInt32.toUInt16.toUInt32.toInt32)), .val (.int ((((p1.toUInt32 >>> ((8 : Int32) &&& 31).toUInt32).toInt32) &&& (255 : Int32)).toUInt32.toUInt16.toUInt32.toInt32)), .val (.int ((((p1.toUInt32 >>> ((16 : Int32) &&& 31).toUInt32).toInt32) &&& (255 : Int32)).toUInt32.toUInt16.toUInt32.toInt32)), .val (.ref b1)] [(.ref b2)])
        have K137 : Keep h h118 [] := (((((Keep.refl h []).ext E100).wr R107 (Or.inr (Nat.le_of_eq g99.symm))).wr R113 (Or.inr (Nat.le_of_eq g99.symm))).wr R119 (Or.inr (Nat.le_of_eq g99.symm)))
        have K138 : Keep h h133 [] := (((((((Keep.refl h []).ext E100).wr R107 (Or.inr (Nat.le_of_eq g99.symm))).wr R113 (Or.inr (Nat.le_of_eq g99.symm))).wr R119 (Or.inr (Nat.le_of_eq g99.symm))).ext E126).trans K134 fun x q => by cases List.mem_singleton.mp q; exact Or.inr (Nat.le_trans K137.1 (Nat.le_of_eq g125.symm)))
        exact g_areturn W132 d_method_2_code_135 rfl rfl rfl K138 ⟨_, _, rfl, S_b2⟩ (by decide) (by decide)
theorem pd_13 : parseMethodDescriptor "(Ljava/lang/String;Ljava/lang/String;Ljava/lang/String;Ljava/util/List;I)V" = some ⟨[(.object "java/lang/String"), (.object "java/lang/String"), (.object "java/lang/String"), (.object "java/util/List"), .int], none⟩ := by decide +kernel
theorem pd_14 : parseMethodDescriptor "(Ljava/lang/String;)Ljava/lang/String;" = some ⟨[(.object "java/lang/String")], some (.object "java/lang/String")⟩ := by decide +kernel
set_option maxRecDepth 65536 in
set_option maxHeartbeats 40000000 in
theorem tail0 {l : Launch} {Z : State} {a0 : Array Value} (hw : ∀ d ∈ tables_1, d.before a0 Z = true) (hEL : EW Z a0 EL1) {zc : Int32} (Sc : Sta Z Z.heap "java/lang/String" "COMPACT_STRINGS" "Z" (.int zc)) (hzc : ¬ zc = 0) {p : Program} {e : Env} {s : State} {m : MethodId} {below : List Frame} {meth : Method} {c : Code} {h0 : Heap} {T : State} {fr : List Addr} (p1 p2 p3 p4 p5 : Int32) (x0 x1 x2 u0 u1 u2 : Addr) (cs0 cs1 cs2 : List Int32) (dp : Int32) (l1 d : Addr) (k : ClassId) (q : Addr) (csq : List Int32) (mo sa : Int32) {el : Addr} (h : Heap) (W : Wk p l e room_1 s m #[(.int p1), (.int p2), (.int p3), (.int p4), (.int p5)] below meth c x code maxLocals ret Z a0 EL1 NW h0 T h fr 42 220) (K0 : Keep h0 h []) (Se : Sta Z Z.heap "java/util/ImmutableCollections" "EMPTY_LIST" "Ljava/util/ImmutableCollections$ListN;" (.ref el)) (S0 : Str Z h x0 cs0) (S1 : Str Z h x1 cs1) (S2 : Str Z h x2 cs2) (Sq : Str Z h q csq) (Ol : Obj Z h l1 "java/util/ArrayList" [(("java/util/AbstractList", "modCount", "I"), (.int (0 : Int32))), (("java/util/ArrayList", "elementData", "[Ljava/lang/Object;"), (.ref d)), (("java/util/ArrayList", "size", "I"), (.int (0 : Int32)))]) : Goes p e below s Z EL1 NW h0 [] (fun v _ => v = some (.int 1)) room_1 T (mkF m 267 #[.val (.int p1), .val (.int p2), .val (.int p3), .val (.int p4), .val (.int p5), .val (.int (0 : Int32)), .val (.int dp), .val (.ref x0), .val (.ref x1), .val (.ref x2), .val (.ref u0), .val (.ref u1), .val (.ref u2), .val (.ref l1), .val (.int mo), .val (.int sa), .val (.ref q), .unset, .unset, .unset] []) := by
  refine g_new W at_267 (pc' := 270) rfl (hw _ (List.mem_of_getElem? (i := 53) rfl)) (hw _ (List.mem_of_getElem? (i := 54) rfl)) (hw _ (List.mem_of_getElem? (i := 55) rfl)) (by decide) (by decide) fun T1 h3 o1 g4 W2 E5 A6 D7 => ?_
  have O_o1 := new_Xe hw A6 D7
  refine g_dup W2 at_270 (pc' := 271) rfl rfl ?_
  refine g_aconst_null W2 at_271 (pc' := 272) rfl ?_
  refine g_ldc W2 at_272 (pc' := 274) (text := "e") (vs := [(.int (101 : Int32))]) (zz := (1 : Int32)) (n := 4) rfl (hw _ (List.mem_of_getElem? (i := 56) rfl)) (wS_of hw) (List.mem_of_getElem? (i := 4) rfl) ⟨by decide +kernel, by decide +kernel⟩ (by decide) (by decide) (by decide +kernel) (by decide) (by decide) (by decide) fun T8 h10 a18 b19 kb17 W9 E11 X12 C13 V14 A15 ne16 => ?_
  refine g_ldc W9 at_274 (pc' := 276) (text := "e") (vs := [(.int (101 : Int32))]) (zz := (1 : Int32)) (n := 4) rfl (hw _ (List.mem_of_getElem? (i := 56) rfl)) (wS_of hw) (List.mem_of_getElem? (i := 4) rfl) ⟨by decide +kernel, by decide +kernel⟩ (by decide) (by decide) (by decide +kernel) (by decide) (by decide) (by decide) fun T20 h22 a30 b31 kb29 W21 E23 X24 C25 V26 A27 ne28 => ?_
  refine g_aload W21 at_276 (pc' := 278) rfl rfl rfl ?_
  refine g_iload W21 at_278 (pc' := 280) rfl rfl ?_
  have K38 : Keep h3 h22 [] := (((Keep.refl h3 []).ext E11).ext E23)
  have F39 := O_o1.mv K38
  refine g_special W21 at_280 (pc' := 283) (a := o1) (fr' := [o1]) (argsL := [.null, (.ref a18), (.ref a30), (.ref l1), (.int p5)]) (rest := [(.ref o1)]) (Wd := 1) (kc := 2) (ks := 4) rfl rfl (hw _ (List.mem_of_getElem? (i := 57) rfl)) (hw _ (List.mem_of_getElem? (i := 58) rfl)) (hw _ (List.mem_of_getElem? (i := 59) rfl)) (by decide) rfl rfl (lenOf pd_13 rfl) rfl (allS (List.mem_of_getElem? (i := 0) rfl) (all0)) (by decide) (by decide) (Met.pays (rm_initX hw hEL Sc hzc o1 .null (.ref a18) (.ref a30) l1 p5 _ W21.ext Se rfl rfl rfl (W21.frs o1 (List.mem_of_getElem? (i := 0) rfl)).1 F39) (hw _ (List.mem_of_getElem? (i := 59) rfl)) (hw _ (List.mem_of_getElem? (i := 55) rfl)) hEL (by decide) (by decide)) fun v37 T32 h34 W33 K35 q36 => ?_
  obtain ⟨rfl, at1, Ox⟩ := q36
  show Goes _ _ _ _ _ _ _ _ _ _ _ T32 (mkF m 283 #[.val (.int p1), .val (.int p2), .val (.int p3), .val (.int p4), .val (.int p5), .val (.int (0 : Int32)), .val (.int dp), .val (.ref x0), .val (.ref x1), .val (.ref x2), .val (.ref u0), .val (.ref u1), .val (.ref u2), .val (.ref l1), .val (.int mo), .val (.int sa), .val (.ref q), .unset, .unset, .unset] [(.ref o1)])
  refine g_astore W33 at_283 (pc' := 285) (L' := #[.val (.int p1), .val (.int p2), .val (.int p3), .val (.int p4), .val (.int p5), .val (.int (0 : Int32)), .val (.int dp), .val (.ref x0), .val (.ref x1), .val (.ref x2), .val (.ref u0), .val (.ref u1), .val (.ref u2), .val (.ref l1), .val (.int mo), .val (.int sa), .val (.ref q), .val (.ref o1), .unset, .unset]) rfl rfl rfl ?_
  refine g_aload W33 at_285 (pc' := 287) rfl rfl rfl ?_
  refine g_aload W33 at_287 (pc' := 289) rfl rfl rfl ?_
  have K40 : Keep h h34 [] := (((((Keep.refl h []).ext E5).ext E11).ext E23).trans K35 fun x q => by cases List.mem_singleton.mp q; exact Or.inr (Nat.le_of_eq g4.symm))
  have F41 := Ol.mv K40
  have F42 := Sq.mv K40
  refine g_virtual W33 at_289 (pc' := 292) (a := o1) (fr' := []) (argsL := [(.ref q)]) (rest := []) (Wd := 0) (kc := 0) (ks := 0) rfl (hw _ (List.mem_of_getElem? (i := 82) rfl)) (hw _ (List.mem_of_getElem? (i := 83) rfl)) (hw _ (List.mem_of_getElem? (i := 85) rfl)) (hw _ (List.mem_of_getElem? (i := 84) rfl)) (by decide) Ox.1 rfl rfl (lenOf pd_14 rfl) rfl all0 (by decide) (by decide) (Met.pays (rm_given0 hw hEL Sc hzc o1 q csq l1 d k   _ W33.ext (Ox.get 5 rfl) F41   F42 ) (hw _ (List.mem_of_getElem? (i := 86) rfl)) (hw _ (List.mem_of_getElem? (i := 55) rfl)) hEL (by decide) (by decide)) fun v48 T43 h45 W44 K46 q47 => ?_
  obtain ⟨rfl, rfl⟩ := q47
  obtain ⟨G, hG⟩ : ∃ G, G = (.null : Value) := ⟨_, rfl⟩
  have rG : G.isRef = true := by rw [hG]; rfl
  rw [← hG]
  show Goes _ _ _ _ _ _ _ _ _ _ _ T43 (mkF m 292 #[.val (.int p1), .val (.int p2), .val (.int p3), .val (.int p4), .val (.int p5), .val (.int (0 : Int32)), .val (.int dp), .val (.ref x0), .val (.ref x1), .val (.ref x2), .val (.ref u0), .val (.ref u1), .val (.ref u2), .val (.ref l1), .val (.int mo), .val (.int sa), .val (.ref q), .val (.ref o1), .unset, .unset] [G])
  refine g_astore W44 at_292 (pc' := 294) (L' := #[.val (.int p1), .val (.int p2), .val (.int p3), .val (.int p4), .val (.int p5), .val (.int (0 : Int32)), .val (.int dp), .val (.ref x0), .val (.ref x1), .val (.ref x2), .val (.ref u0), .val (.ref u1), .val (.ref u2), .val (.ref l1), .val (.int mo), .val (.int sa), .val (.ref q), .val (.ref o1), .val G, .unset]) rfl rG (by rcases ref_cases rG with q | ⟨a, q⟩ <;> rw [q] <;> rfl) ?_
  refine g_aconst_null W44 at_294 (pc' := 295) rfl ?_
  refine g_astore W44 at_295 (pc' := 297) (L' := #[.val (.int p1), .val (.int p2), .val (.int p3), .val (.int p4), .val (.int p5), .val (.int (0 : Int32)), .val (.int dp), .val (.ref x0), .val (.ref x1), .val (.ref x2), .val (.ref u0), .val (.ref u1), .val (.ref u2), .val (.ref l1), .val (.int mo), .val (.int sa), .val (.ref q), .val (.ref o1), .val G, .val .null]) rfl rfl rfl ?_
  refine g_iload W44 at_297 (pc' := 299) rfl rfl ?_
  refine g_iconst W44 at_299 (pc' := 300) (v := (3 : Int32)) rfl rfl ?_
  refine g_icmpY W44 at_300 (pc' := 317) (by decide) (by decide) (Jvm.Free.XT.ii_lt_t (by decide)) ?_
  refine g_iload W44 at_317 (pc' := 319) rfl rfl ?_
  refine g_iconst W44 at_319 (pc' := 320) (v := (2 : Int32)) rfl rfl ?_
  refine g_icmpY W44 at_320 (pc' := 337) (by decide) (by decide) (Jvm.Free.XT.ii_lt_t (by decide)) ?_
  refine g_iload W44 at_337 (pc' := 339) rfl rfl ?_
  refine g_iconst W44 at_339 (pc' := 340) (v := (1 : Int32)) rfl rfl ?_
  refine g_icmpY W44 at_340 (pc' := 357) (by decide) (by decide) (Jvm.Free.XT.ii_lt_t (by decide)) ?_
  refine g_aload W44 at_357 (pc' := 359) rfl rfl rG ?_
  refine g_aload W44 at_359 (pc' := 361) rfl rfl rfl ?_
  refine g_acmpN W44 at_361 (pc' := 364) rfl rG rfl (Jvm.Free.XT.aa_ne_f hG) ?_
  refine g_iconst W44 at_364 (pc' := 365) (v := (1 : Int32)) rfl rfl ?_
  refine g_goto W44 at_365 (pc' := 369) (by decide) (by decide) ?_
  exact g_ireturn W44 at_369 (by decide) rfl (K0.trans K40 fun _ q => nomatch q) rfl (by decide) (by decide)
set_option maxRecDepth 65536 in
set_option maxHeartbeats 40000000 in
theorem tail1 {l : Launch} {Z : State} {a0 : Array Value} (hw : ∀ d ∈ tables_1, d.before a0 Z = true) (hEL : EW Z a0 EL1) {zc : Int32} (Sc : Sta Z Z.heap "java/lang/String" "COMPACT_STRINGS" "Z" (.int zc)) (hzc : ¬ zc = 0) {p : Program} {e : Env} {s : State} {m : MethodId} {below : List Frame} {meth : Method} {c : Code} {h0 : Heap} {T : State} {fr : List Addr} (p1 p2 p3 p4 p5 : Int32) (x0 x1 x2 u0 u1 u2 : Addr) (cs0 cs1 cs2 : List Int32) (dp : Int32) (l1 d : Addr) (k : ClassId) (e0 : Addr) (q : Addr) (csq : List Int32) (mo sa : Int32) {el : Addr} (h : Heap) (W : Wk p l e room_1 s m #[(.int p1), (.int p2), (.int p3), (.int p4), (.int p5)] below meth c x code maxLocals ret Z a0 EL1 NW h0 T h fr 42 220) (K0 : Keep h0 h []) (Se : Sta Z Z.heap "java/util/ImmutableCollections" "EMPTY_LIST" "Ljava/util/ImmutableCollections$ListN;" (.ref el)) (S0 : Str Z h x0 cs0) (S1 : Str Z h x1 cs1) (S2 : Str Z h x2 cs2) (Sq : Str Z h q csq) (Ol : Obj Z h l1 "java/util/ArrayList" [(("java/util/AbstractList", "modCount", "I"), (.int (1 : Int32))), (("java/util/ArrayList", "elementData", "[Ljava/lang/Object;"), (.ref d)), (("java/util/ArrayList", "size", "I"), (.int (1 : Int32)))]) (Ad1 : Arv Z h d k (.object "java/lang/Object") (10 : Int32) [.ref e0, .null, .null, .null, .null, .null, .null, .null, .null, .null] .null) (Oe0 : Obj Z h e0 "com/example/config_into_context/configintocontext/XmlElement$Attribute" [(("com/example/config_into_context/configintocontext/XmlElement$Attribute", "namespace", "Ljava/lang/String;"), .null), (("com/example/config_into_context/configintocontext/XmlElement$Attribute", "localName", "Ljava/lang/String;"), (.ref x0)), (("com/example/config_into_context/configintocontext/XmlElement$Attribute", "name", "Ljava/lang/String;"), (.ref x0)), (("com/example/config_into_context/configintocontext/XmlElement$Attribute", "value", "Ljava/lang/String;"), (.ref u0))]) : Goes p e below s Z EL1 NW h0 [] (fun v _ => v = some (.int 1)) room_1 T (mkF m 267 #[.val (.int p1), .val (.int p2), .val (.int p3), .val (.int p4), .val (.int p5), .val (.int (1 : Int32)), .val (.int dp), .val (.ref x0), .val (.ref x1), .val (.ref x2), .val (.ref u0), .val (.ref u1), .val (.ref u2), .val (.ref l1), .val (.int mo), .val (.int sa), .val (.ref q), .unset, .unset, .unset] []) := by
  refine g_new W at_267 (pc' := 270) rfl (hw _ (List.mem_of_getElem? (i := 53) rfl)) (hw _ (List.mem_of_getElem? (i := 54) rfl)) (hw _ (List.mem_of_getElem? (i := 55) rfl)) (by decide) (by decide) fun T1 h3 o1 g4 W2 E5 A6 D7 => ?_
  have O_o1 := new_Xe hw A6 D7
  refine g_dup W2 at_270 (pc' := 271) rfl rfl ?_
  refine g_aconst_null W2 at_271 (pc' := 272) rfl ?_
  refine g_ldc W2 at_272 (pc' := 274) (text := "e") (vs := [(.int (101 : Int32))]) (zz := (1 : Int32)) (n := 4) rfl (hw _ (List.mem_of_getElem? (i := 56) rfl)) (wS_of hw) (List.mem_of_getElem? (i := 4) rfl) ⟨by decide +kernel, by decide +kernel⟩ (by decide) (by decide) (by decide +kernel) (by decide) (by decide) (by decide) fun T8 h10 a18 b19 kb17 W9 E11 X12 C13 V14 A15 ne16 => ?_
  refine g_ldc W9 at_274 (pc' := 276) (text := "e") (vs := [(.int (101 : Int32))]) (zz := (1 : Int32)) (n := 4) rfl (hw _ (List.mem_of_getElem? (i := 56) rfl)) (wS_of hw) (List.mem_of_getElem? (i := 4) rfl) ⟨by decide +kernel, by decide +kernel⟩ (by decide) (by decide) (by decide +kernel) (by decide) (by decide) (by decide) fun T20 h22 a30 b31 kb29 W21 E23 X24 C25 V26 A27 ne28 => ?_
  refine g_aload W21 at_276 (pc' := 278) rfl rfl rfl ?_
  refine g_iload W21 at_278 (pc' := 280) rfl rfl ?_
  have K38 : Keep h3 h22 [] := (((Keep.refl h3 []).ext E11).ext E23)
  have F39 := O_o1.mv K38
  refine g_special W21 at_280 (pc' := 283) (a := o1) (fr' := [o1]) (argsL := [.null, (.ref a18), (.ref a30), (.ref l1), (.int p5)]) (rest := [(.ref o1)]) (Wd := 1) (kc := 2) (ks := 4) rfl rfl (hw _ (List.mem_of_getElem? (i := 57) rfl)) (hw _ (List.mem_of_getElem? (i := 58) rfl)) (hw _ (List.mem_of_getElem? (i := 59) rfl)) (by decide) rfl rfl (lenOf pd_13 rfl) rfl (allS (List.mem_of_getElem? (i := 0) rfl) (all0)) (by decide) (by decide) (Met.pays (rm_initX hw hEL Sc hzc o1 .null (.ref a18) (.ref a30) l1 p5 _ W21.ext Se rfl rfl rfl (W21.frs o1 (List.mem_of_getElem? (i := 0) rfl)).1 F39) (hw _ (List.mem_of_getElem? (i := 59) rfl)) (hw _ (List.mem_of_getElem? (i := 55) rfl)) hEL (by decide) (by decide)) fun v37 T32 h34 W33 K35 q36 => ?_
  obtain ⟨rfl, at1, Ox⟩ := q36
  show Goes _ _ _ _ _ _ _ _ _ _ _ T32 (mkF m 283 #[.val (.int p1), .val (.int p2), .val (.int p3), .val (.int p4), .val (.int p5), .val (.int (1 : Int32)), .val (.int dp), .val (.ref x0), .val (.ref x1), .val (.ref x2), .val (.ref u0), .val (.ref u1), .val (.ref u2), .val (.ref l1), .val (.int mo), .val (.int sa), .val (.ref q), .unset, .unset, .unset] [(.ref o1)])
  refine g_astore W33 at_283 (pc' := 285) (L' := #[.val (.int p1), .val (.int p2), .val (.int p3), .val (.int p4), .val (.int p5), .val (.int (1 : Int32)), .val (.int dp), .val (.ref x0), .val (.ref x1), .val (.ref x2), .val (.ref u0), .val (.ref u1), .val (.ref u2), .val (.ref l1), .val (.int mo), .val (.int sa), .val (.ref q), .val (.ref o1), .unset, .unset]) rfl rfl rfl ?_
  refine g_aload W33 at_285 (pc' := 287) rfl rfl rfl ?_
  refine g_aload W33 at_287 (pc' := 289) rfl rfl rfl ?_
  have K40 : Keep h h34 [] := (((((Keep.refl h []).ext E5).ext E11).ext E23).trans K35 fun x q => by cases List.mem_singleton.mp q; exact Or.inr (Nat.le_of_eq g4.symm))
  have F41 := Ol.mv K40
  have F42 := Ad1.mv K40
  have F43 := Oe0.mv K40
  have F44 := Sq.mv K40
  have F45 := S0.mv K40
  refine g_virtual W33 at_289 (pc' := 292) (a := o1) (fr' := []) (argsL := [(.ref q)]) (rest := []) (Wd := 0) (kc := 0) (ks := 0) rfl (hw _ (List.mem_of_getElem? (i := 82) rfl)) (hw _ (List.mem_of_getElem? (i := 83) rfl)) (hw _ (List.mem_of_getElem? (i := 85) rfl)) (hw _ (List.mem_of_getElem? (i := 84) rfl)) (by decide) Ox.1 rfl rfl (lenOf pd_14 rfl) rfl all0 (by decide) (by decide) (Met.pays (rm_given1 hw hEL Sc hzc o1 q csq l1 d k e0 x0 u0 (.ref x0) cs0 _ W33.ext (Ox.get 5 rfl) F41 F42 F43 F44 F45) (hw _ (List.mem_of_getElem? (i := 86) rfl)) (hw _ (List.mem_of_getElem? (i := 55) rfl)) hEL (by decide) (by decide)) fun v51 T46 h48 W47 K49 q50 => ?_
  obtain ⟨rfl, rfl⟩ := q50
  obtain ⟨G, hG⟩ : ∃ G, G = (if cs0 = csq then .ref u0 else .null : Value) := ⟨_, rfl⟩
  have rG : G.isRef = true := by rw [hG]; (repeat' split) <;> rfl
  rw [← hG]
  show Goes _ _ _ _ _ _ _ _ _ _ _ T46 (mkF m 292 #[.val (.int p1), .val (.int p2), .val (.int p3), .val (.int p4), .val (.int p5), .val (.int (1 : Int32)), .val (.int dp), .val (.ref x0), .val (.ref x1), .val (.ref x2), .val (.ref u0), .val (.ref u1), .val (.ref u2), .val (.ref l1), .val (.int mo), .val (.int sa), .val (.ref q), .val (.ref o1), .unset, .unset] [G])
  refine g_astore W47 at_292 (pc' := 294) (L' := #[.val (.int p1), .val (.int p2), .val (.int p3), .val (.int p4), .val (.int p5), .val (.int (1 : Int32)), .val (.int dp), .val (.ref x0), .val (.ref x1), .val (.ref x2), .val (.ref u0), .val (.ref u1), .val (.ref u2), .val (.ref l1), .val (.int mo), .val (.int sa), .val (.ref q), .val (.ref o1), .val G, .unset]) rfl rG (by rcases ref_cases rG with q | ⟨a, q⟩ <;> rw [q] <;> rfl) ?_
  refine g_aconst_null W47 at_294 (pc' := 295) rfl ?_
  refine g_astore W47 at_295 (pc' := 297) (L' := #[.val (.int p1), .val (.int p2), .val (.int p3), .val (.int p4), .val (.int p5), .val (.int (1 : Int32)), .val (.int dp), .val (.ref x0), .val (.ref x1), .val (.ref x2), .val (.ref u0), .val (.ref u1), .val (.ref u2), .val (.ref l1), .val (.int mo), .val (.int sa), .val (.ref q), .val (.ref o1), .val G, .val .null]) rfl rfl rfl ?_
  refine g_iload W47 at_297 (pc' := 299) rfl rfl ?_
  refine g_iconst W47 at_299 (pc' := 300) (v := (3 : Int32)) rfl rfl ?_
  refine g_icmpY W47 at_300 (pc' := 317) (by decide) (by decide) (Jvm.Free.XT.ii_lt_t (by decide)) ?_
  refine g_iload W47 at_317 (pc' := 319) rfl rfl ?_
  refine g_iconst W47 at_319 (pc' := 320) (v := (2 : Int32)) rfl rfl ?_
  refine g_icmpY W47 at_320 (pc' := 337) (by decide) (by decide) (Jvm.Free.XT.ii_lt_t (by decide)) ?_
  refine g_iload W47 at_337 (pc' := 339) rfl rfl ?_
  refine g_iconst W47 at_339 (pc' := 340) (v := (1 : Int32)) rfl rfl ?_
  refine g_icmpN W47 at_340 (pc' := 343) rfl (Jvm.Free.XT.ii_lt_f (by decide)) ?_
  refine g_aload W47 at_343 (pc' := 345) rfl rfl rfl ?_
  refine g_aload W47 at_345 (pc' := 347) rfl rfl rfl ?_
  refine g_virtual W47 at_347 (pc' := 350) (a := q) (fr' := []) (argsL := [(.ref x0)]) (rest := []) (Wd := 0) (kc := 0) (ks := 0) rfl (hw _ (List.mem_of_getElem? (i := 201) rfl)) (hw _ (List.mem_of_getElem? (i := 187) rfl)) (hw _ (List.mem_of_getElem? (i := 189) rfl)) (hw _ (List.mem_of_getElem? (i := 188) rfl)) (by decide) F44.exa rfl rfl (lenOf pd_11 rfl) rfl all0 (by decide) (by decide) (pays_eq hEL (fun d hd => hw d ((by decide +kernel : ∀ d ∈ StrChars.Road.wordsEq, d ∈ tables_1) d hd)) (hw _ (List.mem_of_getElem? (i := 5) rfl)) F44 F45 Sc hzc W47.ext (by decide) (by decide)) fun v57 T52 h54 W53 K55 q56 => ?_
  obtain ⟨rfl, ⟨rfl, c58⟩ | ⟨rfl, c58⟩⟩ := q56
  · refine g_ifN W53 at_350 (pc' := 353) rfl (Jvm.Free.XT.i0_eq_f (by decide)) ?_
    refine g_aload W53 at_353 (pc' := 355) rfl rfl rfl ?_
    refine g_astore W53 at_355 (pc' := 357) (L' := #[.val (.int p1), .val (.int p2), .val (.int p3), .val (.int p4), .val (.int p5), .val (.int (1 : Int32)), .val (.int dp), .val (.ref x0), .val (.ref x1), .val (.ref x2), .val (.ref u0), .val (.ref u1), .val (.ref u2), .val (.ref l1), .val (.int mo), .val (.int sa), .val (.ref q), .val (.ref o1), .val G, .val (.ref u0)]) rfl rfl rfl ?_
    refine g_aload W53 at_357 (pc' := 359) rfl rfl rG ?_
    refine g_aload W53 at_359 (pc' := 361) rfl rfl rfl ?_
    refine g_acmpN W53 at_361 (pc' := 364) rfl rG rfl (Jvm.Free.XT.aa_ne_f (by rw [hG]; simp [c58.symm])) ?_
    refine g_iconst W53 at_364 (pc' := 365) (v := (1 : Int32)) rfl rfl ?_
    refine g_goto W53 at_365 (pc' := 369) (by decide) (by decide) ?_
    exact g_ireturn W53 at_369 (by decide) rfl (K0.trans K40 fun _ q => nomatch q) rfl (by decide) (by decide)
  · refine g_ifY W53 at_350 (pc' := 357) (by decide) (by decide) (Jvm.Free.XT.i0_eq_t rfl) ?_
    refine g_aload W53 at_357 (pc' := 359) rfl rfl rG ?_
    refine g_aload W53 at_359 (pc' := 361) rfl rfl rfl ?_
    refine g_acmpN W53 at_361 (pc' := 364) rfl rG rfl (Jvm.Free.XT.aa_ne_f (by rw [hG]; simp [(show ¬ cs0 = csq from fun z => c58 z.symm)])) ?_
    refine g_iconst W53 at_364 (pc' := 365) (v := (1 : Int32)) rfl rfl ?_
    refine g_goto W53 at_365 (pc' := 369) (by decide) (by decide) ?_
    exact g_ireturn W53 at_369 (by decide) rfl (K0.trans K40 fun _ q => nomatch q) rfl (by decide) (by decide)
set_option maxRecDepth 65536 in
set_option maxHeartbeats 40000000 in
theorem tail2 {l : Launch} {Z : State} {a0 : Array Value} (hw : ∀ d ∈ tables_1, d.before a0 Z = true) (hEL : EW Z a0 EL1) {zc : Int32} (Sc : Sta Z Z.heap "java/lang/String" "COMPACT_STRINGS" "Z" (.int zc)) (hzc : ¬ zc = 0) {p : Program} {e : Env} {s : State} {m : MethodId} {below : List Frame} {meth : Method} {c : Code} {h0 : Heap} {T : State} {fr : List Addr} (p1 p2 p3 p4 p5 : Int32) (x0 x1 x2 u0 u1 u2 : Addr) (cs0 cs1 cs2 : List Int32) (dp : Int32) (l1 d : Addr) (k : ClassId) (e0 : Addr) (e1 : Addr) (q : Addr) (csq : List Int32) (mo sa : Int32) {el : Addr} (h : Heap) (W : Wk p l e room_1 s m #[(.int p1), (.int p2), (.int p3), (.int p4), (.int p5)] below meth c x code maxLocals ret Z a0 EL1 NW h0 T h fr 42 220) (K0 : Keep h0 h []) (Se : Sta Z Z.heap "java/util/ImmutableCollections" "EMPTY_LIST" "Ljava/util/ImmutableCollections$ListN;" (.ref el)) (S0 : Str Z h x0 cs0) (S1 : Str Z h x1 cs1) (S2 : Str Z h x2 cs2) (Sq : Str Z h q csq) (Ol : Obj Z h l1 "java/util/ArrayList" [(("java/util/AbstractList", "modCount", "I"), (.int (2 : Int32))), (("java/util/ArrayList", "elementData", "[Ljava/lang/Object;"), (.ref d)), (("java/util/ArrayList", "size", "I"), (.int (2 : Int32)))]) (Ad1 : Arv Z h d k (.object "java/lang/Object") (10 : Int32) [.ref e0, .ref e1, .null, .null, .null, .null, .null, .null, .null, .null] .null) (Oe0 : Obj Z h e0 "com/example/config_into_context/configintocontext/XmlElement$Attribute" [(("com/example/config_into_context/configintocontext/XmlElement$Attribute", "namespace", "Ljava/lang/String;"), .null), (("com/example/config_into_context/configintocontext/XmlElement$Attribute", "localName", "Ljava/lang/String;"), (.ref x0)), (("com/example/config_into_context/configintocontext/XmlElement$Attribute", "name", "Ljava/lang/String;"), (.ref x0)), (("com/example/config_into_context/configintocontext/XmlElement$Attribute", "value", "Ljava/lang/String;"), (.ref u0))]) (Oe1 : Obj Z h e1 "com/example/config_into_context/configintocontext/XmlElement$Attribute" [(("com/example/config_into_context/configintocontext/XmlElement$Attribute", "namespace", "Ljava/lang/String;"), .null), (("com/example/config_into_context/configintocontext/XmlElement$Attribute", "localName", "Ljava/lang/String;"), (.ref x1)), (("com/example/config_into_context/configintocontext/XmlElement$Attribute", "name", "Ljava/lang/String;"), (.ref x1)), (("com/example/config_into_context/configintocontext/XmlElement$Attribute", "value", "Ljava/lang/String;"), (.ref u1))]) : Goes p e below s Z EL1 NW h0 [] (fun v _ => v = some (.int 1)) room_1 T (mkF m 267 #[.val (.int p1), .val (.int p2), .val (.int p3), .val (.int p4), .val (.int p5), .val (.int (2 : Int32)), .val (.int dp), .val (.ref x0), .val (.ref x1), .val (.ref x2), .val (.ref u0), .val (.ref u1), .val (.ref u2), .val (.ref l1), .val (.int mo), .val (.int sa), .val (.ref q), .unset, .unset, .unset] []) := by
  refine g_new W at_267 (pc' := 270) rfl (hw _ (List.mem_of_getElem? (i := 53) rfl)) (hw _ (List.mem_of_getElem? (i := 54) rfl)) (hw _ (List.mem_of_getElem? (i := 55) rfl)) (by decide) (by decide) fun T1 h3 o1 g4 W2 E5 A6 D7 => ?_
  have O_o1 := new_Xe hw A6 D7
  refine g_dup W2 at_270 (pc' := 271) rfl rfl ?_
  refine g_aconst_null W2 at_271 (pc' := 272) rfl ?_
  refine g_ldc W2 at_272 (pc' := 274) (text := "e") (vs := [(.int (101 : Int32))]) (zz := (1 : Int32)) (n := 4) rfl (hw _ (List.mem_of_getElem? (i := 56) rfl)) (wS_of hw) (List.mem_of_getElem? (i := 4) rfl) ⟨by decide +kernel, by decide +kernel⟩ (by decide) (by decide) (by decide +kernel) (by decide) (by decide) (by decide) fun T8 h10 a18 b19 kb17 W9 E11 X12 C13 V14 A15 ne16 => ?_
  refine g_ldc W9 at_274 (pc' := 276) (text := "e") (vs := [(.int (101 : Int32))]) (zz := (1 : Int32)) (n := 4) rfl (hw _ (List.mem_of_getElem? (i := 56) rfl)) (wS_of hw) (List.mem_of_getElem? (i := 4) rfl) ⟨by decide +kernel, by decide +kernel⟩ (by decide) (by decide) (by decide +kernel) (by decide) (by decide) (by decide) fun T20 h22 a30 b31 kb29 W21 E23 X24 C25 V26 A27 ne28 => ?_
  refine g_aload W21 at_276 (pc' := 278) rfl rfl rfl ?_
  refine g_iload W21 at_278 (pc' := 280) rfl rfl ?_
  have K38 : Keep h3 h22 [] := (((Keep.refl h3 []).ext E11).ext E23)
  have F39 := O_o1.mv K38
  refine g_special W21 at_280 (pc' := 283) (a := o1) (fr' := [o1]) (argsL := [.null, (.ref a18), (.ref a30), (.ref l1), (.int p5)]) (rest := [(.ref o1)]) (Wd := 1) (kc := 2) (ks := 4) rfl rfl (hw _ (List.mem_of_getElem? (i := 57) rfl)) (hw _ (List.mem_of_getElem? (i := 58) rfl)) (hw _ (List.mem_of_getElem? (i := 59) rfl)) (by decide) rfl rfl (lenOf pd_13 rfl) rfl (allS (List.mem_of_getElem? (i := 0) rfl) (all0)) (by decide) (by decide) (Met.pays (rm_initX hw hEL Sc hzc o1 .null (.ref a18) (.ref a30) l1 p5 _ W21.ext Se rfl rfl rfl (W21.frs o1 (List.mem_of_getElem? (i := 0) rfl)).1 F39) (hw _ (List.mem_of_getElem? (i := 59) rfl)) (hw _ (List.mem_of_getElem? (i := 55) rfl)) hEL (by decide) (by decide)) fun v37 T32 h34 W33 K35 q36 => ?_
  obtain ⟨rfl, at1, Ox⟩ := q36
  show Goes _ _ _ _ _ _ _ _ _ _ _ T32 (mkF m 283 #[.val (.int p1), .val (.int p2), .val (.int p3), .val (.int p4), .val (.int p5), .val (.int (2 : Int32)), .val (.int dp), .val (.ref x0), .val (.ref x1), .val (.ref x2), .val (.ref u0), .val (.ref u1), .val (.ref u2), .val (.ref l1), .val (.int mo), .val (.int sa), .val (.ref q), .unset, .unset, .unset] [(.ref o1)])
  refine g_astore W33 at_283 (pc' := 285) (L' := #[.val (.int p1), .val (.int p2), .val (.int p3), .val (.int p4), .val (.int p5), .val (.int (2 : Int32)), .val (.int dp), .val (.ref x0), .val (.ref x1), .val (.ref x2), .val (.ref u0), .val (.ref u1), .val (.ref u2), .val (.ref l1), .val (.int mo), .val (.int sa), .val (.ref q), .val (.ref o1), .unset, .unset]) rfl rfl rfl ?_
  refine g_aload W33 at_285 (pc' := 287) rfl rfl rfl ?_
  refine g_aload W33 at_287 (pc' := 289) rfl rfl rfl ?_
  have K40 : Keep h h34 [] := (((((Keep.refl h []).ext E5).ext E11).ext E23).trans K35 fun x q => by cases List.mem_singleton.mp q; exact Or.inr (Nat.le_of_eq g4.symm))
  have F41 := Ol.mv K40
  have F42 := Ad1.mv K40
  have F43 := Oe0.mv K40
  have F44 := Oe1.mv K40
  have F45 := Sq.mv K40
  have F46 := S0.mv K40
  have F47 := S1.mv K40
  refine g_virtual W33 at_289 (pc' := 292) (a := o1) (fr' := []) (argsL := [(.ref q)]) (rest := []) (Wd := 0) (kc := 0) (ks := 0) rfl (hw _ (List.mem_of_getElem? (i := 82) rfl)) (hw _ (List.mem_of_getElem? (i := 83) rfl)) (hw _ (List.mem_of_getElem? (i := 85) rfl)) (hw _ (List.mem_of_getElem? (i := 84) rfl)) (by decide) Ox.1 rfl rfl (lenOf pd_14 rfl) rfl all0 (by decide) (by decide) (Met.pays (rm_given2 hw hEL Sc hzc o1 q csq l1 d k e0 x0 u0 (.ref x0) e1 x1 u1 (.ref x1) cs0 cs1 _ W33.ext (Ox.get 5 rfl) F41 F42 F43 F44 F45 F46 F47) (hw _ (List.mem_of_getElem? (i := 86) rfl)) (hw _ (List.mem_of_getElem? (i := 55) rfl)) hEL (by decide) (by decide)) fun v53 T48 h50 W49 K51 q52 => ?_
  obtain ⟨rfl, rfl⟩ := q52
  obtain ⟨G, hG⟩ : ∃ G, G = (if cs0 = csq then .ref u0 else if cs1 = csq then .ref u1 else .null : Value) := ⟨_, rfl⟩
  have rG : G.isRef = true := by rw [hG]; (repeat' split) <;> rfl
  rw [← hG]
  show Goes _ _ _ _ _ _ _ _ _ _ _ T48 (mkF m 292 #[.val (.int p1), .val (.int p2), .val (.int p3), .val (.int p4), .val (.int p5), .val (.int (2 : Int32)), .val (.int dp), .val (.ref x0), .val (.ref x1), .val (.ref x2), .val (.ref u0), .val (.ref u1), .val (.ref u2), .val (.ref l1), .val (.int mo), .val (.int sa), .val (.ref q), .val (.ref o1), .unset, .unset] [G])
  refine g_astore W49 at_292 (pc' := 294) (L' := #[.val (.int p1), .val (.int p2), .val (.int p3), .val (.int p4), .val (.int p5), .val (.int (2 : Int32)), .val (.int dp), .val (.ref x0), .val (.ref x1), .val (.ref x2), .val (.ref u0), .val (.ref u1), .val (.ref u2), .val (.ref l1), .val (.int mo), .val (.int sa), .val (.ref q), .val (.ref o1), .val G, .unset]) rfl rG (by rcases ref_cases rG with q | ⟨a, q⟩ <;> rw [q] <;> rfl) ?_
  refine g_aconst_null W49 at_294 (pc' := 295) rfl ?_
  refine g_astore W49 at_295 (pc' := 297) (L' := #[.val (.int p1), .val (.int p2), .val (.int p3), .val (.int p4), .val (.int p5), .val (.int (2 : Int32)), .val (.int dp), .val (.ref x0), .val (.ref x1), .val (.ref x2), .val (.ref u0), .val (.ref u1), .val (.ref u2), .val (.ref l1), .val (.int mo), .val (.int sa), .val (.ref q), .val (.ref o1), .val G, .val .null]) rfl rfl rfl ?_
  refine g_iload W49 at_297 (pc' := 299) rfl rfl ?_
  refine g_iconst W49 at_299 (pc' := 300) (v := (3 : Int32)) rfl rfl ?_
  refine g_icmpY W49 at_300 (pc' := 317) (by decide) (by decide) (Jvm.Free.XT.ii_lt_t (by decide)) ?_
  refine g_iload W49 at_317 (pc' := 319) rfl rfl ?_
  refine g_iconst W49 at_319 (pc' := 320) (v := (2 : Int32)) rfl rfl ?_
  refine g_icmpN W49 at_320 (pc' := 323) rfl (Jvm.Free.XT.ii_lt_f (by decide)) ?_
  refine g_aload W49 at_323 (pc' := 325) rfl rfl rfl ?_
  refine g_aload W49 at_325 (pc' := 327) rfl rfl rfl ?_
  refine g_virtual W49 at_327 (pc' := 330) (a := q) (fr' := []) (argsL := [(.ref x1)]) (rest := []) (Wd := 0) (kc := 0) (ks := 0) rfl (hw _ (List.mem_of_getElem? (i := 201) rfl)) (hw _ (List.mem_of_getElem? (i := 187) rfl)) (hw _ (List.mem_of_getElem? (i := 189) rfl)) (hw _ (List.mem_of_getElem? (i := 188) rfl)) (by decide) F45.exa rfl rfl (lenOf pd_11 rfl) rfl all0 (by decide) (by decide) (pays_eq hEL (fun d hd => hw d ((by decide +kernel : ∀ d ∈ StrChars.Road.wordsEq, d ∈ tables_1) d hd)) (hw _ (List.mem_of_getElem? (i := 5) rfl)) F45 F47 Sc hzc W49.ext (by decide) (by decide)) fun v59 T54 h56 W55 K57 q58 => ?_
  obtain ⟨rfl, ⟨rfl, c60⟩ | ⟨rfl, c60⟩⟩ := q58
  · refine g_ifN W55 at_330 (pc' := 333) rfl (Jvm.Free.XT.i0_eq_f (by decide)) ?_
    refine g_aload W55 at_333 (pc' := 335) rfl rfl rfl ?_
    refine g_astore W55 at_335 (pc' := 337) (L' := #[.val (.int p1), .val (.int p2), .val (.int p3), .val (.int p4), .val (.int p5), .val (.int (2 : Int32)), .val (.int dp), .val (.ref x0), .val (.ref x1), .val (.ref x2), .val (.ref u0), .val (.ref u1), .val (.ref u2), .val (.ref l1), .val (.int mo), .val (.int sa), .val (.ref q), .val (.ref o1), .val G, .val (.ref u1)]) rfl rfl rfl ?_
    refine g_iload W55 at_337 (pc' := 339) rfl rfl ?_
    refine g_iconst W55 at_339 (pc' := 340) (v := (1 : Int32)) rfl rfl ?_
    refine g_icmpN W55 at_340 (pc' := 343) rfl (Jvm.Free.XT.ii_lt_f (by decide)) ?_
    refine g_aload W55 at_343 (pc' := 345) rfl rfl rfl ?_
    refine g_aload W55 at_345 (pc' := 347) rfl rfl rfl ?_
    refine g_virtual W55 at_347 (pc' := 350) (a := q) (fr' := []) (argsL := [(.ref x0)]) (rest := []) (Wd := 0) (kc := 0) (ks := 0) rfl (hw _ (List.mem_of_getElem? (i := 201) rfl)) (hw _ (List.mem_of_getElem? (i := 187) rfl)) (hw _ (List.mem_of_getElem? (i := 189) rfl)) (hw _ (List.mem_of_getElem? (i := 188) rfl)) (by decide) F45.exa rfl rfl (lenOf pd_11 rfl) rfl all0 (by decide) (by decide) (pays_eq hEL (fun d hd => hw d ((by decide +kernel : ∀ d ∈ StrChars.Road.wordsEq, d ∈ tables_1) d hd)) (hw _ (List.mem_of_getElem? (i := 5) rfl)) F45 F46 Sc hzc W55.ext (by decide) (by decide)) fun v66 T61 h63 W62 K64 q65 => ?_
    obtain ⟨rfl, ⟨rfl, c67⟩ | ⟨rfl, c67⟩⟩ := q65
    · refine g_ifN W62 at_350 (pc' := 353) rfl (Jvm.Free.XT.i0_eq_f (by decide)) ?_
      refine g_aload W62 at_353 (pc' := 355) rfl rfl rfl ?_
      refine g_astore W62 at_355 (pc' := 357) (L' := #[.val (.int p1), .val (.int p2), .val (.int p3), .val (.int p4), .val (.int p5), .val (.int (2 : Int32)), .val (.int dp), .val (.ref x0), .val (.ref x1), .val (.ref x2), .val (.ref u0), .val (.ref u1), .val (.ref u2), .val (.ref l1), .val (.int mo), .val (.int sa), .val (.ref q), .val (.ref o1), .val G, .val (.ref u0)]) rfl rfl rfl ?_
      refine g_aload W62 at_357 (pc' := 359) rfl rfl rG ?_
      refine g_aload W62 at_359 (pc' := 361) rfl rfl rfl ?_
      refine g_acmpN W62 at_361 (pc' := 364) rfl rG rfl (Jvm.Free.XT.aa_ne_f (by rw [hG]; simp [c60.symm, c67.symm])) ?_
      refine g_iconst W62 at_364 (pc' := 365) (v := (1 : Int32)) rfl rfl ?_
      refine g_goto W62 at_365 (pc' := 369) (by decide) (by decide) ?_
      exact g_ireturn W62 at_369 (by decide) rfl (K0.trans K40 fun _ q => nomatch q) rfl (by decide) (by decide)
    · refine g_ifY W62 at_350 (pc' := 357) (by decide) (by decide) (Jvm.Free.XT.i0_eq_t rfl) ?_
      refine g_aload W62 at_357 (pc' := 359) rfl rfl rG ?_
      refine g_aload W62 at_359 (pc' := 361) rfl rfl rfl ?_
      refine g_acmpN W62 at_361 (pc' := 364) rfl rG rfl (Jvm.Free.XT.aa_ne_f (by rw [hG]; simp [c60.symm, (show ¬ cs0 = csq from fun z => c67 z.symm)])) ?_
      refine g_iconst W62 at_364 (pc' := 365) (v := (1 : Int32)) rfl rfl ?_
      refine g_goto W62 at_365 (pc' := 369) (by decide) (by decide) ?_
      exact g_ireturn W62 at_369 (by decide) rfl (K0.trans K40 fun _ q => nomatch q) rfl (by decide) (by decide)
  · refine g_ifY W55 at_330 (pc' := 337) (by decide) (by decide) (Jvm.Free.XT.i0_eq_t rfl) ?_
    refine g_iload W55 at_337 (pc' := 339) rfl rfl ?_
    refine g_iconst W55 at_339 (pc' := 340) (v := (1 : Int32)) rfl rfl ?_
    refine g_icmpN W55 at_340 (pc' := 343) rfl (Jvm.Free.XT.ii_lt_f (by decide)) ?_
    refine g_aload W55 at_343 (pc' := 345) rfl rfl rfl ?_
    refine g_aload W55 at_345 (pc' := 347) rfl rfl rfl ?_
    refine g_virtual W55 at_347 (pc' := 350) (a := q) (fr' := []) (argsL := [(.ref x0)]) (rest := []) (Wd := 0) (kc := 0) (ks := 0) rfl (hw _ (List.mem_of_getElem? (i := 201) rfl)) (hw _ (List.mem_of_getElem? (i := 187) rfl)) (hw _ (List.mem_of_getElem? (i := 189) rfl)) (hw _ (List.mem_of_getElem? (i := 188) rfl)) (by decide) F45.exa rfl rfl (lenOf pd_11 rfl) rfl all0 (by decide) (by decide) (pays_eq hEL (fun d hd => hw d ((by decide +kernel : ∀ d ∈ StrChars.Road.wordsEq, d ∈ tables_1) d hd)) (hw _ (List.mem_of_getElem? (i := 5) rfl)) F45 F46 Sc hzc W55.ext (by decide) (by decide)) fun v73 T68 h70 W69 K71 q72 => ?_
    obtain ⟨rfl, ⟨rfl, c74⟩ | ⟨rfl, c74⟩⟩ := q72
    · refine g_ifN W69 at_350 (pc' := 353) rfl (Jvm.Free.XT.i0_eq_f (by decide)) ?_
      refine g_aload W69 at_353 (pc' := 355) rfl rfl rfl ?_
      refine g_astore W69 at_355 (pc' := 357) (L' := #[.val (.int p1), .val (.int p2), .val (.int p3), .val (.int p4), .val (.int p5), .val (.int (2 : Int32)), .val (.int dp), .val (.ref x0), .val (.ref x1), .val (.ref x2), .val (.ref u0), .val (.ref u1), .val (.ref u2), .val (.ref l1), .val (.int mo), .val (.int sa), .val (.ref q), .val (.ref o1), .val G, .val (.ref u0)]) rfl rfl rfl ?_
      refine g_aload W69 at_357 (pc' := 359) rfl rfl rG ?_
      refine g_aload W69 at_359 (pc' := 361) rfl rfl rfl ?_
      refine g_acmpN W69 at_361 (pc' := 364) rfl rG rfl (Jvm.Free.XT.aa_ne_f (by rw [hG]; simp [(show ¬ cs1 = csq from fun z => c60 z.symm), c74.symm])) ?_
      refine g_iconst W69 at_364 (pc' := 365) (v := (1 : Int32)) rfl rfl ?_
      refine g_goto W69 at_365 (pc' := 369) (by decide) (by decide) ?_
      exact g_ireturn W69 at_369 (by decide) rfl (K0.trans K40 fun _ q => nomatch q) rfl (by decide) (by decide)
    · refine g_ifY W69 at_350 (pc' := 357) (by decide) (by decide) (Jvm.Free.XT.i0_eq_t rfl) ?_
      refine g_aload W69 at_357 (pc' := 359) rfl rfl rG ?_
      refine g_aload W69 at_359 (pc' := 361) rfl rfl rfl ?_
      refine g_acmpN W69 at_361 (pc' := 364) rfl rG rfl (Jvm.Free.XT.aa_ne_f (by rw [hG]; simp [(show ¬ cs1 = csq from fun z => c60 z.symm), (show ¬ cs0 = csq from fun z => c74 z.symm)])) ?_
      refine g_iconst W69 at_364 (pc' := 365) (v := (1 : Int32)) rfl rfl ?_
      refine g_goto W69 at_365 (pc' := 369) (by decide) (by decide) ?_
      exact g_ireturn W69 at_369 (by decide) rfl (K0.trans K40 fun _ q => nomatch q) rfl (by decide) (by decide)
set_option maxRecDepth 65536 in
set_option maxHeartbeats 40000000 in
theorem tail3 {l : Launch} {Z : State} {a0 : Array Value} (hw : ∀ d ∈ tables_1, d.before a0 Z = true) (hEL : EW Z a0 EL1) {zc : Int32} (Sc : Sta Z Z.heap "java/lang/String" "COMPACT_STRINGS" "Z" (.int zc)) (hzc : ¬ zc = 0) {p : Program} {e : Env} {s : State} {m : MethodId} {below : List Frame} {meth : Method} {c : Code} {h0 : Heap} {T : State} {fr : List Addr} (p1 p2 p3 p4 p5 : Int32) (x0 x1 x2 u0 u1 u2 : Addr) (cs0 cs1 cs2 : List Int32) (dp : Int32) (l1 d : Addr) (k : ClassId) (e0 : Addr) (e1 : Addr) (e2 : Addr) (q : Addr) (csq : List Int32) (mo sa : Int32) {el : Addr} (h : Heap) (W : Wk p l e room_1 s m #[(.int p1), (.int p2), (.int p3), (.int p4), (.int p5)] below meth c x code maxLocals ret Z a0 EL1 NW h0 T h fr 42 220) (K0 : Keep h0 h []) (Se : Sta Z Z.heap "java/util/ImmutableCollections" "EMPTY_LIST" "Ljava/util/ImmutableCollections$ListN;" (.ref el)) (S0 : Str Z h x0 cs0) (S1 : Str Z h x1 cs1) (S2 : Str Z h x2 cs2) (Sq : Str Z h q csq) (Ol : Obj Z h l1 "java/util/ArrayList" [(("java/util/AbstractList", "modCount", "I"), (.int (3 : Int32))), (("java/util/ArrayList", "elementData", "[Ljava/lang/Object;"), (.ref d)), (("java/util/ArrayList", "size", "I"), (.int (3 : Int32)))]) (Ad1 : Arv Z h d k (.object "java/lang/Object") (10 : Int32) [.ref e0, .ref e1, .ref e2, .null, .null, .null, .null, .null, .null, .null] .null) (Oe0 : Obj Z h e0 "com/example/config_into_context/configintocontext/XmlElement$Attribute" [(("com/example/config_into_context/configintocontext/XmlElement$Attribute", "namespace", "Ljava/lang/String;"), .null), (("com/example/config_into_context/configintocontext/XmlElement$Attribute", "localName", "Ljava/lang/String;"), (.ref x0)), (("com/example/config_into_context/configintocontext/XmlElement$Attribute", "name", "Ljava/lang/String;"), (.ref x0)), (("com/example/config_into_context/configintocontext/XmlElement$Attribute", "value", "Ljava/lang/String;"), (.ref u0))]) (Oe1 : Obj Z h e1 "com/example/config_into_context/configintocontext/XmlElement$Attribute" [(("com/example/config_into_context/configintocontext/XmlElement$Attribute", "namespace", "Ljava/lang/String;"), .null), (("com/example/config_into_context/configintocontext/XmlElement$Attribute", "localName", "Ljava/lang/String;"), (.ref x1)), (("com/example/config_into_context/configintocontext/XmlElement$Attribute", "name", "Ljava/lang/String;"), (.ref x1)), (("com/example/config_into_context/configintocontext/XmlElement$Attribute", "value", "Ljava/lang/String;"), (.ref u1))]) (Oe2 : Obj Z h e2 "com/example/config_into_context/configintocontext/XmlElement$Attribute" [(("com/example/config_into_context/configintocontext/XmlElement$Attribute", "namespace", "Ljava/lang/String;"), .null), (("com/example/config_into_context/configintocontext/XmlElement$Attribute", "localName", "Ljava/lang/String;"), (.ref x2)), (("com/example/config_into_context/configintocontext/XmlElement$Attribute", "name", "Ljava/lang/String;"), (.ref x2)), (("com/example/config_into_context/configintocontext/XmlElement$Attribute", "value", "Ljava/lang/String;"), (.ref u2))]) : Goes p e below s Z EL1 NW h0 [] (fun v _ => v = some (.int 1)) room_1 T (mkF m 267 #[.val (.int p1), .val (.int p2), .val (.int p3), .val (.int p4), .val (.int p5), .val (.int (3 : Int32)), .val (.int dp), .val (.ref x0), .val (.ref x1), .val (.ref x2), .val (.ref u0), .val (.ref u1), .val (.ref u2), .val (.ref l1), .val (.int mo), .val (.int sa), .val (.ref q), .unset, .unset, .unset] []) := by
  refine g_new W at_267 (pc' := 270) rfl (hw _ (List.mem_of_getElem? (i := 53) rfl)) (hw _ (List.mem_of_getElem? (i := 54) rfl)) (hw _ (List.mem_of_getElem? (i := 55) rfl)) (by decide) (by decide) fun T1 h3 o1 g4 W2 E5 A6 D7 => ?_
  have O_o1 := new_Xe hw A6 D7
  refine g_dup W2 at_270 (pc' := 271) rfl rfl ?_
  refine g_aconst_null W2 at_271 (pc' := 272) rfl ?_
  refine g_ldc W2 at_272 (pc' := 274) (text := "e") (vs := [(.int (101 : Int32))]) (zz := (1 : Int32)) (n := 4) rfl (hw _ (List.mem_of_getElem? (i := 56) rfl)) (wS_of hw) (List.mem_of_getElem? (i := 4) rfl) ⟨by decide +kernel, by decide +kernel⟩ (by decide) (by decide) (by decide +kernel) (by decide) (by decide) (by decide) fun T8 h10 a18 b19 kb17 W9 E11 X12 C13 V14 A15 ne16 => ?_
  refine g_ldc W9 at_274 (pc' := 276) (text := "e") (vs := [(.int (101 : Int32))]) (zz := (1 : Int32)) (n := 4) rfl (hw _ (List.mem_of_getElem? (i := 56) rfl)) (wS_of hw) (List.mem_of_getElem? (i := 4) rfl) ⟨by decide +kernel, by decide +kernel⟩ (by decide) (by decide) (by decide +kernel) (by decide) (by decide) (by decide) fun T20 h22 a30 b31 kb29 W21 E23 X24 C25 V26 A27 ne28 => ?_
  refine g_aload W21 at_276 (pc' := 278) rfl rfl rfl ?_
  refine g_iload W21 at_278 (pc' := 280) rfl rfl ?_
  have K38 : Keep h3 h22 [] := (((Keep.refl h3 []).ext E11).ext E23)
  have F39 := O_o1.mv K38
  refine g_special W21 at_280 (pc' := 283) (a := o1) (fr' := [o1]) (argsL := [.null, (.ref a18), (.ref a30), (.ref l1), (.int p5)]) (rest := [(.ref o1)]) (Wd := 1) (kc := 2) (ks := 4) rfl rfl (hw _ (List.mem_of_getElem? (i := 57) rfl)) (hw _ (List.mem_of_getElem? (i := 58) rfl)) (hw _ (List.mem_of_getElem? (i := 59) rfl)) (by decide) rfl rfl (lenOf pd_13 rfl) rfl (allS (List.mem_of_getElem? (i := 0) rfl) (all0)) (by decide) (by decide) (Met.pays (rm_initX hw hEL Sc hzc o1 .null (.ref a18) (.ref a30) l1 p5 _ W21.ext Se rfl rfl rfl (W21.frs o1 (List.mem_of_getElem? (i := 0) rfl)).1 F39) (hw _ (List.mem_of_getElem? (i := 59) rfl)) (hw _ (List.mem_of_getElem? (i := 55) rfl)) hEL (by decide) (by decide)) fun v37 T32 h34 W33 K35 q36 => ?_
  obtain ⟨rfl, at1, Ox⟩ := q36
  show Goes _ _ _ _ _ _ _ _ _ _ _ T32 (mkF m 283 #[.val (.int p1), .val (.int p2), .val (.int p3), .val (.int p4), .val (.int p5), .val (.int (3 : Int32)), .val (.int dp), .val (.ref x0), .val (.ref x1), .val (.ref x2), .val (.ref u0), .val (.ref u1), .val (.ref u2), .val (.ref l1), .val (.int mo), .val (.int sa), .val (.ref q), .unset, .unset, .unset] [(.ref o1)])
  refine g_astore W33 at_283 (pc' := 285) (L' := #[.val (.int p1), .val (.int p2), .val (.int p3), .val (.int p4), .val (.int p5), .val (.int (3 : Int32)), .val (.int dp), .val (.ref x0), .val (.ref x1), .val (.ref x2), .val (.ref u0), .val (.ref u1), .val (.ref u2), .val (.ref l1), .val (.int mo), .val (.int sa), .val (.ref q), .val (.ref o1), .unset, .unset]) rfl rfl rfl ?_
  refine g_aload W33 at_285 (pc' := 287) rfl rfl rfl ?_
  refine g_aload W33 at_287 (pc' := 289) rfl rfl rfl ?_
  have K40 : Keep h h34 [] := (((((Keep.refl h []).ext E5).ext E11).ext E23).trans K35 fun x q => by cases List.mem_singleton.mp q; exact Or.inr (Nat.le_of_eq g4.symm))
  have F41 := Ol.mv K40
  have F42 := Ad1.mv K40
  have F43 := Oe0.mv K40
  have F44 := Oe1.mv K40
  have F45 := Oe2.mv K40
  have F46 := Sq.mv K40
  have F47 := S0.mv K40
  have F48 := S1.mv K40
  have F49 := S2.mv K40
  refine g_virtual W33 at_289 (pc' := 292) (a := o1) (fr' := []) (argsL := [(.ref q)]) (rest := []) (Wd := 0) (kc := 0) (ks := 0) rfl (hw _ (List.mem_of_getElem? (i := 82) rfl)) (hw _ (List.mem_of_getElem? (i := 83) rfl)) (hw _ (List.mem_of_getElem? (i := 85) rfl)) (hw _ (List.mem_of_getElem? (i := 84) rfl)) (by decide) Ox.1 rfl rfl (lenOf pd_14 rfl) rfl all0 (by decide) (by decide) (Met.pays (rm_given3 hw hEL Sc hzc o1 q csq l1 d k e0 x0 u0 (.ref x0) e1 x1 u1 (.ref x1) e2 x2 u2 (.ref x2) cs0 cs1 cs2 _ W33.ext (Ox.get 5 rfl) F41 F42 F43 F44 F45 F46 F47 F48 F49) (hw _ (List.mem_of_getElem? (i := 86) rfl)) (hw _ (List.mem_of_getElem? (i := 55) rfl)) hEL (by decide) (by decide)) fun v55 T50 h52 W51 K53 q54 => ?_
  obtain ⟨rfl, rfl⟩ := q54
  obtain ⟨G, hG⟩ : ∃ G, G = (if cs0 = csq then .ref u0 else if cs1 = csq then .ref u1 else if cs2 = csq then .ref u2 else .null : Value) := ⟨_, rfl⟩
  have rG : G.isRef = true := by rw [hG]; (repeat' split) <;> rfl
  rw [← hG]
  show Goes _ _ _ _ _ _ _ _ _ _ _ T50 (mkF m 292 #[.val (.int p1), .val (.int p2), .val (.int p3), .val (.int p4), .val (.int p5), .val (.int (3 : Int32)), .val (.int dp), .val (.ref x0), .val (.ref x1), .val (.ref x2), .val (.ref u0), .val (.ref u1), .val (.ref u2), .val (.ref l1), .val (.int mo), .val (.int sa), .val (.ref q), .val (.ref o1), .unset, .unset] [G])
  refine g_astore W51 at_292 (pc' := 294) (L' := #[.val (.int p1), .val (.int p2), .val (.int p3), .val (.int p4), .val (.int p5), .val (.int (3 : Int32)), .val (.int dp), .val (.ref x0), .val (.ref x1), .val (.ref x2), .val (.ref u0), .val (.ref u1), .val (.ref u2), .val (.ref l1), .val (.int mo), .val (.int sa), .val (.ref q), .val (.ref o1), .val G, .unset]) rfl rG (by rcases ref_cases rG with q | ⟨a, q⟩ <;> rw [q] <;> rfl) ?_
  refine g_aconst_null W51 at_294 (pc' := 295) rfl ?_
  refine g_astore W51 at_295 (pc' := 297) (L' := #[.val (.int p1), .val (.int p2), .val (.int p3), .val (.int p4), .val (.int p5), .val (.int (3 : Int32)), .val (.int dp), .val (.ref x0), .val (.ref x1), .val (.ref x2), .val (.ref u0), .val (.ref u1), .val (.ref u2), .val (.ref l1), .val (.int mo), .val (.int sa), .val (.ref q), .val (.ref o1), .val G, .val .null]) rfl rfl rfl ?_
  refine g_iload W51 at_297 (pc' := 299) rfl rfl ?_
  refine g_iconst W51 at_299 (pc' := 300) (v := (3 : Int32)) rfl rfl ?_
  refine g_icmpN W51 at_300 (pc' := 303) rfl (Jvm.Free.XT.ii_lt_f (by decide)) ?_
  refine g_aload W51 at_303 (pc' := 305) rfl rfl rfl ?_
  refine g_aload W51 at_305 (pc' := 307) rfl rfl rfl ?_
  refine g_virtual W51 at_307 (pc' := 310) (a := q) (fr' := []) (argsL := [(.ref x2)]) (rest := []) (Wd := 0) (kc := 0) (ks := 0) rfl (hw _ (List.mem_of_getElem? (i := 201) rfl)) (hw _ (List.mem_of_getElem? (i := 187) rfl)) (hw _ (List.mem_of_getElem? (i := 189) rfl)) (hw _ (List.mem_of_getElem? (i := 188) rfl)) (by decide) F46.exa rfl rfl (lenOf pd_11 rfl) rfl all0 (by decide) (by decide) (pays_eq hEL (fun d hd => hw d ((by decide +kernel : ∀ d ∈ StrChars.Road.wordsEq, d ∈ tables_1) d hd)) (hw _ (List.mem_of_getElem? (i := 5) rfl)) F46 F49 Sc hzc W51.ext (by decide) (by decide)) fun v61 T56 h58 W57 K59 q60 => ?_
  obtain ⟨rfl, ⟨rfl, c62⟩ | ⟨rfl, c62⟩⟩ := q60
  · refine g_ifN W57 at_310 (pc' := 313) rfl (Jvm.Free.XT.i0_eq_f (by decide)) ?_
    refine g_aload W57 at_313 (pc' := 315) rfl rfl rfl ?_
    refine g_astore W57 at_315 (pc' := 317) (L' := #[.val (.int p1), .val (.int p2), .val (.int p3), .val (.int p4), .val (.int p5), .val (.int (3 : Int32)), .val (.int dp), .val (.ref x0), .val (.ref x1), .val (.ref x2), .val (.ref u0), .val (.ref u1), .val (.ref u2), .val (.ref l1), .val (.int mo), .val (.int sa), .val (.ref q), .val (.ref o1), .val G, .val (.ref u2)]) rfl rfl rfl ?_
    refine g_iload W57 at_317 (pc' := 319) rfl rfl ?_
    refine g_iconst W57 at_319 (pc' := 320) (v := (2 : Int32)) rfl rfl ?_
    refine g_icmpN W57 at_320 (pc' := 323) rfl (Jvm.Free.XT.ii_lt_f (by decide)) ?_
    refine g_aload W57 at_323 (pc' := 325) rfl rfl rfl ?_
    refine g_aload W57 at_325 (pc' := 327) rfl rfl rfl ?_
    refine g_virtual W57 at_327 (pc' := 330) (a := q) (fr' := []) (argsL := [(.ref x1)]) (rest := []) (Wd := 0) (kc := 0) (ks := 0) rfl (hw _ (List.mem_of_getElem? (i := 201) rfl)) (hw _ (List.mem_of_getElem? (i := 187) rfl)) (hw _ (List.mem_of_getElem? (i := 189) rfl)) (hw _ (List.mem_of_getElem? (i := 188) rfl)) (by decide) F46.exa rfl rfl (lenOf pd_11 rfl) rfl all0 (by decide) (by decide) (pays_eq hEL (fun d hd => hw d ((by decide +kernel : ∀ d ∈ StrChars.Road.wordsEq, d ∈ tables_1) d hd)) (hw _ (List.mem_of_getElem? (i := 5) rfl)) F46 F48 Sc hzc W57.ext (by decide) (by decide)) fun v68 T63 h65 W64 K66 q67 => ?_
    obtain ⟨rfl, ⟨rfl, c69⟩ | ⟨rfl, c69⟩⟩ := q67
    · refine g_ifN W64 at_330 (pc' := 333) rfl (Jvm.Free.XT.i0_eq_f (by decide)) ?_
      refine g_aload W64 at_333 (pc' := 335) rfl rfl rfl ?_
      refine g_astore W64 at_335 (pc' := 337) (L' := #[.val (.int p1), .val (.int p2), .val (.int p3), .val (.int p4), .val (.int p5), .val (.int (3 : Int32)), .val (.int dp), .val (.ref x0), .val (.ref x1), .val (.ref x2), .val (.ref u0), .val (.ref u1), .val (.ref u2), .val (.ref l1), .val (.int mo), .val (.int sa), .val (.ref q), .val (.ref o1), .val G, .val (.ref u1)]) rfl rfl rfl ?_
      refine g_iload W64 at_337 (pc' := 339) rfl rfl ?_
      refine g_iconst W64 at_339 (pc' := 340) (v := (1 : Int32)) rfl rfl ?_
      refine g_icmpN W64 at_340 (pc' := 343) rfl (Jvm.Free.XT.ii_lt_f (by decide)) ?_
      refine g_aload W64 at_343 (pc' := 345) rfl rfl rfl ?_
      refine g_aload W64 at_345 (pc' := 347) rfl rfl rfl ?_
      refine g_virtual W64 at_347 (pc' := 350) (a := q) (fr' := []) (argsL := [(.ref x0)]) (rest := []) (Wd := 0) (kc := 0) (ks := 0) rfl (hw _ (List.mem_of_getElem? (i := 201) rfl)) (hw _ (List.mem_of_getElem? (i := 187) rfl)) (hw _ (List.mem_of_getElem? (i := 189) rfl)) (hw _ (List.mem_of_getElem? (i := 188) rfl)) (by decide) F46.exa rfl rfl (lenOf pd_11 rfl) rfl all0 (by decide) (by decide) (pays_eq hEL (fun d hd => hw d ((by decide +kernel : ∀ d ∈ StrChars.Road.wordsEq, d ∈ tables_1) d hd)) (hw _ (List.mem_of_getElem? (i := 5) rfl)) F46 F47 Sc hzc W64.ext (by decide) (by decide)) fun v75 T70 h72 W71 K73 q74 => ?_
      obtain ⟨rfl, ⟨rfl, c76⟩ | ⟨rfl, c76⟩⟩ := q74
      · refine g_ifN W71 at_350 (pc' := 353) rfl (Jvm.Free.XT.i0_eq_f (by decide)) ?_
        refine g_aload W71 at_353 (pc' := 355) rfl rfl rfl ?_
        refine g_astore W71 at_355 (pc' := 357) (L' := #[.val (.int p1), .val (.int p2), .val (.int p3), .val (.int p4), .val (.int p5), .val (.int (3 : Int32)), .val (.int dp), .val (.ref x0), .val (.ref x1), .val (.ref x2), .val (.ref u0), .val (.ref u1), .val (.ref u2), .val (.ref l1), .val (.int mo), .val (.int sa), .val (.ref q), .val (.ref o1), .val G, .val (.ref u0)]) rfl rfl rfl ?_
        refine g_aload W71 at_357 (pc' := 359) rfl rfl rG ?_
        refine g_aload W71 at_359 (pc' := 361) rfl rfl rfl ?_
        refine g_acmpN W71 at_361 (pc' := 364) rfl rG rfl (Jvm.Free.XT.aa_ne_f (by rw [hG]; simp [c62.symm, c69.symm, c76.symm])) ?_
        refine g_iconst W71 at_364 (pc' := 365) (v := (1 : Int32)) rfl rfl ?_
        refine g_goto W71 at_365 (pc' := 369) (by decide) (by decide) ?_
        exact g_ireturn W71 at_369 (by decide) rfl (K0.trans K40 fun _ q => nomatch q) rfl (by decide) (by decide)
      · refine g_ifY W71 at_350 (pc' := 357) (by decide) (by decide) (Jvm.Free.XT.i0_eq_t rfl) ?_
        refine g_aload W71 at_357 (pc' := 359) rfl rfl rG ?_
        refine g_aload W71 at_359 (pc' := 361) rfl rfl rfl ?_
        refine g_acmpN W71 at_361 (pc' := 364) rfl rG rfl (Jvm.Free.XT.aa_ne_f (by rw [hG]; simp [c62.symm, c69.symm, (show ¬ cs0 = csq from fun z => c76 z.symm)])) ?_
        refine g_iconst W71 at_364 (pc' := 365) (v := (1 : Int32)) rfl rfl ?_
        refine g_goto W71 at_365 (pc' := 369) (by decide) (by decide) ?_
        exact g_ireturn W71 at_369 (by decide) rfl (K0.trans K40 fun _ q => nomatch q) rfl (by decide) (by decide)
    · refine g_ifY W64 at_330 (pc' := 337) (by decide) (by decide) (Jvm.Free.XT.i0_eq_t rfl) ?_
      refine g_iload W64 at_337 (pc' := 339) rfl rfl ?_
      refine g_iconst W64 at_339 (pc' := 340) (v := (1 : Int32)) rfl rfl ?_
      refine g_icmpN W64 at_340 (pc' := 343) rfl (Jvm.Free.XT.ii_lt_f (by decide)) ?_
      refine g_aload W64 at_343 (pc' := 345) rfl rfl rfl ?_
      refine g_aload W64 at_345 (pc' := 347) rfl rfl rfl ?_
      refine g_virtual W64 at_347 (pc' := 350) (a := q) (fr' := []) (argsL := [(.ref x0)]) (rest := []) (Wd := 0) (kc := 0) (ks := 0) rfl (hw _ (List.mem_of_getElem? (i := 201) rfl)) (hw _ (List.mem_of_getElem? (i := 187) rfl)) (hw _ (List.mem_of_getElem? (i := 189) rfl)) (hw _ (List.mem_of_getElem? (i := 188) rfl)) (by decide) F46.exa rfl rfl (lenOf pd_11 rfl) rfl all0 (by decide) (by decide) (pays_eq hEL (fun d hd => hw d ((by decide +kernel : ∀ d ∈ StrChars.Road.wordsEq, d ∈ tables_1) d hd)) (hw _ (List.mem_of_getElem? (i := 5) rfl)) F46 F47 Sc hzc W64.ext (by decide) (by decide)) fun v82 T77 h79 W78 K80 q81 => ?_
      obtain ⟨rfl, ⟨rfl, c83⟩ | ⟨rfl, c83⟩⟩ := q81
      · refine g_ifN W78 at_350 (pc' := 353) rfl (Jvm.Free.XT.i0_eq_f (by decide)) ?_
        refine g_aload W78 at_353 (pc' := 355) rfl rfl rfl ?_
        refine g_astore W78 at_355 (pc' := 357) (L' := #[.val (.int p1), .val (.int p2), .val (.int p3), .val (.int p4), .val (.int p5), .val (.int (3 : Int32)), .val (.int dp), .val (.ref x0), .val (.ref x1), .val (.ref x2), .val (.ref u0), .val (.ref u1), .val (.ref u2), .val (.ref l1), .val (.int mo), .val (.int sa), .val (.ref q), .val (.ref o1), .val G, .val (.ref u0)]) rfl rfl rfl ?_
        refine g_aload W78 at_357 (pc' := 359) rfl rfl rG ?_
        refine g_aload W78 at_359 (pc' := 361) rfl rfl rfl ?_
        refine g_acmpN W78 at_361 (pc' := 364) rfl rG rfl (Jvm.Free.XT.aa_ne_f (by rw [hG]; simp [c62.symm, (show ¬ cs1 = csq from fun z => c69 z.symm), c83.symm])) ?_
        refine g_iconst W78 at_364 (pc' := 365) (v := (1 : Int32)) rfl rfl ?_
        refine g_goto W78 at_365 (pc' := 369) (by decide) (by decide) ?_
        exact g_ireturn W78 at_369 (by decide) rfl (K0.trans K40 fun _ q => nomatch q) rfl (by decide) (by decide)
      · refine g_ifY W78 at_350 (pc' := 357) (by decide) (by decide) (Jvm.Free.XT.i0_eq_t rfl) ?_
        refine g_aload W78 at_357 (pc' := 359) rfl rfl rG ?_
        refine g_aload W78 at_359 (pc' := 361) rfl rfl rfl ?_
        refine g_acmpN W78 at_361 (pc' := 364) rfl rG rfl (Jvm.Free.XT.aa_ne_f (by rw [hG]; simp [c62.symm, (show ¬ cs1 = csq from fun z => c69 z.symm), (show ¬ cs0 = csq from fun z => c83 z.symm)])) ?_
        refine g_iconst W78 at_364 (pc' := 365) (v := (1 : Int32)) rfl rfl ?_
        refine g_goto W78 at_365 (pc' := 369) (by decide) (by decide) ?_
        exact g_ireturn W78 at_369 (by decide) rfl (K0.trans K40 fun _ q => nomatch q) rfl (by decide) (by decide)
  · refine g_ifY W57 at_310 (pc' := 317) (by decide) (by decide) (Jvm.Free.XT.i0_eq_t rfl) ?_
    refine g_iload W57 at_317 (pc' := 319) rfl rfl ?_
    refine g_iconst W57 at_319 (pc' := 320) (v := (2 : Int32)) rfl rfl ?_
    refine g_icmpN W57 at_320 (pc' := 323) rfl (Jvm.Free.XT.ii_lt_f (by decide)) ?_
    refine g_aload W57 at_323 (pc' := 325) rfl rfl rfl ?_
    refine g_aload W57 at_325 (pc' := 327) rfl rfl rfl ?_
    refine g_virtual W57 at_327 (pc' := 330) (a := q) (fr' := []) (argsL := [(.ref x1)]) (rest := []) (Wd := 0) (kc := 0) (ks := 0) rfl (hw _ (List.mem_of_getElem? (i := 201) rfl)) (hw _ (List.mem_of_getElem? (i := 187) rfl)) (hw _ (List.mem_of_getElem? (i := 189) rfl)) (hw _ (List.mem_of_getElem? (i := 188) rfl)) (by decide) F46.exa rfl rfl (lenOf pd_11 rfl) rfl all0 (by decide) (by decide) (pays_eq hEL (fun d hd => hw d ((by decide +kernel : ∀ d ∈ StrChars.Road.wordsEq, d ∈ tables_1) d hd)) (hw _ (List.mem_of_getElem? (i := 5) rfl)) F46 F48 Sc hzc W57.ext (by decide) (by decide)) fun v89 T84 h86 W85 K87 q88 => ?_
    obtain ⟨rfl, ⟨rfl, c90⟩ | ⟨rfl, c90⟩⟩ := q88
    · refine g_ifN W85 at_330 (pc' := 333) rfl (Jvm.Free.XT.i0_eq_f (by decide)) ?_
      refine g_aload W85 at_333 (pc' := 335) rfl rfl rfl ?_
      refine g_astore W85 at_335 (pc' := 337) (L' := #[.val (.int p1), .val (.int p2), .val (.int p3), .val (.int p4), .val (.int p5), .val (.int (3 : Int32)), .val (.int dp), .val (.ref x0), .val (.ref x1), .val (.ref x2), .val (.ref u0), .val (.ref u1), .val (.ref u2), .val (.ref l1), .val (.int mo), .val (.int sa), .val (.ref q), .val (.ref o1), .val G, .val (.ref u1)]) rfl rfl rfl ?_
      refine g_iload W85 at_337 (pc' := 339) rfl rfl ?_
      refine g_iconst W85 at_339 (pc' := 340) (v := (1 : Int32)) rfl rfl ?_
      refine g_icmpN W85 at_340 (pc' := 343) rfl (Jvm.Free.XT.ii_lt_f (by decide)) ?_
      refine g_aload W85 at_343 (pc' := 345) rfl rfl rfl ?_
      refine g_aload W85 at_345 (pc' := 347) rfl rfl rfl ?_
      refine g_virtual W85 at_347 (pc' := 350) (a := q) (fr' := []) (argsL := [(.ref x0)]) (rest := []) (Wd := 0) (kc := 0) (ks := 0) rfl (hw _ (List.mem_of_getElem? (i := 201) rfl)) (hw _ (List.mem_of_getElem? (i := 187) rfl)) (hw _ (List.mem_of_getElem? (i := 189) rfl)) (hw _ (List.mem_of_getElem? (i := 188) rfl)) (by decide) F46.exa rfl rfl (lenOf pd_11 rfl) rfl all0 (by decide) (by decide) (pays_eq hEL (fun d hd => hw d ((by decide +kernel : ∀ d ∈ StrChars.Road.wordsEq, d ∈ tables_1) d hd)) (hw _ (List.mem_of_getElem? (i := 5) rfl)) F46 F47 Sc hzc W85.ext (by decide) (by decide)) fun v96 T91 h93 W92 K94 q95 => ?_
      obtain ⟨rfl, ⟨rfl, c97⟩ | ⟨rfl, c97⟩⟩ := q95
      · refine g_ifN W92 at_350 (pc' := 353) rfl (Jvm.Free.XT.i0_eq_f (by decide)) ?_
        refine g_aload W92 at_353 (pc' := 355) rfl rfl rfl ?_
        refine g_astore W92 at_355 (pc' := 357) (L' := #[.val (.int p1), .val (.int p2), .val (.int p3), .val (.int p4), .val (.int p5), .val (.int (3 : Int32)), .val (.int dp), .val (.ref x0), .val (.ref x1), .val (.ref x2), .val (.ref u0), .val (.ref u1), .val (.ref u2), .val (.ref l1), .val (.int mo), .val (.int sa), .val (.ref q), .val (.ref o1), .val G, .val (.ref u0)]) rfl rfl rfl ?_
        refine g_aload W92 at_357 (pc' := 359) rfl rfl rG ?_
        refine g_aload W92 at_359 (pc' := 361) rfl rfl rfl ?_
        refine g_acmpN W92 at_361 (pc' := 364) rfl rG rfl (Jvm.Free.XT.aa_ne_f (by rw [hG]; simp [(show ¬ cs2 = csq from fun z => c62 z.symm), c90.symm, c97.symm])) ?_
        refine g_iconst W92 at_364 (pc' := 365) (v := (1 : Int32)) rfl rfl ?_
        refine g_goto W92 at_365 (pc' := 369) (by decide) (by decide) ?_
        exact g_ireturn W92 at_369 (by decide) rfl (K0.trans K40 fun _ q => nomatch q) rfl (by decide) (by decide)
      · refine g_ifY W92 at_350 (pc' := 357) (by decide) (by decide) (Jvm.Free.XT.i0_eq_t rfl) ?_
        refine g_aload W92 at_357 (pc' := 359) rfl rfl rG ?_
        refine g_aload W92 at_359 (pc' := 361) rfl rfl rfl ?_
        refine g_acmpN W92 at_361 (pc' := 364) rfl rG rfl (Jvm.Free.XT.aa_ne_f (by rw [hG]; simp [(show ¬ cs2 = csq from fun z => c62 z.symm), c90.symm, (show ¬ cs0 = csq from fun z => c97 z.symm)])) ?_
        refine g_iconst W92 at_364 (pc' := 365) (v := (1 : Int32)) rfl rfl ?_
        refine g_goto W92 at_365 (pc' := 369) (by decide) (by decide) ?_
        exact g_ireturn W92 at_369 (by decide) rfl (K0.trans K40 fun _ q => nomatch q) rfl (by decide) (by decide)
    · refine g_ifY W85 at_330 (pc' := 337) (by decide) (by decide) (Jvm.Free.XT.i0_eq_t rfl) ?_
      refine g_iload W85 at_337 (pc' := 339) rfl rfl ?_
      refine g_iconst W85 at_339 (pc' := 340) (v := (1 : Int32)) rfl rfl ?_
      refine g_icmpN W85 at_340 (pc' := 343) rfl (Jvm.Free.XT.ii_lt_f (by decide)) ?_
      refine g_aload W85 at_343 (pc' := 345) rfl rfl rfl ?_
      refine g_aload W85 at_345 (pc' := 347) rfl rfl rfl ?_
      refine g_virtual W85 at_347 (pc' := 350) (a := q) (fr' := []) (argsL := [(.ref x0)]) (rest := []) (Wd := 0) (kc := 0) (ks := 0) rfl (hw _ (List.mem_of_getElem? (i := 201) rfl)) (hw _ (List.mem_of_getElem? (i := 187) rfl)) (hw _ (List.mem_of_getElem? (i := 189) rfl)) (hw _ (List.mem_of_getElem? (i := 188) rfl)) (by decide) F46.exa rfl rfl (lenOf pd_11 rfl) rfl all0 (by decide) (by decide) (pays_eq hEL (fun d hd => hw d ((by decide +kernel : ∀ d ∈ StrChars.Road.wordsEq, d ∈ tables_1) d hd)) (hw _ (List.mem_of_getElem? (i := 5) rfl)) F46 F47 Sc hzc W85.ext (by decide) (by decide)) fun v103 T98 h100 W99 K101 q102 => ?_
      obtain ⟨rfl, ⟨rfl, c104⟩ | ⟨rfl, c104⟩⟩ := q102
      · refine g_ifN W99 at_350 (pc' := 353) rfl (Jvm.Free.XT.i0_eq_f (by decide)) ?_
        refine g_aload W99 at_353 (pc' := 355) rfl rfl rfl ?_
        refine g_astore W99 at_355 (pc' := 357) (L' := #[.val (.int p1), .val (.int p2), .val (.int p3), .val (.int p4), .val (.int p5), .val (.int (3 : Int32)), .val (.int dp), .val (.ref x0), .val (.ref x1), .val (.ref x2), .val (.ref u0), .val (.ref u1), .val (.ref u2), .val (.ref l1), .val (.int mo), .val (.int sa), .val (.ref q), .val (.ref o1), .val G, .val (.ref u0)]) rfl rfl rfl ?_
        refine g_aload W99 at_357 (pc' := 359) rfl rfl rG ?_
        refine g_aload W99 at_359 (pc' := 361) rfl rfl rfl ?_
        refine g_acmpN W99 at_361 (pc' := 364) rfl rG rfl (Jvm.Free.XT.aa_ne_f (by rw [hG]; simp [(show ¬ cs2 = csq from fun z => c62 z.symm), (show ¬ cs1 = csq from fun z => c90 z.symm), c104.symm])) ?_
        refine g_iconst W99 at_364 (pc' := 365) (v := (1 : Int32)) rfl rfl ?_
        refine g_goto W99 at_365 (pc' := 369) (by decide) (by decide) ?_
        exact g_ireturn W99 at_369 (by decide) rfl (K0.trans K40 fun _ q => nomatch q) rfl (by decide) (by decide)
      · refine g_ifY W99 at_350 (pc' := 357) (by decide) (by decide) (Jvm.Free.XT.i0_eq_t rfl) ?_
        refine g_aload W99 at_357 (pc' := 359) rfl rfl rG ?_
        refine g_aload W99 at_359 (pc' := 361) rfl rfl rfl ?_
        refine g_acmpN W99 at_361 (pc' := 364) rfl rG rfl (Jvm.Free.XT.aa_ne_f (by rw [hG]; simp [(show ¬ cs2 = csq from fun z => c62 z.symm), (show ¬ cs1 = csq from fun z => c90 z.symm), (show ¬ cs0 = csq from fun z => c104 z.symm)])) ?_
        refine g_iconst W99 at_364 (pc' := 365) (v := (1 : Int32)) rfl rfl ?_
        refine g_goto W99 at_365 (pc' := 369) (by decide) (by decide) ?_
        exact g_ireturn W99 at_369 (by decide) rfl (K0.trans K40 fun _ q => nomatch q) rfl (by decide) (by decide)
theorem pd_15 : parseMethodDescriptor "(I)Ljava/lang/String;" = some ⟨[.int], some (.object "java/lang/String")⟩ := by decide +kernel
set_option maxRecDepth 65536 in
set_option maxHeartbeats 40000000 in
theorem mid0 {l : Launch} {Z : State} {a0 : Array Value} (hw : ∀ d ∈ tables_1, d.before a0 Z = true) (hEL : EW Z a0 EL1) {zc : Int32} (Sc : Sta Z Z.heap "java/lang/String" "COMPACT_STRINGS" "Z" (.int zc)) (hzc : ¬ zc = 0) {p : Program} {e : Env} {s : State} {m : MethodId} {below : List Frame} {meth : Method} {c : Code} {h0 : Heap} {T : State} {fr : List Addr} (p1 p2 p3 p4 p5 : Int32) (x0 x1 x2 u0 u1 u2 : Addr) (cs0 cs1 cs2 : List Int32) (dp : Int32) (l1 d : Addr) (k : ClassId) {el : Addr} (h : Heap) (W : Wk p l e room_1 s m #[(.int p1), (.int p2), (.int p3), (.int p4), (.int p5)] below meth c x code maxLocals ret Z a0 EL1 NW h0 T h fr 34 200) (K0 : Keep h0 h []) (Se : Sta Z Z.heap "java/util/ImmutableCollections" "EMPTY_LIST" "Ljava/util/ImmutableCollections$ListN;" (.ref el)) (S0 : Str Z h x0 cs0) (S1 : Str Z h x1 cs1) (S2 : Str Z h x2 cs2) (Ol : Obj Z h l1 "java/util/ArrayList" [(("java/util/AbstractList", "modCount", "I"), (.int (0 : Int32))), (("java/util/ArrayList", "elementData", "[Ljava/lang/Object;"), (.ref d)), (("java/util/ArrayList", "size", "I"), (.int (0 : Int32)))]) : Goes p e below s Z EL1 NW h0 [] (fun v _ => v = some (.int 1)) room_1 T (mkF m 153 #[.val (.int p1), .val (.int p2), .val (.int p3), .val (.int p4), .val (.int p5), .val (.int (0 : Int32)), .val (.int dp), .val (.ref x0), .val (.ref x1), .val (.ref x2), .val (.ref u0), .val (.ref u1), .val (.ref u2), .val (.ref l1), .unset, .unset, .unset, .unset, .unset, .unset] []) := by
  refine g_iload W at_153 (pc' := 155) rfl rfl ?_
  refine g_iconst W at_155 (pc' := 156) (v := (3 : Int32)) rfl rfl ?_
  refine g_iand W at_156 (pc' := 157) rfl ?_
  refine g_istore W at_157 (pc' := 159) (L' := #[.val (.int p1), .val (.int p2), .val (.int p3), .val (.int p4), .val (.int p5), .val (.int (0 : Int32)), .val (.int dp), .val (.ref x0), .val (.ref x1), .val (.ref x2), .val (.ref u0), .val (.ref u1), .val (.ref u2), .val (.ref l1), .val (.int (p5 &&& (3 : Int32))), .unset, .unset, .unset, .unset, .unset]) rfl rfl ?_
  refine g_iload W at_159 (pc' := 161) rfl rfl ?_
  refine g_iconst W at_161 (pc' := 162) (v := (2 : Int32)) rfl rfl ?_
  refine g_iushr W at_162 (pc' := 163) rfl ?_
  refine g_iconst W at_163 (pc' := 164) (v := (1 : Int32)) rfl rfl ?_
  refine g_iand W at_164 (pc' := 165) rfl ?_
  by_cases c1 : (((p5.toUInt32 >>> ((2 : Int32) &&& 31).toUInt32).toInt32) &&& (1 : Int32)) = 0
  · refine g_ifY W at_165 (pc' := 172) (by decide) (by decide) (Jvm.Free.XT.i0_eq_t c1) ?_
    refine g_iconst W at_172 (pc' := 173) (v := (0 : Int32)) rfl rfl ?_
    refine g_istore W at_173 (pc' := 175) (L' := #[.val (.int p1), .val (.int p2), .val (.int p3), .val (.int p4), .val (.int p5), .val (.int (0 : Int32)), .val (.int dp), .val (.ref x0), .val (.ref x1), .val (.ref x2), .val (.ref u0), .val (.ref u1), .val (.ref u2), .val (.ref l1), .val (.int (p5 &&& (3 : Int32))), .val (.int (0 : Int32)), .unset, .unset, .unset, .unset]) rfl rfl ?_
    refine g_iload W at_175 (pc' := 177) rfl rfl ?_
    by_cases c2 : (p5 &&& (3 : Int32)) = 0
    · refine g_ifN W at_177 (pc' := 180) rfl (Jvm.Free.XT.i0_ne_f c2) ?_
      refine g_iload_n W at_180 (pc' := 181) rfl rfl ?_
      refine g_static W at_181 (pc' := 184) (fr' := []) (argsL := [(.int p4)]) (rest := []) (Wd := 0) (kc := 6) (ks := 16) rfl (hw _ (List.mem_of_getElem? (i := 0) rfl)) (hw _ (List.mem_of_getElem? (i := 1) rfl)) (hw _ (List.mem_of_getElem? (i := 2) rfl)) (hw _ (List.mem_of_getElem? (i := 3) rfl)) (by decide) rfl rfl (lenOf pd_15 rfl) rfl all0 (by decide) (by decide) (Met.pays (rm_mk hw hEL Sc hzc p4 _ W.ext) (hw _ (List.mem_of_getElem? (i := 3) rfl)) (hw _ (List.mem_of_getElem? (i := 2) rfl)) hEL (by decide) (by decide)) fun v8 T3 h5 W4 K6 q7 => ?_
      obtain ⟨q, csq, rfl, Sq⟩ := q7
      show Goes _ _ _ _ _ _ _ _ _ _ _ T3 (mkF m 184 #[.val (.int p1), .val (.int p2), .val (.int p3), .val (.int p4), .val (.int p5), .val (.int (0 : Int32)), .val (.int dp), .val (.ref x0), .val (.ref x1), .val (.ref x2), .val (.ref u0), .val (.ref u1), .val (.ref u2), .val (.ref l1), .val (.int (p5 &&& (3 : Int32))), .val (.int (0 : Int32)), .unset, .unset, .unset, .unset] [(.ref q)])
      refine g_astore W4 at_184 (pc' := 186) (L' := #[.val (.int p1), .val (.int p2), .val (.int p3), .val (.int p4), .val (.int p5), .val (.int (0 : Int32)), .val (.int dp), .val (.ref x0), .val (.ref x1), .val (.ref x2), .val (.ref u0), .val (.ref u1), .val (.ref u2), .val (.ref l1), .val (.int (p5 &&& (3 : Int32))), .val (.int (0 : Int32)), .val (.ref q), .unset, .unset, .unset]) rfl rfl rfl ?_
      refine g_goto W4 at_186 (pc' := 267) (by decide) (by decide) ?_
      have K9 : Keep h h5 [] := ((Keep.refl h []).trans K6 fun _ q => nomatch q)
      have F10 := S0.mv K9
      have F11 := S1.mv K9
      have F12 := S2.mv K9
      have F13 := Ol.mv K9
      exact tail0 hw hEL Sc hzc p1 p2 p3 p4 p5 x0 x1 x2 u0 u1 u2 cs0 cs1 cs2 dp l1 d k  q csq (p5 &&& (3 : Int32)) (0 : Int32) _ (W4.more (by decide) (by decide)) (K0.trans K9 fun _ q => nomatch q) Se F10 F11 F12 Sq F13
    · refine g_ifY W at_177 (pc' := 189) (by decide) (by decide) (Jvm.Free.XT.i0_ne_t c2) ?_
      refine g_iload W at_189 (pc' := 191) rfl rfl ?_
      refine g_iconst W at_191 (pc' := 192) (v := (1 : Int32)) rfl rfl ?_
      by_cases c14 : (p5 &&& (3 : Int32)) = (1 : Int32)
      · refine g_icmpN W at_192 (pc' := 195) rfl (Jvm.Free.XT.ii_ne_f c14) ?_
        refine g_iload W at_195 (pc' := 197) rfl rfl ?_
        refine g_ifY W at_197 (pc' := 205) (by decide) (by decide) (Jvm.Free.XT.i0_eq_t rfl) ?_
        refine g_iload_n W at_205 (pc' := 206) rfl rfl ?_
        refine g_static W at_206 (pc' := 209) (fr' := []) (argsL := [(.int p1)]) (rest := []) (Wd := 0) (kc := 6) (ks := 16) rfl (hw _ (List.mem_of_getElem? (i := 0) rfl)) (hw _ (List.mem_of_getElem? (i := 1) rfl)) (hw _ (List.mem_of_getElem? (i := 2) rfl)) (hw _ (List.mem_of_getElem? (i := 3) rfl)) (by decide) rfl rfl (lenOf pd_15 rfl) rfl all0 (by decide) (by decide) (Met.pays (rm_mk hw hEL Sc hzc p1 _ W.ext) (hw _ (List.mem_of_getElem? (i := 3) rfl)) (hw _ (List.mem_of_getElem? (i := 2) rfl)) hEL (by decide) (by decide)) fun v20 T15 h17 W16 K18 q19 => ?_
        obtain ⟨q, csq, rfl, Sq⟩ := q19
        show Goes _ _ _ _ _ _ _ _ _ _ _ T15 (mkF m 209 #[.val (.int p1), .val (.int p2), .val (.int p3), .val (.int p4), .val (.int p5), .val (.int (0 : Int32)), .val (.int dp), .val (.ref x0), .val (.ref x1), .val (.ref x2), .val (.ref u0), .val (.ref u1), .val (.ref u2), .val (.ref l1), .val (.int (p5 &&& (3 : Int32))), .val (.int (0 : Int32)), .unset, .unset, .unset, .unset] [(.ref q)])
        refine g_astore W16 at_209 (pc' := 211) (L' := #[.val (.int p1), .val (.int p2), .val (.int p3), .val (.int p4), .val (.int p5), .val (.int (0 : Int32)), .val (.int dp), .val (.ref x0), .val (.ref x1), .val (.ref x2), .val (.ref u0), .val (.ref u1), .val (.ref u2), .val (.ref l1), .val (.int (p5 &&& (3 : Int32))), .val (.int (0 : Int32)), .val (.ref q), .unset, .unset, .unset]) rfl rfl rfl ?_
        refine g_goto W16 at_211 (pc' := 267) (by decide) (by decide) ?_
        have K21 : Keep h h17 [] := ((Keep.refl h []).trans K18 fun _ q => nomatch q)
        have F22 := S0.mv K21
        have F23 := S1.mv K21
        have F24 := S2.mv K21
        have F25 := Ol.mv K21
        exact tail0 hw hEL Sc hzc p1 p2 p3 p4 p5 x0 x1 x2 u0 u1 u2 cs0 cs1 cs2 dp l1 d k  q csq (p5 &&& (3 : Int32)) (0 : Int32) _ (W16.more (by decide) (by decide)) (K0.trans K21 fun _ q => nomatch q) Se F22 F23 F24 Sq F25
      · refine g_icmpY W at_192 (pc' := 214) (by decide) (by decide) (Jvm.Free.XT.ii_ne_t c14) ?_
        refine g_iload W at_214 (pc' := 216) rfl rfl ?_
        refine g_iconst W at_216 (pc' := 217) (v := (2 : Int32)) rfl rfl ?_
        by_cases c26 : (p5 &&& (3 : Int32)) = (2 : Int32)
        · refine g_icmpN W at_217 (pc' := 220) rfl (Jvm.Free.XT.ii_ne_f c26) ?_
          refine g_iload W at_220 (pc' := 222) rfl rfl ?_
          refine g_ifY W at_222 (pc' := 230) (by decide) (by decide) (Jvm.Free.XT.i0_eq_t rfl) ?_
          refine g_iload W at_230 (pc' := 232) rfl rfl ?_
          by_cases c27 : dp = 0
          · refine g_ifY W at_232 (pc' := 242) (by decide) (by decide) (Jvm.Free.XT.i0_eq_t c27) ?_
            refine g_iload_n W at_242 (pc' := 243) rfl rfl ?_
            refine g_static W at_243 (pc' := 246) (fr' := []) (argsL := [(.int p2)]) (rest := []) (Wd := 0) (kc := 6) (ks := 16) rfl (hw _ (List.mem_of_getElem? (i := 0) rfl)) (hw _ (List.mem_of_getElem? (i := 1) rfl)) (hw _ (List.mem_of_getElem? (i := 2) rfl)) (hw _ (List.mem_of_getElem? (i := 3) rfl)) (by decide) rfl rfl (lenOf pd_15 rfl) rfl all0 (by decide) (by decide) (Met.pays (rm_mk hw hEL Sc hzc p2 _ W.ext) (hw _ (List.mem_of_getElem? (i := 3) rfl)) (hw _ (List.mem_of_getElem? (i := 2) rfl)) hEL (by decide) (by decide)) fun v33 T28 h30 W29 K31 q32 => ?_
            obtain ⟨q, csq, rfl, Sq⟩ := q32
            show Goes _ _ _ _ _ _ _ _ _ _ _ T28 (mkF m 246 #[.val (.int p1), .val (.int p2), .val (.int p3), .val (.int p4), .val (.int p5), .val (.int (0 : Int32)), .val (.int dp), .val (.ref x0), .val (.ref x1), .val (.ref x2), .val (.ref u0), .val (.ref u1), .val (.ref u2), .val (.ref l1), .val (.int (p5 &&& (3 : Int32))), .val (.int (0 : Int32)), .unset, .unset, .unset, .unset] [(.ref q)])
            refine g_astore W29 at_246 (pc' := 248) (L' := #[.val (.int p1), .val (.int p2), .val (.int p3), .val (.int p4), .val (.int p5), .val (.int (0 : Int32)), .val (.int dp), .val (.ref x0), .val (.ref x1), .val (.ref x2), .val (.ref u0), .val (.ref u1), .val (.ref u2), .val (.ref l1), .val (.int (p5 &&& (3 : Int32))), .val (.int (0 : Int32)), .val (.ref q), .unset, .unset, .unset]) rfl rfl rfl ?_
            refine g_goto W29 at_248 (pc' := 267) (by decide) (by decide) ?_
            have K34 : Keep h h30 [] := ((Keep.refl h []).trans K31 fun _ q => nomatch q)
            have F35 := S0.mv K34
            have F36 := S1.mv K34
            have F37 := S2.mv K34
            have F38 := Ol.mv K34
            exact tail0 hw hEL Sc hzc p1 p2 p3 p4 p5 x0 x1 x2 u0 u1 u2 cs0 cs1 cs2 dp l1 d k  q csq (p5 &&& (3 : Int32)) (0 : Int32) _ (W29.more (by decide) (by decide)) (K0.trans K34 fun _ q => nomatch q) Se F35 F36 F37 Sq F38
          · refine g_ifN W at_232 (pc' := 235) rfl (Jvm.Free.XT.i0_eq_f c27) ?_
            refine g_iload_n W at_235 (pc' := 236) rfl rfl ?_
            refine g_static W at_236 (pc' := 239) (fr' := []) (argsL := [(.int p1)]) (rest := []) (Wd := 0) (kc := 6) (ks := 16) rfl (hw _ (List.mem_of_getElem? (i := 0) rfl)) (hw _ (List.mem_of_getElem? (i := 1) rfl)) (hw _ (List.mem_of_getElem? (i := 2) rfl)) (hw _ (List.mem_of_getElem? (i := 3) rfl)) (by decide) rfl rfl (lenOf pd_15 rfl) rfl all0 (by decide) (by decide) (Met.pays (rm_mk hw hEL Sc hzc p1 _ W.ext) (hw _ (List.mem_of_getElem? (i := 3) rfl)) (hw _ (List.mem_of_getElem? (i := 2) rfl)) hEL (by decide) (by decide)) fun v44 T39 h41 W40 K42 q43 => ?_
            obtain ⟨q, csq, rfl, Sq⟩ := q43
            show Goes _ _ _ _ _ _ _ _ _ _ _ T39 (mkF m 239 #[.val (.int p1), .val (.int p2), .val (.int p3), .val (.int p4), .val (.int p5), .val (.int (0 : Int32)), .val (.int dp), .val (.ref x0), .val (.ref x1), .val (.ref x2), .val (.ref u0), .val (.ref u1), .val (.ref u2), .val (.ref l1), .val (.int (p5 &&& (3 : Int32))), .val (.int (0 : Int32)), .unset, .unset, .unset, .unset] [(.ref q)])
            refine g_goto W40 at_239 (pc' := 246) (by decide) (by decide) ?_
            refine g_astore W40 at_246 (pc' := 248) (L' := #[.val (.int p1), .val (.int p2), .val (.int p3), .val (.int p4), .val (.int p5), .val (.int (0 : Int32)), .val (.int dp), .val (.ref x0), .val (.ref x1), .val (.ref x2), .val (.ref u0), .val (.ref u1), .val (.ref u2), .val (.ref l1), .val (.int (p5 &&& (3 : Int32))), .val (.int (0 : Int32)), .val (.ref q), .unset, .unset, .unset]) rfl rfl rfl ?_
            refine g_goto W40 at_248 (pc' := 267) (by decide) (by decide) ?_
            have K45 : Keep h h41 [] := ((Keep.refl h []).trans K42 fun _ q => nomatch q)
            have F46 := S0.mv K45
            have F47 := S1.mv K45
            have F48 := S2.mv K45
            have F49 := Ol.mv K45
            exact tail0 hw hEL Sc hzc p1 p2 p3 p4 p5 x0 x1 x2 u0 u1 u2 cs0 cs1 cs2 dp l1 d k  q csq (p5 &&& (3 : Int32)) (0 : Int32) _ (W40.more (by decide) (by decide)) (K0.trans K45 fun _ q => nomatch q) Se F46 F47 F48 Sq F49
        · refine g_icmpY W at_217 (pc' := 251) (by decide) (by decide) (Jvm.Free.XT.ii_ne_t c26) ?_
          refine g_iload W at_251 (pc' := 253) rfl rfl ?_
          refine g_ifY W at_253 (pc' := 261) (by decide) (by decide) (Jvm.Free.XT.i0_eq_t rfl) ?_
          refine g_iload_n W at_261 (pc' := 262) rfl rfl ?_
          refine g_static W at_262 (pc' := 265) (fr' := []) (argsL := [(.int p3)]) (rest := []) (Wd := 0) (kc := 6) (ks := 16) rfl (hw _ (List.mem_of_getElem? (i := 0) rfl)) (hw _ (List.mem_of_getElem? (i := 1) rfl)) (hw _ (List.mem_of_getElem? (i := 2) rfl)) (hw _ (List.mem_of_getElem? (i := 3) rfl)) (by decide) rfl rfl (lenOf pd_15 rfl) rfl all0 (by decide) (by decide) (Met.pays (rm_mk hw hEL Sc hzc p3 _ W.ext) (hw _ (List.mem_of_getElem? (i := 3) rfl)) (hw _ (List.mem_of_getElem? (i := 2) rfl)) hEL (by decide) (by decide)) fun v55 T50 h52 W51 K53 q54 => ?_
          obtain ⟨q, csq, rfl, Sq⟩ := q54
          show Goes _ _ _ _ _ _ _ _ _ _ _ T50 (mkF m 265 #[.val (.int p1), .val (.int p2), .val (.int p3), .val (.int p4), .val (.int p5), .val (.int (0 : Int32)), .val (.int dp), .val (.ref x0), .val (.ref x1), .val (.ref x2), .val (.ref u0), .val (.ref u1), .val (.ref u2), .val (.ref l1), .val (.int (p5 &&& (3 : Int32))), .val (.int (0 : Int32)), .unset, .unset, .unset, .unset] [(.ref q)])
          refine g_astore W51 at_265 (pc' := 267) (L' := #[.val (.int p1), .val (.int p2), .val (.int p3), .val (.int p4), .val (.int p5), .val (.int (0 : Int32)), .val (.int dp), .val (.ref x0), .val (.ref x1), .val (.ref x2), .val (.ref u0), .val (.ref u1), .val (.ref u2), .val (.ref l1), .val (.int (p5 &&& (3 : Int32))), .val (.int (0 : Int32)), .val (.ref q), .unset, .unset, .unset]) rfl rfl rfl ?_
          have K56 : Keep h h52 [] := ((Keep.refl h []).trans K53 fun _ q => nomatch q)
          have F57 := S0.mv K56
          have F58 := S1.mv K56
          have F59 := S2.mv K56
          have F60 := Ol.mv K56
          exact tail0 hw hEL Sc hzc p1 p2 p3 p4 p5 x0 x1 x2 u0 u1 u2 cs0 cs1 cs2 dp l1 d k  q csq (p5 &&& (3 : Int32)) (0 : Int32) _ (W51.more (by decide) (by decide)) (K0.trans K56 fun _ q => nomatch q) Se F57 F58 F59 Sq F60
  · refine g_ifN W at_165 (pc' := 168) rfl (Jvm.Free.XT.i0_eq_f c1) ?_
    refine g_iconst W at_168 (pc' := 169) (v := (1 : Int32)) rfl rfl ?_
    refine g_goto W at_169 (pc' := 173) (by decide) (by decide) ?_
    refine g_istore W at_173 (pc' := 175) (L' := #[.val (.int p1), .val (.int p2), .val (.int p3), .val (.int p4), .val (.int p5), .val (.int (0 : Int32)), .val (.int dp), .val (.ref x0), .val (.ref x1), .val (.ref x2), .val (.ref u0), .val (.ref u1), .val (.ref u2), .val (.ref l1), .val (.int (p5 &&& (3 : Int32))), .val (.int (1 : Int32)), .unset, .unset, .unset, .unset]) rfl rfl ?_
    refine g_iload W at_175 (pc' := 177) rfl rfl ?_
    by_cases c61 : (p5 &&& (3 : Int32)) = 0
    · refine g_ifN W at_177 (pc' := 180) rfl (Jvm.Free.XT.i0_ne_f c61) ?_
      refine g_iload_n W at_180 (pc' := 181) rfl rfl ?_
      refine g_static W at_181 (pc' := 184) (fr' := []) (argsL := [(.int p4)]) (rest := []) (Wd := 0) (kc := 6) (ks := 16) rfl (hw _ (List.mem_of_getElem? (i := 0) rfl)) (hw _ (List.mem_of_getElem? (i := 1) rfl)) (hw _ (List.mem_of_getElem? (i := 2) rfl)) (hw _ (List.mem_of_getElem? (i := 3) rfl)) (by decide) rfl rfl (lenOf pd_15 rfl) rfl all0 (by decide) (by decide) (Met.pays (rm_mk hw hEL Sc hzc p4 _ W.ext) (hw _ (List.mem_of_getElem? (i := 3) rfl)) (hw _ (List.mem_of_getElem? (i := 2) rfl)) hEL (by decide) (by decide)) fun v67 T62 h64 W63 K65 q66 => ?_
      obtain ⟨q, csq, rfl, Sq⟩ := q66
      show Goes _ _ _ _ _ _ _ _ _ _ _ T62 (mkF m 184 #[.val (.int p1), .val (.int p2), .val (.int p3), .val (.int p4), .val (.int p5), .val (.int (0 : Int32)), .val (.int dp), .val (.ref x0), .val (.ref x1), .val (.ref x2), .val (.ref u0), .val (.ref u1), .val (.ref u2), .val (.ref l1), .val (.int (p5 &&& (3 : Int32))), .val (.int (1 : Int32)), .unset, .unset, .unset, .unset] [(.ref q)])
      refine g_astore W63 at_184 (pc' := 186) (L' := #[.val (.int p1), .val (.int p2), .val (.int p3), .val (.int p4), .val (.int p5), .val (.int (0 : Int32)), .val (.int dp), .val (.ref x0), .val (.ref x1), .val (.ref x2), .val (.ref u0), .val (.ref u1), .val (.ref u2), .val (.ref l1), .val (.int (p5 &&& (3 : Int32))), .val (.int (1 : Int32)), .val (.ref q), .unset, .unset, .unset]) rfl rfl rfl ?_
      refine g_goto W63 at_186 (pc' := 267) (by decide) (by decide) ?_
      have K68 : Keep h h64 [] := ((Keep.refl h []).trans K65 fun _ q => nomatch q)
      have F69 := S0.mv K68
      have F70 := S1.mv K68
      have F71 := S2.mv K68
      have F72 := Ol.mv K68
      exact tail0 hw hEL Sc hzc p1 p2 p3 p4 p5 x0 x1 x2 u0 u1 u2 cs0 cs1 cs2 dp l1 d k  q csq (p5 &&& (3 : Int32)) (1 : Int32) _ (W63.more (by decide) (by decide)) (K0.trans K68 fun _ q => nomatch q) Se F69 F70 F71 Sq F72
    · refine g_ifY W at_177 (pc' := 189) (by decide) (by decide) (Jvm.Free.XT.i0_ne_t c61) ?_
      refine g_iload W at_189 (pc' := 191) rfl rfl ?_
      refine g_iconst W at_191 (pc' := 192) (v := (1 : Int32)) rfl rfl ?_
      by_cases c73 : (p5 &&& (3 : Int32)) = (1 : Int32)
      · refine g_icmpN W at_192 (pc' := 195) rfl (Jvm.Free.XT.ii_ne_f c73) ?_
        refine g_iload W at_195 (pc' := 197) rfl rfl ?_
        refine g_ifN W at_197 (pc' := 200) rfl (Jvm.Free.XT.i0_eq_f (by decide)) ?_
        refine g_aload W at_200 (pc' := 202) rfl rfl rfl ?_
        refine g_goto W at_202 (pc' := 209) (by decide) (by decide) ?_
        refine g_astore W at_209 (pc' := 211) (L' := #[.val (.int p1), .val (.int p2), .val (.int p3), .val (.int p4), .val (.int p5), .val (.int (0 : Int32)), .val (.int dp), .val (.ref x0), .val (.ref x1), .val (.ref x2), .val (.ref u0), .val (.ref u1), .val (.ref u2), .val (.ref l1), .val (.int (p5 &&& (3 : Int32))), .val (.int (1 : Int32)), .val (.ref x0), .unset, .unset, .unset]) rfl rfl rfl ?_
        refine g_goto W at_211 (pc' := 267) (by decide) (by decide) ?_
        exact tail0 hw hEL Sc hzc p1 p2 p3 p4 p5 x0 x1 x2 u0 u1 u2 cs0 cs1 cs2 dp l1 d k  x0 cs0 (p5 &&& (3 : Int32)) (1 : Int32) _ (W.more (by decide) (by decide)) K0 Se S0 S1 S2 S0 Ol
      · refine g_icmpY W at_192 (pc' := 214) (by decide) (by decide) (Jvm.Free.XT.ii_ne_t c73) ?_
        refine g_iload W at_214 (pc' := 216) rfl rfl ?_
        refine g_iconst W at_216 (pc' := 217) (v := (2 : Int32)) rfl rfl ?_
        by_cases c74 : (p5 &&& (3 : Int32)) = (2 : Int32)
        · refine g_icmpN W at_217 (pc' := 220) rfl (Jvm.Free.XT.ii_ne_f c74) ?_
          refine g_iload W at_220 (pc' := 222) rfl rfl ?_
          refine g_ifN W at_222 (pc' := 225) rfl (Jvm.Free.XT.i0_eq_f (by decide)) ?_
          refine g_aload W at_225 (pc' := 227) rfl rfl rfl ?_
          refine g_goto W at_227 (pc' := 246) (by decide) (by decide) ?_
          refine g_astore W at_246 (pc' := 248) (L' := #[.val (.int p1), .val (.int p2), .val (.int p3), .val (.int p4), .val (.int p5), .val (.int (0 : Int32)), .val (.int dp), .val (.ref x0), .val (.ref x1), .val (.ref x2), .val (.ref u0), .val (.ref u1), .val (.ref u2), .val (.ref l1), .val (.int (p5 &&& (3 : Int32))), .val (.int (1 : Int32)), .val (.ref x1), .unset, .unset, .unset]) rfl rfl rfl ?_
          refine g_goto W at_248 (pc' := 267) (by decide) (by decide) ?_
          exact tail0 hw hEL Sc hzc p1 p2 p3 p4 p5 x0 x1 x2 u0 u1 u2 cs0 cs1 cs2 dp l1 d k  x1 cs1 (p5 &&& (3 : Int32)) (1 : Int32) _ (W.more (by decide) (by decide)) K0 Se S0 S1 S2 S1 Ol
        · refine g_icmpY W at_217 (pc' := 251) (by decide) (by decide) (Jvm.Free.XT.ii_ne_t c74) ?_
          refine g_iload W at_251 (pc' := 253) rfl rfl ?_
          refine g_ifN W at_253 (pc' := 256) rfl (Jvm.Free.XT.i0_eq_f (by decide)) ?_
          refine g_aload W at_256 (pc' := 258) rfl rfl rfl ?_
          refine g_goto W at_258 (pc' := 265) (by decide) (by decide) ?_
          refine g_astore W at_265 (pc' := 267) (L' := #[.val (.int p1), .val (.int p2), .val (.int p3), .val (.int p4), .val (.int p5), .val (.int (0 : Int32)), .val (.int dp), .val (.ref x0), .val (.ref x1), .val (.ref x2), .val (.ref u0), .val (.ref u1), .val (.ref u2), .val (.ref l1), .val (.int (p5 &&& (3 : Int32))), .val (.int (1 : Int32)), .val (.ref x2), .unset, .unset, .unset]) rfl rfl rfl ?_
          exact tail0 hw hEL Sc hzc p1 p2 p3 p4 p5 x0 x1 x2 u0 u1 u2 cs0 cs1 cs2 dp l1 d k  x2 cs2 (p5 &&& (3 : Int32)) (1 : Int32) _ (W.more (by decide) (by decide)) K0 Se S0 S1 S2 S2 Ol
set_option maxRecDepth 65536 in
set_option maxHeartbeats 40000000 in
theorem mid1 {l : Launch} {Z : State} {a0 : Array Value} (hw : ∀ d ∈ tables_1, d.before a0 Z = true) (hEL : EW Z a0 EL1) {zc : Int32} (Sc : Sta Z Z.heap "java/lang/String" "COMPACT_STRINGS" "Z" (.int zc)) (hzc : ¬ zc = 0) {p : Program} {e : Env} {s : State} {m : MethodId} {below : List Frame} {meth : Method} {c : Code} {h0 : Heap} {T : State} {fr : List Addr} (p1 p2 p3 p4 p5 : Int32) (x0 x1 x2 u0 u1 u2 : Addr) (cs0 cs1 cs2 : List Int32) (dp : Int32) (l1 d : Addr) (k : ClassId) (e0 : Addr) {el : Addr} (h : Heap) (W : Wk p l e room_1 s m #[(.int p1), (.int p2), (.int p3), (.int p4), (.int p5)] below meth c x code maxLocals ret Z a0 EL1 NW h0 T h fr 34 200) (K0 : Keep h0 h []) (Se : Sta Z Z.heap "java/util/ImmutableCollections" "EMPTY_LIST" "Ljava/util/ImmutableCollections$ListN;" (.ref el)) (S0 : Str Z h x0 cs0) (S1 : Str Z h x1 cs1) (S2 : Str Z h x2 cs2) (Ol : Obj Z h l1 "java/util/ArrayList" [(("java/util/AbstractList", "modCount", "I"), (.int (1 : Int32))), (("java/util/ArrayList", "elementData", "[Ljava/lang/Object;"), (.ref d)), (("java/util/ArrayList", "size", "I"), (.int (1 : Int32)))]) (Ad1 : Arv Z h d k (.object "java/lang/Object") (10 : Int32) [.ref e0, .null, .null, .null, .null, .null, .null, .null, .null, .null] .null) (Oe0 : Obj Z h e0 "com/example/config_into_context/configintocontext/XmlElement$Attribute" [(("com/example/config_into_context/configintocontext/XmlElement$Attribute", "namespace", "Ljava/lang/String;"), .null), (("com/example/config_into_context/configintocontext/XmlElement$Attribute", "localName", "Ljava/lang/String;"), (.ref x0)), (("com/example/config_into_context/configintocontext/XmlElement$Attribute", "name", "Ljava/lang/String;"), (.ref x0)), (("com/example/config_into_context/configintocontext/XmlElement$Attribute", "value", "Ljava/lang/String;"), (.ref u0))]) : Goes p e below s Z EL1 NW h0 [] (fun v _ => v = some (.int 1)) room_1 T (mkF m 153 #[.val (.int p1), .val (.int p2), .val (.int p3), .val (.int p4), .val (.int p5), .val (.int (1 : Int32)), .val (.int dp), .val (.ref x0), .val (.ref x1), .val (.ref x2), .val (.ref u0), .val (.ref u1), .val (.ref u2), .val (.ref l1), .unset, .unset, .unset, .unset, .unset, .unset] []) := by
  refine g_iload W at_153 (pc' := 155) rfl rfl ?_
  refine g_iconst W at_155 (pc' := 156) (v := (3 : Int32)) rfl rfl ?_
  refine g_iand W at_156 (pc' := 157) rfl ?_
  refine g_istore W at_157 (pc' := 159) (L' := #[.val (.int p1), .val (.int p2), .val (.int p3), .val (.int p4), .val (.int p5), .val (.int (1 : Int32)), .val (.int dp), .val (.ref x0), .val (.ref x1), .val (.ref x2), .val (.ref u0), .val (.ref u1), .val (.ref u2), .val (.ref l1), .val (.int (p5 &&& (3 : Int32))), .unset, .unset, .unset, .unset, .unset]) rfl rfl ?_
  refine g_iload W at_159 (pc' := 161) rfl rfl ?_
  refine g_iconst W at_161 (pc' := 162) (v := (2 : Int32)) rfl rfl ?_
  refine g_iushr W at_162 (pc' := 163) rfl ?_
  refine g_iconst W at_163 (pc' := 164) (v := (1 : Int32)) rfl rfl ?_
  refine g_iand W at_164 (pc' := 165) rfl ?_
  by_cases c1 : (((p5.toUInt32 >>> ((2 : Int32) &&& 31).toUInt32).toInt32) &&& (1 : Int32)) = 0
  · refine g_ifY W at_165 (pc' := 172) (by decide) (by decide) (Jvm.Free.XT.i0_eq_t c1) ?_
    refine g_iconst W at_172 (pc' := 173) (v := (0 : Int32)) rfl rfl ?_
    refine g_istore W at_173 (pc' := 175) (L' := #[.val (.int p1), .val (.int p2), .val (.int p3), .val (.int p4), .val (.int p5), .val (.int (1 : Int32)), .val (.int dp), .val (.ref x0), .val (.ref x1), .val (.ref x2), .val (.ref u0), .val (.ref u1), .val (.ref u2), .val (.ref l1), .val (.int (p5 &&& (3 : Int32))), .val (.int (0 : Int32)), .unset, .unset, .unset, .unset]) rfl rfl ?_
    refine g_iload W at_175 (pc' := 177) rfl rfl ?_
    by_cases c2 : (p5 &&& (3 : Int32)) = 0
    · refine g_ifN W at_177 (pc' := 180) rfl (Jvm.Free.XT.i0_ne_f c2) ?_
      refine g_iload_n W at_180 (pc' := 181) rfl rfl ?_
      refine g_static W at_181 (pc' := 184) (fr' := []) (argsL := [(.int p4)]) (rest := []) (Wd := 0) (kc := 6) (ks := 16) rfl (hw _ (List.mem_of_getElem? (i := 0) rfl)) (hw _ (List.mem_of_getElem? (i := 1) rfl)) (hw _ (List.mem_of_getElem? (i := 2) rfl)) (hw _ (List.mem_of_getElem? (i := 3) rfl)) (by decide) rfl rfl (lenOf pd_15 rfl) rfl all0 (by decide) (by decide) (Met.pays (rm_mk hw hEL Sc hzc p4 _ W.ext) (hw _ (List.mem_of_getElem? (i := 3) rfl)) (hw _ (List.mem_of_getElem? (i := 2) rfl)) hEL (by decide) (by decide)) fun v8 T3 h5 W4 K6 q7 => ?_
      obtain ⟨q, csq, rfl, Sq⟩ := q7
      show Goes _ _ _ _ _ _ _ _ _ _ _ T3 (mkF m 184 #[.val (.int p1), .val (.int p2), .val (.int p3), .val (.int p4), .val (.int p5), .val (.int (1 : Int32)), .val (.int dp), .val (.ref x0), .val (.ref x1), .val (.ref x2), .val (.ref u0), .val (.ref u1), .val (.ref u2), .val (.ref l1), .val (.int (p5 &&& (3 : Int32))), .val (.int (0 : Int32)), .unset, .unset, .unset, .unset] [(.ref q)])
      refine g_astore W4 at_184 (pc' := 186) (L' := #[.val (.int p1), .val (.int p2), .val (.int p3), .val (.int p4), .val (.int p5), .val (.int (1 : Int32)), .val (.int dp), .val (.ref x0), .val (.ref x1), .val (.ref x2), .val (.ref u0), .val (.ref u1), .val (.ref u2), .val (.ref l1), .val (.int (p5 &&& (3 : Int32))), .val (.int (0 : Int32)), .val (.ref q), .unset, .unset, .unset]) rfl rfl rfl ?_
      refine g_goto W4 at_186 (pc' := 267) (by decide) (by decide) ?_
      have K9 : Keep h h5 [] := ((Keep.refl h []).trans K6 fun _ q => nomatch q)
      have F10 := S0.mv K9
      have F11 := S1.mv K9
      have F12 := S2.mv K9
      have F13 := Ol.mv K9
      have F14 := Ad1.mv K9
      have F15 := Oe0.mv K9
      exact tail1 hw hEL Sc hzc p1 p2 p3 p4 p5 x0 x1 x2 u0 u1 u2 cs0 cs1 cs2 dp l1 d k e0 q csq (p5 &&& (3 : Int32)) (0 : Int32) _ (W4.more (by decide) (by decide)) (K0.trans K9 fun _ q => nomatch q) Se F10 F11 F12 Sq F13 F14 F15
    · refine g_ifY W at_177 (pc' := 189) (by decide) (by decide) (Jvm.Free.XT.i0_ne_t c2) ?_
      refine g_iload W at_189 (pc' := 191) rfl rfl ?_
      refine g_iconst W at_191 (pc' := 192) (v := (1 : Int32)) rfl rfl ?_
      by_cases c16 : (p5 &&& (3 : Int32)) = (1 : Int32)
      · refine g_icmpN W at_192 (pc' := 195) rfl (Jvm.Free.XT.ii_ne_f c16) ?_
        refine g_iload W at_195 (pc' := 197) rfl rfl ?_
        refine g_ifY W at_197 (pc' := 205) (by decide) (by decide) (Jvm.Free.XT.i0_eq_t rfl) ?_
        refine g_iload_n W at_205 (pc' := 206) rfl rfl ?_
        refine g_static W at_206 (pc' := 209) (fr' := []) (argsL := [(.int p1)]) (rest := []) (Wd := 0) (kc := 6) (ks := 16) rfl (hw _ (List.mem_of_getElem? (i := 0) rfl)) (hw _ (List.mem_of_getElem? (i := 1) rfl)) (hw _ (List.mem_of_getElem? (i := 2) rfl)) (hw _ (List.mem_of_getElem? (i := 3) rfl)) (by decide) rfl rfl (lenOf pd_15 rfl) rfl all0 (by decide) (by decide) (Met.pays (rm_mk hw hEL Sc hzc p1 _ W.ext) (hw _ (List.mem_of_getElem? (i := 3) rfl)) (hw _ (List.mem_of_getElem? (i := 2) rfl)) hEL (by decide) (by decide)) fun v22 T17 h19 W18 K20 q21 => ?_
        obtain ⟨q, csq, rfl, Sq⟩ := q21
        show Goes _ _ _ _ _ _ _ _ _ _ _ T17 (mkF m 209 #[.val (.int p1), .val (.int p2), .val (.int p3), .val (.int p4), .val (.int p5), .val (.int (1 : Int32)), .val (.int dp), .val (.ref x0), .val (.ref x1), .val (.ref x2), .val (.ref u0), .val (.ref u1), .val (.ref u2), .val (.ref l1), .val (.int (p5 &&& (3 : Int32))), .val (.int (0 : Int32)), .unset, .unset, .unset, .unset] [(.ref q)])
        refine g_astore W18 at_209 (pc' := 211) (L' := #[.val (.int p1), .val (.int p2), .val (.int p3), .val (.int p4), .val (.int p5), .val (.int (1 : Int32)), .val (.int dp), .val (.ref x0), .val (.ref x1), .val (.ref x2), .val (.ref u0), .val (.ref u1), .val (.ref u2), .val (.ref l1), .val (.int (p5 &&& (3 : Int32))), .val (.int (0 : Int32)), .val (.ref q), .unset, .unset, .unset]) rfl rfl rfl ?_
        refine g_goto W18 at_211 (pc' := 267) (by decide) (by decide) ?_
        have K23 : Keep h h19 [] := ((Keep.refl h []).trans K20 fun _ q => nomatch q)
        have F24 := S0.mv K23
        have F25 := S1.mv K23
        have F26 := S2.mv K23
        have F27 := Ol.mv K23
        have F28 := Ad1.mv K23
        have F29 := Oe0.mv K23
        exact tail1 hw hEL Sc hzc p1 p2 p3 p4 p5 x0 x1 x2 u0 u1 u2 cs0 cs1 cs2 dp l1 d k e0 q csq (p5 &&& (3 : Int32)) (0 : Int32) _ (W18.more (by decide) (by decide)) (K0.trans K23 fun _ q => nomatch q) Se F24 F25 F26 Sq F27 F28 F29
      · refine g_icmpY W at_192 (pc' := 214) (by decide) (by decide) (Jvm.Free.XT.ii_ne_t c16) ?_
        refine g_iload W at_214 (pc' := 216) rfl rfl ?_
        refine g_iconst W at_216 (pc' := 217) (v := (2 : Int32)) rfl rfl ?_
        by_cases c30 : (p5 &&& (3 : Int32)) = (2 : Int32)
        · refine g_icmpN W at_217 (pc' := 220) rfl (Jvm.Free.XT.ii_ne_f c30) ?_
          refine g_iload W at_220 (pc' := 222) rfl rfl ?_
          refine g_ifY W at_222 (pc' := 230) (by decide) (by decide) (Jvm.Free.XT.i0_eq_t rfl) ?_
          refine g_iload W at_230 (pc' := 232) rfl rfl ?_
          by_cases c31 : dp = 0
          · refine g_ifY W at_232 (pc' := 242) (by decide) (by decide) (Jvm.Free.XT.i0_eq_t c31) ?_
            refine g_iload_n W at_242 (pc' := 243) rfl rfl ?_
            refine g_static W at_243 (pc' := 246) (fr' := []) (argsL := [(.int p2)]) (rest := []) (Wd := 0) (kc := 6) (ks := 16) rfl (hw _ (List.mem_of_getElem? (i := 0) rfl)) (hw _ (List.mem_of_getElem? (i := 1) rfl)) (hw _ (List.mem_of_getElem? (i := 2) rfl)) (hw _ (List.mem_of_getElem? (i := 3) rfl)) (by decide) rfl rfl (lenOf pd_15 rfl) rfl all0 (by decide) (by decide) (Met.pays (rm_mk hw hEL Sc hzc p2 _ W.ext) (hw _ (List.mem_of_getElem? (i := 3) rfl)) (hw _ (List.mem_of_getElem? (i := 2) rfl)) hEL (by decide) (by decide)) fun v37 T32 h34 W33 K35 q36 => ?_
            obtain ⟨q, csq, rfl, Sq⟩ := q36
            show Goes _ _ _ _ _ _ _ _ _ _ _ T32 (mkF m 246 #[.val (.int p1), .val (.int p2), .val (.int p3), .val (.int p4), .val (.int p5), .val (.int (1 : Int32)), .val (.int dp), .val (.ref x0), .val (.ref x1), .val (.ref x2), .val (.ref u0), .val (.ref u1), .val (.ref u2), .val (.ref l1), .val (.int (p5 &&& (3 : Int32))), .val (.int (0 : Int32)), .unset, .unset, .unset, .unset] [(.ref q)])
            refine g_astore W33 at_246 (pc' := 248) (L' := #[.val (.int p1), .val (.int p2), .val (.int p3), .val (.int p4), .val (.int p5), .val (.int (1 : Int32)), .val (.int dp), .val (.ref x0), .val (.ref x1), .val (.ref x2), .val (.ref u0), .val (.ref u1), .val (.ref u2), .val (.ref l1), .val (.int (p5 &&& (3 : Int32))), .val (.int (0 : Int32)), .val (.ref q), .unset, .unset, .unset]) rfl rfl rfl ?_
            refine g_goto W33 at_248 (pc' := 267) (by decide) (by decide) ?_
            have K38 : Keep h h34 [] := ((Keep.refl h []).trans K35 fun _ q => nomatch q)
            have F39 := S0.mv K38
            have F40 := S1.mv K38
            have F41 := S2.mv K38
            have F42 := Ol.mv K38
            have F43 := Ad1.mv K38
            have F44 := Oe0.mv K38
            exact tail1 hw hEL Sc hzc p1 p2 p3 p4 p5 x0 x1 x2 u0 u1 u2 cs0 cs1 cs2 dp l1 d k e0 q csq (p5 &&& (3 : Int32)) (0 : Int32) _ (W33.more (by decide) (by decide)) (K0.trans K38 fun _ q => nomatch q) Se F39 F40 F41 Sq F42 F43 F44
          · refine g_ifN W at_232 (pc' := 235) rfl (Jvm.Free.XT.i0_eq_f c31) ?_
            refine g_iload_n W at_235 (pc' := 236) rfl rfl ?_
            refine g_static W at_236 (pc' := 239) (fr' := []) (argsL := [(.int p1)]) (rest := []) (Wd := 0) (kc := 6) (ks := 16) rfl (hw _ (List.mem_of_getElem? (i := 0) rfl)) (hw _ (List.mem_of_getElem? (i := 1) rfl)) (hw _ (List.mem_of_getElem? (i := 2) rfl)) (hw _ (List.mem_of_getElem? (i := 3) rfl)) (by decide) rfl rfl (lenOf pd_15 rfl) rfl all0 (by decide) (by decide) (Met.pays (rm_mk hw hEL Sc hzc p1 _ W.ext) (hw _ (List.mem_of_getElem? (i := 3) rfl)) (hw _ (List.mem_of_getElem? (i := 2) rfl)) hEL (by decide) (by decide)) fun v50 T45 h47 W46 K48 q49 => ?_
            obtain ⟨q, csq, rfl, Sq⟩ := q49
            show Goes _ _ _ _ _ _ _ _ _ _ _ T45 (mkF m 239 #[.val (.int p1), .val (.int p2), .val (.int p3), .val (.int p4), .val (.int p5), .val (.int (1 : Int32)), .val (.int dp), .val (.ref x0), .val (.ref x1), .val (.ref x2), .val (.ref u0), .val (.ref u1), .val (.ref u2), .val (.ref l1), .val (.int (p5 &&& (3 : Int32))), .val (.int (0 : Int32)), .unset, .unset, .unset, .unset] [(.ref q)])
            refine g_goto W46 at_239 (pc' := 246) (by decide) (by decide) ?_
            refine g_astore W46 at_246 (pc' := 248) (L' := #[.val (.int p1), .val (.int p2), .val (.int p3), .val (.int p4), .val (.int p5), .val (.int (1 : Int32)), .val (.int dp), .val (.ref x0), .val (.ref x1), .val (.ref x2), .val (.ref u0), .val (.ref u1), .val (.ref u2), .val (.ref l1), .val (.int (p5 &&& (3 : Int32))), .val (.int (0 : Int32)), .val (.ref q), .unset, .unset, .unset]) rfl rfl rfl ?_
            refine g_goto W46 at_248 (pc' := 267) (by decide) (by decide) ?_
            have K51 : Keep h h47 [] := ((Keep.refl h []).trans K48 fun _ q => nomatch q)
            have F52 := S0.mv K51
            have F53 := S1.mv K51
            have F54 := S2.mv K51
            have F55 := Ol.mv K51
            have F56 := Ad1.mv K51
            have F57 := Oe0.mv K51
            exact tail1 hw hEL Sc hzc p1 p2 p3 p4 p5 x0 x1 x2 u0 u1 u2 cs0 cs1 cs2 dp l1 d k e0 q csq (p5 &&& (3 : Int32)) (0 : Int32) _ (W46.more (by decide) (by decide)) (K0.trans K51 fun _ q => nomatch q) Se F52 F53 F54 Sq F55 F56 F57
        · refine g_icmpY W at_217 (pc' := 251) (by decide) (by decide) (Jvm.Free.XT.ii_ne_t c30) ?_
          refine g_iload W at_251 (pc' := 253) rfl rfl ?_
          refine g_ifY W at_253 (pc' := 261) (by decide) (by decide) (Jvm.Free.XT.i0_eq_t rfl) ?_
          refine g_iload_n W at_261 (pc' := 262) rfl rfl ?_
          refine g_static W at_262 (pc' := 265) (fr' := []) (argsL := [(.int p3)]) (rest := []) (Wd := 0) (kc := 6) (ks := 16) rfl (hw _ (List.mem_of_getElem? (i := 0) rfl)) (hw _ (List.mem_of_getElem? (i := 1) rfl)) (hw _ (List.mem_of_getElem? (i := 2) rfl)) (hw _ (List.mem_of_getElem? (i := 3) rfl)) (by decide) rfl rfl (lenOf pd_15 rfl) rfl all0 (by decide) (by decide) (Met.pays (rm_mk hw hEL Sc hzc p3 _ W.ext) (hw _ (List.mem_of_getElem? (i := 3) rfl)) (hw _ (List.mem_of_getElem? (i := 2) rfl)) hEL (by decide) (by decide)) fun v63 T58 h60 W59 K61 q62 => ?_
          obtain ⟨q, csq, rfl, Sq⟩ := q62
          show Goes _ _ _ _ _ _ _ _ _ _ _ T58 (mkF m 265 #[.val (.int p1), .val (.int p2), .val (.int p3), .val (.int p4), .val (.int p5), .val (.int (1 : Int32)), .val (.int dp), .val (.ref x0), .val (.ref x1), .val (.ref x2), .val (.ref u0), .val (.ref u1), .val (.ref u2), .val (.ref l1), .val (.int (p5 &&& (3 : Int32))), .val (.int (0 : Int32)), .unset, .unset, .unset, .unset] [(.ref q)])
          refine g_astore W59 at_265 (pc' := 267) (L' := #[.val (.int p1), .val (.int p2), .val (.int p3), .val (.int p4), .val (.int p5), .val (.int (1 : Int32)), .val (.int dp), .val (.ref x0), .val (.ref x1), .val (.ref x2), .val (.ref u0), .val (.ref u1), .val (.ref u2), .val (.ref l1), .val (.int (p5 &&& (3 : Int32))), .val (.int (0 : Int32)), .val (.ref q), .unset, .unset, .unset]) rfl rfl rfl ?_
          have K64 : Keep h h60 [] := ((Keep.refl h []).trans K61 fun _ q => nomatch q)
          have F65 := S0.mv K64
          have F66 := S1.mv K64
          have F67 := S2.mv K64
          have F68 := Ol.mv K64
          have F69 := Ad1.mv K64
          have F70 := Oe0.mv K64
          exact tail1 hw hEL Sc hzc p1 p2 p3 p4 p5 x0 x1 x2 u0 u1 u2 cs0 cs1 cs2 dp l1 d k e0 q csq (p5 &&& (3 : Int32)) (0 : Int32) _ (W59.more (by decide) (by decide)) (K0.trans K64 fun _ q => nomatch q) Se F65 F66 F67 Sq F68 F69 F70
  · refine g_ifN W at_165 (pc' := 168) rfl (Jvm.Free.XT.i0_eq_f c1) ?_
    refine g_iconst W at_168 (pc' := 169) (v := (1 : Int32)) rfl rfl ?_
    refine g_goto W at_169 (pc' := 173) (by decide) (by decide) ?_
    refine g_istore W at_173 (pc' := 175) (L' := #[.val (.int p1), .val (.int p2), .val (.int p3), .val (.int p4), .val (.int p5), .val (.int (1 : Int32)), .val (.int dp), .val (.ref x0), .val (.ref x1), .val (.ref x2), .val (.ref u0), .val (.ref u1), .val (.ref u2), .val (.ref l1), .val (.int (p5 &&& (3 : Int32))), .val (.int (1 : Int32)), .unset, .unset, .unset, .unset]) rfl rfl ?_
    refine g_iload W at_175 (pc' := 177) rfl rfl ?_
    by_cases c71 : (p5 &&& (3 : Int32)) = 0
    · refine g_ifN W at_177 (pc' := 180) rfl (Jvm.Free.XT.i0_ne_f c71) ?_
      refine g_iload_n W at_180 (pc' := 181) rfl rfl ?_
      refine g_static W at_181 (pc' := 184) (fr' := []) (argsL := [(.int p4)]) (rest := []) (Wd := 0) (kc := 6) (ks := 16) rfl (hw _ (List.mem_of_getElem? (i := 0) rfl)) (hw _ (List.mem_of_getElem? (i := 1) rfl)) (hw _ (List.mem_of_getElem? (i := 2) rfl)) (hw _ (List.mem_of_getElem? (i := 3) rfl)) (by decide) rfl rfl (lenOf pd_15 rfl) rfl all0 (by decide) (by decide) (Met.pays (rm_mk hw hEL Sc hzc p4 _ W.ext) (hw _ (List.mem_of_getElem? (i := 3) rfl)) (hw _ (List.mem_of_getElem? (i := 2) rfl)) hEL (by decide) (by decide)) fun v77 T72 h74 W73 K75 q76 => ?_
      obtain ⟨q, csq, rfl, Sq⟩ := q76
      show Goes _ _ _ _ _ _ _ _ _ _ _ T72 (mkF m 184 #[.val (.int p1), .val (.int p2), .val (.int p3), .val (.int p4), .val (.int p5), .val (.int (1 : Int32)), .val (.int dp), .val (.ref x0), .val (.ref x1), .val (.ref x2), .val (.ref u0), .val (.ref u1), .val (.ref u2), .val (.ref l1), .val (.int (p5 &&& (3 : Int32))), .val (.int (1 : Int32)), .unset, .unset, .unset, .unset] [(.ref q)])
      refine g_astore W73 at_184 (pc' := 186) (L' := #[.val (.int p1), .val (.int p2), .val (.int p3), .val (.int p4), .val (.int p5), .val (.int (1 : Int32)), .val (.int dp), .val (.ref x0), .val (.ref x1), .val (.ref x2), .val (.ref u0), .val (.ref u1), .val (.ref u2), .val (.ref l1), .val (.int (p5 &&& (3 : Int32))), .val (.int (1 : Int32)), .val (.ref q), .unset, .unset, .unset]) rfl rfl rfl ?_
      refine g_goto W73 at_186 (pc' := 267) (by decide) (by decide) ?_
      have K78 : Keep h h74 [] := ((Keep.refl h []).trans K75 fun _ q => nomatch q)
      have F79 := S0.mv K78
      have F80 := S1.mv K78
      have F81 := S2.mv K78
      have F82 := Ol.mv K78
      have F83 := Ad1.mv K78
      have F84 := Oe0.mv K78
      exact tail1 hw hEL Sc hzc p1 p2 p3 p4 p5 x0 x1 x2 u0 u1 u2 cs0 cs1 cs2 dp l1 d k e0 q csq (p5 &&& (3 : Int32)) (1 : Int32) _ (W73.more (by decide) (by decide)) (K0.trans K78 fun _ q => nomatch q) Se F79 F80 F81 Sq F82 F83 F84
    · refine g_ifY W at_177 (pc' := 189) (by decide) (by decide) (Jvm.Free.XT.i0_ne_t c71) ?_
      refine g_iload W at_189 (pc' := 191) rfl rfl ?_
      refine g_iconst W at_191 (pc' := 192) (v := (1 : Int32)) rfl rfl ?_
      by_cases c85 : (p5 &&& (3 : Int32)) = (1 : Int32)
      · refine g_icmpN W at_192 (pc' := 195) rfl (Jvm.Free.XT.ii_ne_f c85) ?_
        refine g_iload W at_195 (pc' := 197) rfl rfl ?_
        refine g_ifN W at_197 (pc' := 200) rfl (Jvm.Free.XT.i0_eq_f (by decide)) ?_
        refine g_aload W at_200 (pc' := 202) rfl rfl rfl ?_
        refine g_goto W at_202 (pc' := 209) (by decide) (by decide) ?_
        refine g_astore W at_209 (pc' := 211) (L' := #[.val (.int p1), .val (.int p2), .val (.int p3), .val (.int p4), .val (.int p5), .val (.int (1 : Int32)), .val (.int dp), .val (.ref x0), .val (.ref x1), .val (.ref x2), .val (.ref u0), .val (.ref u1), .val (.ref u2), .val (.ref l1), .val (.int (p5 &&& (3 : Int32))), .val (.int (1 : Int32)), .val (.ref x0), .unset, .unset, .unset]) rfl rfl rfl ?_
        refine g_goto W at_211 (pc' := 267) (by decide) (by decide) ?_
        exact tail1 hw hEL Sc hzc p1 p2 p3 p4 p5 x0 x1 x2 u0 u1 u2 cs0 cs1 cs2 dp l1 d k e0 x0 cs0 (p5 &&& (3 : Int32)) (1 : Int32) _ (W.more (by decide) (by decide)) K0 Se S0 S1 S2 S0 Ol Ad1 Oe0
      · refine g_icmpY W at_192 (pc' := 214) (by decide) (by decide) (Jvm.Free.XT.ii_ne_t c85) ?_
        refine g_iload W at_214 (pc' := 216) rfl rfl ?_
        refine g_iconst W at_216 (pc' := 217) (v := (2 : Int32)) rfl rfl ?_
        by_cases c86 : (p5 &&& (3 : Int32)) = (2 : Int32)
        · refine g_icmpN W at_217 (pc' := 220) rfl (Jvm.Free.XT.ii_ne_f c86) ?_
          refine g_iload W at_220 (pc' := 222) rfl rfl ?_
          refine g_ifN W at_222 (pc' := 225) rfl (Jvm.Free.XT.i0_eq_f (by decide)) ?_
          refine g_aload W at_225 (pc' := 227) rfl rfl rfl ?_
          refine g_goto W at_227 (pc' := 246) (by decide) (by decide) ?_
          refine g_astore W at_246 (pc' := 248) (L' := #[.val (.int p1), .val (.int p2), .val (.int p3), .val (.int p4), .val (.int p5), .val (.int (1 : Int32)), .val (.int dp), .val (.ref x0), .val (.ref x1), .val (.ref x2), .val (.ref u0), .val (.ref u1), .val (.ref u2), .val (.ref l1), .val (.int (p5 &&& (3 : Int32))), .val (.int (1 : Int32)), .val (.ref x1), .unset, .unset, .unset]) rfl rfl rfl ?_
          refine g_goto W at_248 (pc' := 267) (by decide) (by decide) ?_
          exact tail1 hw hEL Sc hzc p1 p2 p3 p4 p5 x0 x1 x2 u0 u1 u2 cs0 cs1 cs2 dp l1 d k e0 x1 cs1 (p5 &&& (3 : Int32)) (1 : Int32) _ (W.more (by decide) (by decide)) K0 Se S0 S1 S2 S1 Ol Ad1 Oe0
        · refine g_icmpY W at_217 (pc' := 251) (by decide) (by decide) (Jvm.Free.XT.ii_ne_t c86) ?_
          refine g_iload W at_251 (pc' := 253) rfl rfl ?_
          refine g_ifN W at_253 (pc' := 256) rfl (Jvm.Free.XT.i0_eq_f (by decide)) ?_
          refine g_aload W at_256 (pc' := 258) rfl rfl rfl ?_
          refine g_goto W at_258 (pc' := 265) (by decide) (by decide) ?_
          refine g_astore W at_265 (pc' := 267) (L' := #[.val (.int p1), .val (.int p2), .val (.int p3), .val (.int p4), .val (.int p5), .val (.int (1 : Int32)), .val (.int dp), .val (.ref x0), .val (.ref x1), .val (.ref x2), .val (.ref u0), .val (.ref u1), .val (.ref u2), .val (.ref l1), .val (.int (p5 &&& (3 : Int32))), .val (.int (1 : Int32)), .val (.ref x2), .unset, .unset, .unset]) rfl rfl rfl ?_
          exact tail1 hw hEL Sc hzc p1 p2 p3 p4 p5 x0 x1 x2 u0 u1 u2 cs0 cs1 cs2 dp l1 d k e0 x2 cs2 (p5 &&& (3 : Int32)) (1 : Int32) _ (W.more (by decide) (by decide)) K0 Se S0 S1 S2 S2 Ol Ad1 Oe0
set_option maxRecDepth 65536 in
set_option maxHeartbeats 40000000 in
theorem mid2 {l : Launch} {Z : State} {a0 : Array Value} (hw : ∀ d ∈ tables_1, d.before a0 Z = true) (hEL : EW Z a0 EL1) {zc : Int32} (Sc : Sta Z Z.heap "java/lang/String" "COMPACT_STRINGS" "Z" (.int zc)) (hzc : ¬ zc = 0) {p : Program} {e : Env} {s : State} {m : MethodId} {below : List Frame} {meth : Method} {c : Code} {h0 : Heap} {T : State} {fr : List Addr} (p1 p2 p3 p4 p5 : Int32) (x0 x1 x2 u0 u1 u2 : Addr) (cs0 cs1 cs2 : List Int32) (dp : Int32) (l1 d : Addr) (k : ClassId) (e0 : Addr) (e1 : Addr) {el : Addr} (h : Heap) (W : Wk p l e room_1 s m #[(.int p1), (.int p2), (.int p3), (.int p4), (.int p5)] below meth c x code maxLocals ret Z a0 EL1 NW h0 T h fr 34 200) (K0 : Keep h0 h []) (Se : Sta Z Z.heap "java/util/ImmutableCollections" "EMPTY_LIST" "Ljava/util/ImmutableCollections$ListN;" (.ref el)) (S0 : Str Z h x0 cs0) (S1 : Str Z h x1 cs1) (S2 : Str Z h x2 cs2) (Ol : Obj Z h l1 "java/util/ArrayList" [(("java/util/AbstractList", "modCount", "I"), (.int (2 : Int32))), (("java/util/ArrayList", "elementData", "[Ljava/lang/Object;"), (.ref d)), (("java/util/ArrayList", "size", "I"), (.int (2 : Int32)))]) (Ad1 : Arv Z h d k (.object "java/lang/Object") (10 : Int32) [.ref e0, .ref e1, .null, .null, .null, .null, .null, .null, .null, .null] .null) (Oe0 : Obj Z h e0 "com/example/config_into_context/configintocontext/XmlElement$Attribute" [(("com/example/config_into_context/configintocontext/XmlElement$Attribute", "namespace", "Ljava/lang/String;"), .null), (("com/example/config_into_context/configintocontext/XmlElement$Attribute", "localName", "Ljava/lang/String;"), (.ref x0)), (("com/example/config_into_context/configintocontext/XmlElement$Attribute", "name", "Ljava/lang/String;"), (.ref x0)), (("com/example/config_into_context/configintocontext/XmlElement$Attribute", "value", "Ljava/lang/String;"), (.ref u0))]) (Oe1 : Obj Z h e1 "com/example/config_into_context/configintocontext/XmlElement$Attribute" [(("com/example/config_into_context/configintocontext/XmlElement$Attribute", "namespace", "Ljava/lang/String;"), .null), (("com/example/config_into_context/configintocontext/XmlElement$Attribute", "localName", "Ljava/lang/String;"), (.ref x1)), (("com/example/config_into_context/configintocontext/XmlElement$Attribute", "name", "Ljava/lang/String;"), (.ref x1)), (("com/example/config_into_context/configintocontext/XmlElement$Attribute", "value", "Ljava/lang/String;"), (.ref u1))]) : Goes p e below s Z EL1 NW h0 [] (fun v _ => v = some (.int 1)) room_1 T (mkF m 153 #[.val (.int p1), .val (.int p2), .val (.int p3), .val (.int p4), .val (.int p5), .val (.int (2 : Int32)), .val (.int dp), .val (.ref x0), .val (.ref x1), .val (.ref x2), .val (.ref u0), .val (.ref u1), .val (.ref u2), .val (.ref l1), .unset, .unset, .unset, .unset, .unset, .unset] []) := by
  refine g_iload W at_153 (pc' := 155) rfl rfl ?_
  refine g_iconst W at_155 (pc' := 156) (v := (3 : Int32)) rfl rfl ?_
  refine g_iand W at_156 (pc' := 157) rfl ?_
  refine g_istore W at_157 (pc' := 159) (L' := #[.val (.int p1), .val (.int p2), .val (.int p3), .val (.int p4), .val (.int p5), .val (.int (2 : Int32)), .val (.int dp), .val (.ref x0), .val (.ref x1), .val (.ref x2), .val (.ref u0), .val (.ref u1), .val (.ref u2), .val (.ref l1), .val (.int (p5 &&& (3 : Int32))), .unset, .unset, .unset, .unset, .unset]) rfl rfl ?_
  refine g_iload W at_159 (pc' := 161) rfl rfl ?_
  refine g_iconst W at_161 (pc' := 162) (v := (2 : Int32)) rfl rfl ?_
  refine g_iushr W at_162 (pc' := 163) rfl ?_
  refine g_iconst W at_163 (pc' := 164) (v := (1 : Int32)) rfl rfl ?_
  refine g_iand W at_164 (pc' := 165) rfl ?_
  by_cases c1 : (((p5.toUInt32 >>> ((2 : Int32) &&& 31).toUInt32).toInt32) &&& (1 : Int32)) = 0
  · refine g_ifY W at_165 (pc' := 172) (by decide) (by decide) (Jvm.Free.XT.i0_eq_t c1) ?_
    refine g_iconst W at_172 (pc' := 173) (v := (0 : Int32)) rfl rfl ?_
    refine g_istore W at_173 (pc' := 175) (L' := #[.val (.int p1), .val (.int p2), .val (.int p3), .val (.int p4), .val (.int p5), .val (.int (2 : Int32)), .val (.int dp), .val (.ref x0), .val (.ref x1), .val (.ref x2), .val (.ref u0), .val (.ref u1), .val (.ref u2), .val (.ref l1), .val (.int (p5 &&& (3 : Int32))), .val (.int (0 : Int32)), .unset, .unset, .unset, .unset]) rfl rfl ?_
    refine g_iload W at_175 (pc' := 177) rfl rfl ?_
    by_cases c2 : (p5 &&& (3 : Int32)) = 0
    · refine g_ifN W at_177 (pc' := 180) rfl (Jvm.Free.XT.i0_ne_f c2) ?_
      refine g_iload_n W at_180 (pc' := 181) rfl rfl ?_
      refine g_static W at_181 (pc' := 184) (fr' := []) (argsL := [(.int p4)]) (rest := []) (Wd := 0) (kc := 6) (ks := 16) rfl (hw _ (List.mem_of_getElem? (i := 0) rfl)) (hw _ (List.mem_of_getElem? (i := 1) rfl)) (hw _ (List.mem_of_getElem? (i := 2) rfl)) (hw _ (List.mem_of_getElem? (i := 3) rfl)) (by decide) rfl rfl (lenOf pd_15 rfl) rfl all0 (by decide) (by decide) (Met.pays (rm_mk hw hEL Sc hzc p4 _ W.ext) (hw _ (List.mem_of_getElem? (i := 3) rfl)) (hw _ (List.mem_of_getElem? (i := 2) rfl)) hEL (by decide) (by decide)) fun v8 T3 h5 W4 K6 q7 => ?_
      obtain ⟨q, csq, rfl, Sq⟩ := q7
      show Goes _ _ _ _ _ _ _ _ _ _ _ T3 (mkF m 184 #[.val (.int p1), .val (.int p2), .val (.int p3), .val (.int p4), .val (.int p5), .val (.int (2 : Int32)), .val (.int dp), .val (.ref x0), .val (.ref x1), .val (.ref x2), .val (.ref u0), .val (.ref u1), .val (.ref u2), .val (.ref l1), .val (.int (p5 &&& (3 : Int32))), .val (.int (0 : Int32)), .unset, .unset, .unset, .unset] [(.ref q)])
      refine g_astore W4 at_184 (pc' := 186) (L' := #[.val (.int p1), .val (.int p2), .val (.int p3), .val (.int p4), .val (.int p5), .val (.int (2 : Int32)), .val (.int dp), .val (.ref x0), .val (.ref x1), .val (.ref x2), .val (.ref u0), .val (.ref u1), .val (.ref u2), .val (.ref l1), .val (.int (p5 &&& (3 : Int32))), .val (.int (0 : Int32)), .val (.ref q), .unset, .unset, .unset]) rfl rfl rfl ?_
      refine g_goto W4 at_186 (pc' := 267) (by decide) (by decide) ?_
      have K9 : Keep h h5 [] := ((Keep.refl h []).trans K6 fun _ q => nomatch q)
      have F10 := S0.mv K9
      have F11 := S1.mv K9
      have F12 := S2.mv K9
      have F13 := Ol.mv K9
      have F14 := Ad1.mv K9
      have F15 := Oe0.mv K9
      have F16 := Oe1.mv K9
      exact tail2 hw hEL Sc hzc p1 p2 p3 p4 p5 x0 x1 x2 u0 u1 u2 cs0 cs1 cs2 dp l1 d k e0 e1 q csq (p5 &&& (3 : Int32)) (0 : Int32) _ (W4.more (by decide) (by decide)) (K0.trans K9 fun _ q => nomatch q) Se F10 F11 F12 Sq F13 F14 F15 F16
    · refine g_ifY W at_177 (pc' := 189) (by decide) (by decide) (Jvm.Free.XT.i0_ne_t c2) ?_
      refine g_iload W at_189 (pc' := 191) rfl rfl ?_
      refine g_iconst W at_191 (pc' := 192) (v := (1 : Int32)) rfl rfl ?_
      by_cases c17 : (p5 &&& (3 : Int32)) = (1 : Int32)
      · refine g_icmpN W at_192 (pc' := 195) rfl (Jvm.Free.XT.ii_ne_f c17) ?_
        refine g_iload W at_195 (pc' := 197) rfl rfl ?_
        refine g_ifY W at_197 (pc' := 205) (by decide) (by decide) (Jvm.Free.XT.i0_eq_t rfl) ?_
        refine g_iload_n W at_205 (pc' := 206) rfl rfl ?_
        refine g_static W at_206 (pc' := 209) (fr' := []) (argsL := [(.int p1)]) (rest := []) (Wd := 0) (kc := 6) (ks := 16) rfl (hw _ (List.mem_of_getElem? (i := 0) rfl)) (hw _ (List.mem_of_getElem? (i := 1) rfl)) (hw _ (List.mem_of_getElem? (i := 2) rfl)) (hw _ (List.mem_of_getElem? (i := 3) rfl)) (by decide) rfl rfl (lenOf pd_15 rfl) rfl all0 (by decide) (by decide) (Met.pays (rm_mk hw hEL Sc hzc p1 _ W.ext) (hw _ (List.mem_of_getElem? (i := 3) rfl)) (hw _ (List.mem_of_getElem? (i := 2) rfl)) hEL (by decide) (by decide)) fun v23 T18 h20 W19 K21 q22 => ?_
        obtain ⟨q, csq, rfl, Sq⟩ := q22
        show Goes _ _ _ _ _ _ _ _ _ _ _ T18 (mkF m 209 #[.val (.int p1), .val (.int p2), .val (.int p3), .val (.int p4), .val (.int p5), .val (.int (2 : Int32)), .val (.int dp), .val (.ref x0), .val (.ref x1), .val (.ref x2), .val (.ref u0), .val (.ref u1), .val (.ref u2), .val (.ref l1), .val (.int (p5 &&& (3 : Int32))), .val (.int (0 : Int32)), .unset, .unset, .unset, .unset] [(.ref q)])
        refine g_astore W19 at_209 (pc' := 211) (L' := #[.val (.int p1), .val (.int p2), .val (.int p3), .val (.int p4), .val (.int p5), .val (.int (2 : Int32)), .val (.int dp), .val (.ref x0), .val (.ref x1), .val (.ref x2), .val (.ref u0), .val (.ref u1), .val (.ref u2), .val (.ref l1), .val (.int (p5 &&& (3 : Int32))), .val (.int (0 : Int32)), .val (.ref q), .unset, .unset, .unset]) rfl rfl rfl ?_
        refine g_goto W19 at_211 (pc' := 267) (by decide) (by decide) ?_
        have K24 : Keep h h20 [] := ((Keep.refl h []).trans K21 fun _ q => nomatch q)
        have F25 := S0.mv K24
        have F26 := S1.mv K24
        have F27 := S2.mv K24
        have F28 := Ol.mv K24
        have F29 := Ad1.mv K24
        have F30 := Oe0.mv K24
        have F31 := Oe1.mv K24
        exact tail2 hw hEL Sc hzc p1 p2 p3 p4 p5 x0 x1 x2 u0 u1 u2 cs0 cs1 cs2 dp l1 d k e0 e1 q csq (p5 &&& (3 : Int32)) (0 : Int32) _ (W19.more (by decide) (by decide)) (K0.trans K24 fun _ q => nomatch q) Se F25 F26 F27 Sq F28 F29 F30 F31
      · refine g_icmpY W at_192 (pc' := 214) (by decide) (by decide) (Jvm.Free.XT.ii_ne_t c17) ?_
        refine g_iload W at_214 (pc' := 216) rfl rfl ?_
        refine g_iconst W at_216 (pc' := 217) (v := (2 : Int32)) rfl rfl ?_
        by_cases c32 : (p5 &&& (3 : Int32)) = (2 : Int32)
        · refine g_icmpN W at_217 (pc' := 220) rfl (Jvm.Free.XT.ii_ne_f c32) ?_
          refine g_iload W at_220 (pc' := 222) rfl rfl ?_
          refine g_ifY W at_222 (pc' := 230) (by decide) (by decide) (Jvm.Free.XT.i0_eq_t rfl) ?_
          refine g_iload W at_230 (pc' := 232) rfl rfl ?_
          by_cases c33 : dp = 0
          · refine g_ifY W at_232 (pc' := 242) (by decide) (by decide) (Jvm.Free.XT.i0_eq_t c33) ?_
            refine g_iload_n W at_242 (pc' := 243) rfl rfl ?_
            refine g_static W at_243 (pc' := 246) (fr' := []) (argsL := [(.int p2)]) (rest := []) (Wd := 0) (kc := 6) (ks := 16) rfl (hw _ (List.mem_of_getElem? (i := 0) rfl)) (hw _ (List.mem_of_getElem? (i := 1) rfl)) (hw _ (List.mem_of_getElem? (i := 2) rfl)) (hw _ (List.mem_of_getElem? (i := 3) rfl)) (by decide) rfl rfl (lenOf pd_15 rfl) rfl all0 (by decide) (by decide) (Met.pays (rm_mk hw hEL Sc hzc p2 _ W.ext) (hw _ (List.mem_of_getElem? (i := 3) rfl)) (hw _ (List.mem_of_getElem? (i := 2) rfl)) hEL (by decide) (by decide)) fun v39 T34 h36 W35 K37 q38 => ?_
            obtain ⟨q, csq, rfl, Sq⟩ := q38
            show Goes _ _ _ _ _ _ _ _ _ _ _ T34 (mkF m 246 #[.val (.int p1), .val (.int p2), .val (.int p3), .val (.int p4), .val (.int p5), .val (.int (2 : Int32)), .val (.int dp), .val (.ref x0), .val (.ref x1), .val (.ref x2), .val (.ref u0), .val (.ref u1), .val (.ref u2), .val (.ref l1), .val (.int (p5 &&& (3 : Int32))), .val (.int (0 : Int32)), .unset, .unset, .unset, .unset] [(.ref q)])
            refine g_astore W35 at_246 (pc' := 248) (L' := #[.val (.int p1), .val (.int p2), .val (.int p3), .val (.int p4), .val (.int p5), .val (.int (2 : Int32)), .val (.int dp), .val (.ref x0), .val (.ref x1), .val (.ref x2), .val (.ref u0), .val (.ref u1), .val (.ref u2), .val (.ref l1), .val (.int (p5 &&& (3 : Int32))), .val (.int (0 : Int32)), .val (.ref q), .unset, .unset, .unset]) rfl rfl rfl ?_
            refine g_goto W35 at_248 (pc' := 267) (by decide) (by decide) ?_
            have K40 : Keep h h36 [] := ((Keep.refl h []).trans K37 fun _ q => nomatch q)
            have F41 := S0.mv K40
            have F42 := S1.mv K40
            have F43 := S2.mv K40
            have F44 := Ol.mv K40
            have F45 := Ad1.mv K40
            have F46 := Oe0.mv K40
            have F47 := Oe1.mv K40
            exact tail2 hw hEL Sc hzc p1 p2 p3 p4 p5 x0 x1 x2 u0 u1 u2 cs0 cs1 cs2 dp l1 d k e0 e1 q csq (p5 &&& (3 : Int32)) (0 : Int32) _ (W35.more (by decide) (by decide)) (K0.trans K40 fun _ q => nomatch q) Se F41 F42 F43 Sq F44 F45 F46 F47
          · refine g_ifN W at_232 (pc' := 235) rfl (Jvm.Free.XT.i0_eq_f c33) ?_
            refine g_iload_n W at_235 (pc' := 236) rfl rfl ?_
            refine g_static W at_236 (pc' := 239) (fr' := []) (argsL := [(.int p1)]) (rest := []) (Wd := 0) (kc := 6) (ks := 16) rfl (hw _ (List.mem_of_getElem? (i := 0) rfl)) (hw _ (List.mem_of_getElem? (i := 1) rfl)) (hw _ (List.mem_of_getElem? (i := 2) rfl)) (hw _ (List.mem_of_getElem? (i := 3) rfl)) (by decide) rfl rfl (lenOf pd_15 rfl) rfl all0 (by decide) (by decide) (Met.pays (rm_mk hw hEL Sc hzc p1 _ W.ext) (hw _ (List.mem_of_getElem? (i := 3) rfl)) (hw _ (List.mem_of_getElem? (i := 2) rfl)) hEL (by decide) (by decide)) fun v53 T48 h50 W49 K51 q52 => ?_
            obtain ⟨q, csq, rfl, Sq⟩ := q52
            show Goes _ _ _ _ _ _ _ _ _ _ _ T48 (mkF m 239 #[.val (.int p1), .val (.int p2), .val (.int p3), .val (.int p4), .val (.int p5), .val (.int (2 : Int32)), .val (.int dp), .val (.ref x0), .val (.ref x1), .val (.ref x2), .val (.ref u0), .val (.ref u1), .val (.ref u2), .val (.ref l1), .val (.int (p5 &&& (3 : Int32))), .val (.int (0 : Int32)), .unset, .unset, .unset, .unset] [(.ref q)])
            refine g_goto W49 at_239 (pc' := 246) (by decide) (by decide) ?_
            refine g_astore W49 at_246 (pc' := 248) (L' := #[.val (.int p1), .val (.int p2), .val (.int p3), .val (.int p4), .val (.int p5), .val (.int (2 : Int32)), .val (.int dp), .val (.ref x0), .val (.ref x1), .val (.ref x2), .val (.ref u0), .val (.ref u1), .val (.ref u2), .val (.ref l1), .val (.int (p5 &&& (3 : Int32))), .val (.int (0 : Int32)), .val (.ref q), .unset, .unset, .unset]) rfl rfl rfl ?_
            refine g_goto W49 at_248 (pc' := 267) (by decide) (by decide) ?_
            have K54 : Keep h h50 [] := ((Keep.refl h []).trans K51 fun _ q => nomatch q)
            have F55 := S0.mv K54
            have F56 := S1.mv K54
            have F57 := S2.mv K54
            have F58 := Ol.mv K54
            have F59 := Ad1.mv K54
            have F60 := Oe0.mv K54
            have F61 := Oe1.mv K54
            exact tail2 hw hEL Sc hzc p1 p2 p3 p4 p5 x0 x1 x2 u0 u1 u2 cs0 cs1 cs2 dp l1 d k e0 e1 q csq (p5 &&& (3 : Int32)) (0 : Int32) _ (W49.more (by decide) (by decide)) (K0.trans K54 fun _ q => nomatch q) Se F55 F56 F57 Sq F58 F59 F60 F61
        · refine g_icmpY W at_217 (pc' := 251) (by decide) (by decide) (Jvm.Free.XT.ii_ne_t c32) ?_
          refine g_iload W at_251 (pc' := 253) rfl rfl ?_
          refine g_ifY W at_253 (pc' := 261) (by decide) (by decide) (Jvm.Free.XT.i0_eq_t rfl) ?_
          refine g_iload_n W at_261 (pc' := 262) rfl rfl ?_
          refine g_static W at_262 (pc' := 265) (fr' := []) (argsL := [(.int p3)]) (rest := []) (Wd := 0) (kc := 6) (ks := 16) rfl (hw _ (List.mem_of_getElem? (i := 0) rfl)) (hw _ (List.mem_of_getElem? (i := 1) rfl)) (hw _ (List.mem_of_getElem? (i := 2) rfl)) (hw _ (List.mem_of_getElem? (i := 3) rfl)) (by decide) rfl rfl (lenOf pd_15 rfl) rfl all0 (by decide) (by decide) (Met.pays (rm_mk hw hEL Sc hzc p3 _ W.ext) (hw _ (List.mem_of_getElem? (i := 3) rfl)) (hw _ (List.mem_of_getElem? (i := 2) rfl)) hEL (by decide) (by decide)) fun v67 T62 h64 W63 K65 q66 => ?_
          obtain ⟨q, csq, rfl, Sq⟩ := q66
          show Goes _ _ _ _ _ _ _ _ _ _ _ T62 (mkF m 265 #[.val (.int p1), .val (.int p2), .val (.int p3), .val (.int p4), .val (.int p5), .val (.int (2 : Int32)), .val (.int dp), .val (.ref x0), .val (.ref x1), .val (.ref x2), .val (.ref u0), .val (.ref u1), .val (.ref u2), .val (.ref l1), .val (.int (p5 &&& (3 : Int32))), .val (.int (0 : Int32)), .unset, .unset, .unset, .unset] [(.ref q)])
          refine g_astore W63 at_265 (pc' := 267) (L' := #[.val (.int p1), .val (.int p2), .val (.int p3), .val (.int p4), .val (.int p5), .val (.int (2 : Int32)), .val (.int dp), .val (.ref x0), .val (.ref x1), .val (.ref x2), .val (.ref u0), .val (.ref u1), .val (.ref u2), .val (.ref l1), .val (.int (p5 &&& (3 : Int32))), .val (.int (0 : Int32)), .val (.ref q), .unset, .unset, .unset]) rfl rfl rfl ?_
          have K68 : Keep h h64 [] := ((Keep.refl h []).trans K65 fun _ q => nomatch q)
          have F69 := S0.mv K68
          have F70 := S1.mv K68
          have F71 := S2.mv K68
          have F72 := Ol.mv K68
          have F73 := Ad1.mv K68
          have F74 := Oe0.mv K68
          have F75 := Oe1.mv K68
          exact tail2 hw hEL Sc hzc p1 p2 p3 p4 p5 x0 x1 x2 u0 u1 u2 cs0 cs1 cs2 dp l1 d k e0 e1 q csq (p5 &&& (3 : Int32)) (0 : Int32) _ (W63.more (by decide) (by decide)) (K0.trans K68 fun _ q => nomatch q) Se F69 F70 F71 Sq F72 F73 F74 F75
  · refine g_ifN W at_165 (pc' := 168) rfl (Jvm.Free.XT.i0_eq_f c1) ?_
    refine g_iconst W at_168 (pc' := 169) (v := (1 : Int32)) rfl rfl ?_
    refine g_goto W at_169 (pc' := 173) (by decide) (by decide) ?_
    refine g_istore W at_173 (pc' := 175) (L' := #[.val (.int p1), .val (.int p2), .val (.int p3), .val (.int p4), .val (.int p5), .val (.int (2 : Int32)), .val (.int dp), .val (.ref x0), .val (.ref x1), .val (.ref x2), .val (.ref u0), .val (.ref u1), .val (.ref u2), .val (.ref l1), .val (.int (p5 &&& (3 : Int32))), .val (.int (1 : Int32)), .unset, .unset, .unset, .unset]) rfl rfl ?_
    refine g_iload W at_175 (pc' := 177) rfl rfl ?_
    by_cases c76 : (p5 &&& (3 : Int32)) = 0
    · refine g_ifN W at_177 (pc' := 180) rfl (Jvm.Free.XT.i0_ne_f c76) ?_
      refine g_iload_n W at_180 (pc' := 181) rfl rfl ?_
      refine g_static W at_181 (pc' := 184) (fr' := []) (argsL := [(.int p4)]) (rest := []) (Wd := 0) (kc := 6) (ks := 16) rfl (hw _ (List.mem_of_getElem? (i := 0) rfl)) (hw _ (List.mem_of_getElem? (i := 1) rfl)) (hw _ (List.mem_of_getElem? (i := 2) rfl)) (hw _ (List.mem_of_getElem? (i := 3) rfl)) (by decide) rfl rfl (lenOf pd_15 rfl) rfl all0 (by decide) (by decide) (Met.pays (rm_mk hw hEL Sc hzc p4 _ W.ext) (hw _ (List.mem_of_getElem? (i := 3) rfl)) (hw _ (List.mem_of_getElem? (i := 2) rfl)) hEL (by decide) (by decide)) fun v82 T77 h79 W78 K80 q81 => ?_
      obtain ⟨q, csq, rfl, Sq⟩ := q81
      show Goes _ _ _ _ _ _ _ _ _ _ _ T77 (mkF m 184 #[.val (.int p1), .val (.int p2), .val (.int p3), .val (.int p4), .val (.int p5), .val (.int (2 : Int32)), .val (.int dp), .val (.ref x0), .val (.ref x1), .val (.ref x2), .val (.ref u0), .val (.ref u1), .val (.ref u2), .val (.ref l1), .val (.int (p5 &&& (3 : Int32))), .val (.int (1 : Int32)), .unset, .unset, .unset, .unset] [(.ref q)])
      refine g_astore W78 at_184 (pc' := 186) (L' := #[.val (.int p1), .val (.int p2), .val (.int p3), .val (.int p4), .val (.int p5), .val (.int (2 : Int32)), .val (.int dp), .val (.ref x0), .val (.ref x1), .val (.ref x2), .val (.ref u0), .val (.ref u1), .val (.ref u2), .val (.ref l1), .val (.int (p5 &&& (3 : Int32))), .val (.int (1 : Int32)), .val (.ref q), .unset, .unset, .unset]) rfl rfl rfl ?_
      refine g_goto W78 at_186 (pc' := 267) (by decide) (by decide) ?_
      have K83 : Keep h h79 [] := ((Keep.refl h []).trans K80 fun _ q => nomatch q)
      have F84 := S0.mv K83
      have F85 := S1.mv K83
      have F86 := S2.mv K83
      have F87 := Ol.mv K83
      have F88 := Ad1.mv K83
      have F89 := Oe0.mv K83
      have F90 := Oe1.mv K83
      exact tail2 hw hEL Sc hzc p1 p2 p3 p4 p5 x0 x1 x2 u0 u1 u2 cs0 cs1 cs2 dp l1 d k e0 e1 q csq (p5 &&& (3 : Int32)) (1 : Int32) _ (W78.more (by decide) (by decide)) (K0.trans K83 fun _ q => nomatch q) Se F84 F85 F86 Sq F87 F88 F89 F90
    · refine g_ifY W at_177 (pc' := 189) (by decide) (by decide) (Jvm.Free.XT.i0_ne_t c76) ?_
      refine g_iload W at_189 (pc' := 191) rfl rfl ?_
      refine g_iconst W at_191 (pc' := 192) (v := (1 : Int32)) rfl rfl ?_
      by_cases c91 : (p5 &&& (3 : Int32)) = (1 : Int32)
      · refine g_icmpN W at_192 (pc' := 195) rfl (Jvm.Free.XT.ii_ne_f c91) ?_
        refine g_iload W at_195 (pc' := 197) rfl rfl ?_
        refine g_ifN W at_197 (pc' := 200) rfl (Jvm.Free.XT.i0_eq_f (by decide)) ?_
        refine g_aload W at_200 (pc' := 202) rfl rfl rfl ?_
        refine g_goto W at_202 (pc' := 209) (by decide) (by decide) ?_
        refine g_astore W at_209 (pc' := 211) (L' := #[.val (.int p1), .val (.int p2), .val (.int p3), .val (.int p4), .val (.int p5), .val (.int (2 : Int32)), .val (.int dp), .val (.ref x0), .val (.ref x1), .val (.ref x2), .val (.ref u0), .val (.ref u1), .val (.ref u2), .val (.ref l1), .val (.int (p5 &&& (3 : Int32))), .val (.int (1 : Int32)), .val (.ref x0), .unset, .unset, .unset]) rfl rfl rfl ?_
        refine g_goto W at_211 (pc' := 267) (by decide) (by decide) ?_
        exact tail2 hw hEL Sc hzc p1 p2 p3 p4 p5 x0 x1 x2 u0 u1 u2 cs0 cs1 cs2 dp l1 d k e0 e1 x0 cs0 (p5 &&& (3 : Int32)) (1 : Int32) _ (W.more (by decide) (by decide)) K0 Se S0 S1 S2 S0 Ol Ad1 Oe0 Oe1
      · refine g_icmpY W at_192 (pc' := 214) (by decide) (by decide) (Jvm.Free.XT.ii_ne_t c91) ?_
        refine g_iload W at_214 (pc' := 216) rfl rfl ?_
        refine g_iconst W at_216 (pc' := 217) (v := (2 : Int32)) rfl rfl ?_
        by_cases c92 : (p5 &&& (3 : Int32)) = (2 : Int32)
        · refine g_icmpN W at_217 (pc' := 220) rfl (Jvm.Free.XT.ii_ne_f c92) ?_
          refine g_iload W at_220 (pc' := 222) rfl rfl ?_
          refine g_ifN W at_222 (pc' := 225) rfl (Jvm.Free.XT.i0_eq_f (by decide)) ?_
          refine g_aload W at_225 (pc' := 227) rfl rfl rfl ?_
          refine g_goto W at_227 (pc' := 246) (by decide) (by decide) ?_
          refine g_astore W at_246 (pc' := 248) (L' := #[.val (.int p1), .val (.int p2), .val (.int p3), .val (.int p4), .val (.int p5), .val (.int (2 : Int32)), .val (.int dp), .val (.ref x0), .val (.ref x1), .val (.ref x2), .val (.ref u0), .val (.ref u1), .val (.ref u2), .val (.ref l1), .val (.int (p5 &&& (3 : Int32))), .val (.int (1 : Int32)), .val (.ref x1), .unset, .unset, .unset]) rfl rfl rfl ?_
          refine g_goto W at_248 (pc' := 267) (by decide) (by decide) ?_
          exact tail2 hw hEL Sc hzc p1 p2 p3 p4 p5 x0 x1 x2 u0 u1 u2 cs0 cs1 cs2 dp l1 d k e0 e1 x1 cs1 (p5 &&& (3 : Int32)) (1 : Int32) _ (W.more (by decide) (by decide)) K0 Se S0 S1 S2 S1 Ol Ad1 Oe0 Oe1
        · refine g_icmpY W at_217 (pc' := 251) (by decide) (by decide) (Jvm.Free.XT.ii_ne_t c92) ?_
          refine g_iload W at_251 (pc' := 253) rfl rfl ?_
          refine g_ifN W at_253 (pc' := 256) rfl (Jvm.Free.XT.i0_eq_f (by decide)) ?_
          refine g_aload W at_256 (pc' := 258) rfl rfl rfl ?_
          refine g_goto W at_258 (pc' := 265) (by decide) (by decide) ?_
          refine g_astore W at_265 (pc' := 267) (L' := #[.val (.int p1), .val (.int p2), .val (.int p3), .val (.int p4), .val (.int p5), .val (.int (2 : Int32)), .val (.int dp), .val (.ref x0), .val (.ref x1), .val (.ref x2), .val (.ref u0), .val (.ref u1), .val (.ref u2), .val (.ref l1), .val (.int (p5 &&& (3 : Int32))), .val (.int (1 : Int32)), .val (.ref x2), .unset, .unset, .unset]) rfl rfl rfl ?_
          exact tail2 hw hEL Sc hzc p1 p2 p3 p4 p5 x0 x1 x2 u0 u1 u2 cs0 cs1 cs2 dp l1 d k e0 e1 x2 cs2 (p5 &&& (3 : Int32)) (1 : Int32) _ (W.more (by decide) (by decide)) K0 Se S0 S1 S2 S2 Ol Ad1 Oe0 Oe1
set_option maxRecDepth 65536 in
set_option maxHeartbeats 40000000 in
theorem mid3 {l : Launch} {Z : State} {a0 : Array Value} (hw : ∀ d ∈ tables_1, d.before a0 Z = true) (hEL : EW Z a0 EL1) {zc : Int32} (Sc : Sta Z Z.heap "java/lang/String" "COMPACT_STRINGS" "Z" (.int zc)) (hzc : ¬ zc = 0) {p : Program} {e : Env} {s : State} {m : MethodId} {below : List Frame} {meth : Method} {c : Code} {h0 : Heap} {T : State} {fr : List Addr} (p1 p2 p3 p4 p5 : Int32) (x0 x1 x2 u0 u1 u2 : Addr) (cs0 cs1 cs2 : List Int32) (dp : Int32) (l1 d : Addr) (k : ClassId) (e0 : Addr) (e1 : Addr) (e2 : Addr) {el : Addr} (h : Heap) (W : Wk p l e room_1 s m #[(.int p1), (.int p2), (.int p3), (.int p4), (.int p5)] below meth c x code maxLocals ret Z a0 EL1 NW h0 T h fr 34 200) (K0 : Keep h0 h []) (Se : Sta Z Z.heap "java/util/ImmutableCollections" "EMPTY_LIST" "Ljava/util/ImmutableCollections$ListN;" (.ref el)) (S0 : Str Z h x0 cs0) (S1 : Str Z h x1 cs1) (S2 : Str Z h x2 cs2) (Ol : Obj Z h l1 "java/util/ArrayList" [(("java/util/AbstractList", "modCount", "I"), (.int (3 : Int32))), (("java/util/ArrayList", "elementData", "[Ljava/lang/Object;"), (.ref d)), (("java/util/ArrayList", "size", "I"), (.int (3 : Int32)))]) (Ad1 : Arv Z h d k (.object "java/lang/Object") (10 : Int32) [.ref e0, .ref e1, .ref e2, .null, .null, .null, .null, .null, .null, .null] .null) (Oe0 : Obj Z h e0 "com/example/config_into_context/configintocontext/XmlElement$Attribute" [(("com/example/config_into_context/configintocontext/XmlElement$Attribute", "namespace", "Ljava/lang/String;"), .null), (("com/example/config_into_context/configintocontext/XmlElement$Attribute", "localName", "Ljava/lang/String;"), (.ref x0)), (("com/example/config_into_context/configintocontext/XmlElement$Attribute", "name", "Ljava/lang/String;"), (.ref x0)), (("com/example/config_into_context/configintocontext/XmlElement$Attribute", "value", "Ljava/lang/String;"), (.ref u0))]) (Oe1 : Obj Z h e1 "com/example/config_into_context/configintocontext/XmlElement$Attribute" [(("com/example/config_into_context/configintocontext/XmlElement$Attribute", "namespace", "Ljava/lang/String;"), .null), (("com/example/config_into_context/configintocontext/XmlElement$Attribute", "localName", "Ljava/lang/String;"), (.ref x1)), (("com/example/config_into_context/configintocontext/XmlElement$Attribute", "name", "Ljava/lang/String;"), (.ref x1)), (("com/example/config_into_context/configintocontext/XmlElement$Attribute", "value", "Ljava/lang/String;"), (.ref u1))]) (Oe2 : Obj Z h e2 "com/example/config_into_context/configintocontext/XmlElement$Attribute" [(("com/example/config_into_context/configintocontext/XmlElement$Attribute", "namespace", "Ljava/lang/String;"), .null), (("com/example/config_into_context/configintocontext/XmlElement$Attribute", "localName", "Ljava/lang/String;"), (.ref x2)), (("com/example/config_into_context/configintocontext/XmlElement$Attribute", "name", "Ljava/lang/String;"), (.ref x2)), (("com/example/config_into_context/configintocontext/XmlElement$Attribute", "value", "Ljava/lang/String;"), (.ref u2))]) : Goes p e below s Z EL1 NW h0 [] (fun v _ => v = some (.int 1)) room_1 T (mkF m 153 #[.val (.int p1), .val (.int p2), .val (.int p3), .val (.int p4), .val (.int p5), .val (.int (3 : Int32)), .val (.int dp), .val (.ref x0), .val (.ref x1), .val (.ref x2), .val (.ref u0), .val (.ref u1), .val (.ref u2), .val (.ref l1), .unset, .unset, .unset, .unset, .unset, .unset] []) := by
  refine g_iload W at_153 (pc' := 155) rfl rfl ?_
  refine g_iconst W at_155 (pc' := 156) (v := (3 : Int32)) rfl rfl ?_
  refine g_iand W at_156 (pc' := 157) rfl ?_
  refine g_istore W at_157 (pc' := 159) (L' := #[.val (.int p1), .val (.int p2), .val (.int p3), .val (.int p4), .val (.int p5), .val (.int (3 : Int32)), .val (.int dp), .val (.ref x0), .val (.ref x1), .val (.ref x2), .val (.ref u0), .val (.ref u1), .val (.ref u2), .val (.ref l1), .val (.int (p5 &&& (3 : Int32))), .unset, .unset, .unset, .unset, .unset]) rfl rfl ?_
  refine g_iload W at_159 (pc' := 161) rfl rfl ?_
  refine g_iconst W at_161 (pc' := 162) (v := (2 : Int32)) rfl rfl ?_
  refine g_iushr W at_162 (pc' := 163) rfl ?_
  refine g_iconst W at_163 (pc' := 164) (v := (1 : Int32)) rfl rfl ?_
  refine g_iand W at_164 (pc' := 165) rfl ?_
  by_cases c1 : (((p5.toUInt32 >>> ((2 : Int32) &&& 31).toUInt32).toInt32) &&& (1 : Int32)) = 0
  · refine g_ifY W at_165 (pc' := 172) (by decide) (by decide) (Jvm.Free.XT.i0_eq_t c1) ?_
    refine g_iconst W at_172 (pc' := 173) (v := (0 : Int32)) rfl rfl ?_
    refine g_istore W at_173 (pc' := 175) (L' := #[.val (.int p1), .val (.int p2), .val (.int p3), .val (.int p4), .val (.int p5), .val (.int (3 : Int32)), .val (.int dp), .val (.ref x0), .val (.ref x1), .val (.ref x2), .val (.ref u0), .val (.ref u1), .val (.ref u2), .val (.ref l1), .val (.int (p5 &&& (3 : Int32))), .val (.int (0 : Int32)), .unset, .unset, .unset, .unset]) rfl rfl ?_
    refine g_iload W at_175 (pc' := 177) rfl rfl ?_
    by_cases c2 : (p5 &&& (3 : Int32)) = 0
    · refine g_ifN W at_177 (pc' := 180) rfl (Jvm.Free.XT.i0_ne_f c2) ?_
      refine g_iload_n W at_180 (pc' := 181) rfl rfl ?_
      refine g_static W at_181 (pc' := 184) (fr' := []) (argsL := [(.int p4)]) (rest := []) (Wd := 0) (kc := 6) (ks := 16) rfl (hw _ (List.mem_of_getElem? (i := 0) rfl)) (hw _ (List.mem_of_getElem? (i := 1) rfl)) (hw _ (List.mem_of_getElem? (i := 2) rfl)) (hw _ (List.mem_of_getElem? (i := 3) rfl)) (by decide) rfl rfl (lenOf pd_15 rfl) rfl all0 (by decide) (by decide) (Met.pays (rm_mk hw hEL Sc hzc p4 _ W.ext) (hw _ (List.mem_of_getElem? (i := 3) rfl)) (hw _ (List.mem_of_getElem? (i := 2) rfl)) hEL (by decide) (by decide)) fun v8 T3 h5 W4 K6 q7 => ?_
      obtain ⟨q, csq, rfl, Sq⟩ := q7
      show Goes _ _ _ _ _ _ _ _ _ _ _ T3 (mkF m 184 #[.val (.int p1), .val (.int p2), .val (.int p3), .val (.int p4), .val (.int p5), .val (.int (3 : Int32)), .val (.int dp), .val (.ref x0), .val (.ref x1), .val (.ref x2), .val (.ref u0), .val (.ref u1), .val (.ref u2), .val (.ref l1), .val (.int (p5 &&& (3 : Int32))), .val (.int (0 : Int32)), .unset, .unset, .unset, .unset] [(.ref q)])
      refine g_astore W4 at_184 (pc' := 186) (L' := #[.val (.int p1), .val (.int p2), .val (.int p3), .val (.int p4), .val (.int p5), .val (.int (3 : Int32)), .val (.int dp), .val (.ref x0), .val (.ref x1), .val (.ref x2), .val (.ref u0), .val (.ref u1), .val (.ref u2), .val (.ref l1), .val (.int (p5 &&& (3 : Int32))), .val (.int (0 : Int32)), .val (.ref q), .unset, .unset, .unset]) rfl rfl rfl ?_
      refine g_goto W4 at_186 (pc' := 267) (by decide) (by decide) ?_
      have K9 : Keep h h5 [] := ((Keep.refl h []).trans K6 fun _ q => nomatch q)
      have F10 := S0.mv K9
      have F11 := S1.mv K9
      have F12 := S2.mv K9
      have F13 := Ol.mv K9
      have F14 := Ad1.mv K9
      have F15 := Oe0.mv K9
      have F16 := Oe1.mv K9
      have F17 := Oe2.mv K9
      exact tail3 hw hEL Sc hzc p1 p2 p3 p4 p5 x0 x1 x2 u0 u1 u2 cs0 cs1 cs2 dp l1 d k e0 e1 e2 q csq (p5 &&& (3 : Int32)) (0 : Int32) _ (W4.more (by decide) (by decide)) (K0.trans K9 fun _ q => nomatch q) Se F10 F11 F12 Sq F13 F14 F15 F16 F17
    · refine g_ifY W at_177 (pc' := 189) (by decide) (by decide) (Jvm.Free.XT.i0_ne_t c2) ?_
      refine g_iload W at_189 (pc' := 191) rfl rfl ?_
      refine g_iconst W at_191 (pc' := 192) (v := (1 : Int32)) rfl rfl ?_
      by_cases c18 : (p5 &&& (3 : Int32)) = (1 : Int32)
      · refine g_icmpN W at_192 (pc' := 195) rfl (Jvm.Free.XT.ii_ne_f c18) ?_
        refine g_iload W at_195 (pc' := 197) rfl rfl ?_
        refine g_ifY W at_197 (pc' := 205) (by decide) (by decide) (Jvm.Free.XT.i0_eq_t rfl) ?_
        refine g_iload_n W at_205 (pc' := 206) rfl rfl ?_
        refine g_static W at_206 (pc' := 209) (fr' := []) (argsL := [(.int p1)]) (rest := []) (Wd := 0) (kc := 6) (ks := 16) rfl (hw _ (List.mem_of_getElem? (i := 0) rfl)) (hw _ (List.mem_of_getElem? (i := 1) rfl)) (hw _ (List.mem_of_getElem? (i := 2) rfl)) (hw _ (List.mem_of_getElem? (i := 3) rfl)) (by decide) rfl rfl (lenOf pd_15 rfl) rfl all0 (by decide) (by decide) (Met.pays (rm_mk hw hEL Sc hzc p1 _ W.ext) (hw _ (List.mem_of_getElem? (i := 3) rfl)) (hw _ (List.mem_of_getElem? (i := 2) rfl)) hEL (by decide) (by decide)) fun v24 T19 h21 W20 K22 q23 => ?_
        obtain ⟨q, csq, rfl, Sq⟩ := q23
        show Goes _ _ _ _ _ _ _ _ _ _ _ T19 (mkF m 209 #[.val (.int p1), .val (.int p2), .val (.int p3), .val (.int p4), .val (.int p5), .val (.int (3 : Int32)), .val (.int dp), .val (.ref x0), .val (.ref x1), .val (.ref x2), .val (.ref u0), .val (.ref u1), .val (.ref u2), .val (.ref l1), .val (.int (p5 &&& (3 : Int32))), .val (.int (0 : Int32)), .unset, .unset, .unset, .unset] [(.ref q)])
        refine g_astore W20 at_209 (pc' := 211) (L' := #[.val (.int p1), .val (.int p2), .val (.int p3), .val (.int p4), .val (.int p5), .val (.int (3 : Int32)), .val (.int dp), .val (.ref x0), .val (.ref x1), .val (.ref x2), .val (.ref u0), .val (.ref u1), .val (.ref u2), .val (.ref l1), .val (.int (p5 &&& (3 : Int32))), .val (.int (0 : Int32)), .val (.ref q), .unset, .unset, .unset]) rfl rfl rfl ?_
        refine g_goto W20 at_211 (pc' := 267) (by decide) (by decide) ?_
        have K25 : Keep h h21 [] := ((Keep.refl h []).trans K22 fun _ q => nomatch q)
        have F26 := S0.mv K25
        have F27 := S1.mv K25
        have F28 := S2.mv K25
        have F29 := Ol.mv K25
        have F30 := Ad1.mv K25
        have F31 := Oe0.mv K25
        have F32 := Oe1.mv K25
        have F33 := Oe2.mv K25
        exact tail3 hw hEL Sc hzc p1 p2 p3 p4 p5 x0 x1 x2 u0 u1 u2 cs0 cs1 cs2 dp l1 d k e0 e1 e2 q csq (p5 &&& (3 : Int32)) (0 : Int32) _ (W20.more (by decide) (by decide)) (K0.trans K25 fun _ q => nomatch q) Se F26 F27 F28 Sq F29 F30 F31 F32 F33
      · refine g_icmpY W at_192 (pc' := 214) (by decide) (by decide) (Jvm.Free.XT.ii_ne_t c18) ?_
        refine g_iload W at_214 (pc' := 216) rfl rfl ?_
        refine g_iconst W at_216 (pc' := 217) (v := (2 : Int32)) rfl rfl ?_
        by_cases c34 : (p5 &&& (3 : Int32)) = (2 : Int32)
        · refine g_icmpN W at_217 (pc' := 220) rfl (Jvm.Free.XT.ii_ne_f c34) ?_
          refine g_iload W at_220 (pc' := 222) rfl rfl ?_
          refine g_ifY W at_222 (pc' := 230) (by decide) (by decide) (Jvm.Free.XT.i0_eq_t rfl) ?_
          refine g_iload W at_230 (pc' := 232) rfl rfl ?_
          by_cases c35 : dp = 0
          · refine g_ifY W at_232 (pc' := 242) (by decide) (by decide) (Jvm.Free.XT.i0_eq_t c35) ?_
            refine g_iload_n W at_242 (pc' := 243) rfl rfl ?_
            refine g_static W at_243 (pc' := 246) (fr' := []) (argsL := [(.int p2)]) (rest := []) (Wd := 0) (kc := 6) (ks := 16) rfl (hw _ (List.mem_of_getElem? (i := 0) rfl)) (hw _ (List.mem_of_getElem? (i := 1) rfl)) (hw _ (List.mem_of_getElem? (i := 2) rfl)) (hw _ (List.mem_of_getElem? (i := 3) rfl)) (by decide) rfl rfl (lenOf pd_15 rfl) rfl all0 (by decide) (by decide) (Met.pays (rm_mk hw hEL Sc hzc p2 _ W.ext) (hw _ (List.mem_of_getElem? (i := 3) rfl)) (hw _ (List.mem_of_getElem? (i := 2) rfl)) hEL (by decide) (by decide)) fun v41 T36 h38 W37 K39 q40 => ?_
            obtain ⟨q, csq, rfl, Sq⟩ := q40
            show Goes _ _ _ _ _ _ _ _ _ _ _ T36 (mkF m 246 #[.val (.int p1), .val (.int p2), .val (.int p3), .val (.int p4), .val (.int p5), .val (.int (3 : Int32)), .val (.int dp), .val (.ref x0), .val (.ref x1), .val (.ref x2), .val (.ref u0), .val (.ref u1), .val (.ref u2), .val (.ref l1), .val (.int (p5 &&& (3 : Int32))), .val (.int (0 : Int32)), .unset, .unset, .unset, .unset] [(.ref q)])
            refine g_astore W37 at_246 (pc' := 248) (L' := #[.val (.int p1), .val (.int p2), .val (.int p3), .val (.int p4), .val (.int p5), .val (.int (3 : Int32)), .val (.int dp), .val (.ref x0), .val (.ref x1), .val (.ref x2), .val (.ref u0), .val (.ref u1), .val (.ref u2), .val (.ref l1), .val (.int (p5 &&& (3 : Int32))), .val (.int (0 : Int32)), .val (.ref q), .unset, .unset, .unset]) rfl rfl rfl ?_
            refine g_goto W37 at_248 (pc' := 267) (by decide) (by decide) ?_
            have K42 : Keep h h38 [] := ((Keep.refl h []).trans K39 fun _ q => nomatch q)
            have F43 := S0.mv K42
            have F44 := S1.mv K42
            have F45 := S2.mv K42
            have F46 := Ol.mv K42
            have F47 := Ad1.mv K42
            have F48 := Oe0.mv K42
            have F49 := Oe1.mv K42
            have F50 := Oe2.mv K42
            exact tail3 hw hEL Sc hzc p1 p2 p3 p4 p5 x0 x1 x2 u0 u1 u2 cs0 cs1 cs2 dp l1 d k e0 e1 e2 q csq (p5 &&& (3 : Int32)) (0 : Int32) _ (W37.more (by decide) (by decide)) (K0.trans K42 fun _ q => nomatch q) Se F43 F44 F45 Sq F46 F47 F48 F49 F50
          · refine g_ifN W at_232 (pc' := 235) rfl (Jvm.Free.XT.i0_eq_f c35) ?_
            refine g_iload_n W at_235 (pc' := 236) rfl rfl ?_
            refine g_static W at_236 (pc' := 239) (fr' := []) (argsL := [(.int p1)]) (rest := []) (Wd := 0) (kc := 6) (ks := 16) rfl (hw _ (List.mem_of_getElem? (i := 0) rfl)) (hw _ (List.mem_of_getElem? (i := 1) rfl)) (hw _ (List.mem_of_getElem? (i := 2) rfl)) (hw _ (List.mem_of_getElem? (i := 3) rfl)) (by decide) rfl rfl (lenOf pd_15 rfl) rfl all0 (by decide) (by decide) (Met.pays (rm_mk hw hEL Sc hzc p1 _ W.ext) (hw _ (List.mem_of_getElem? (i := 3) rfl)) (hw _ (List.mem_of_getElem? (i := 2) rfl)) hEL (by decide) (by decide)) fun v56 T51 h53 W52 K54 q55 => ?_
            obtain ⟨q, csq, rfl, Sq⟩ := q55
            show Goes _ _ _ _ _ _ _ _ _ _ _ T51 (mkF m 239 #[.val (.int p1), .val (.int p2), .val (.int p3), .val (.int p4), .val (.int p5), .val (.int (3 : Int32)), .val (.int dp), .val (.ref x0), .val (.ref x1), .val (.ref x2), .val (.ref u0), .val (.ref u1), .val (.ref u2), .val (.ref l1), .val (.int (p5 &&& (3 : Int32))), .val (.int (0 : Int32)), .unset, .unset, .unset, .unset] [(.ref q)])
            refine g_goto W52 at_239 (pc' := 246) (by decide) (by decide) ?_
            refine g_astore W52 at_246 (pc' := 248) (L' := #[.val (.int p1), .val (.int p2), .val (.int p3), .val (.int p4), .val (.int p5), .val (.int (3 : Int32)), .val (.int dp), .val (.ref x0), .val (.ref x1), .val (.ref x2), .val (.ref u0), .val (.ref u1), .val (.ref u2), .val (.ref l1), .val (.int (p5 &&& (3 : Int32))), .val (.int (0 : Int32)), .val (.ref q), .unset, .unset, .unset]) rfl rfl rfl ?_
            refine g_goto W52 at_248 (pc' := 267) (by decide) (by decide) ?_
            have K57 : Keep h h53 [] := ((Keep.refl h []).trans K54 fun _ q => nomatch q)
            have F58 := S0.mv K57
            have F59 := S1.mv K57
            have F60 := S2.mv K57
            have F61 := Ol.mv K57
            have F62 := Ad1.mv K57
            have F63 := Oe0.mv K57
            have F64 := Oe1.mv K57
            have F65 := Oe2.mv K57
            exact tail3 hw hEL Sc hzc p1 p2 p3 p4 p5 x0 x1 x2 u0 u1 u2 cs0 cs1 cs2 dp l1 d k e0 e1 e2 q csq (p5 &&& (3 : Int32)) (0 : Int32) _ (W52.more (by decide) (by decide)) (K0.trans K57 fun _ q => nomatch q) Se F58 F59 F60 Sq F61 F62 F63 F64 F65
        · refine g_icmpY W at_217 (pc' := 251) (by decide) (by decide) (Jvm.Free.XT.ii_ne_t c34) ?_
          refine g_iload W at_251 (pc' := 253) rfl rfl ?_
          refine g_ifY W at_253 (pc' := 261) (by decide) (by decide) (Jvm.Free.XT.i0_eq_t rfl) ?_
          refine g_iload_n W at_261 (pc' := 262) rfl rfl ?_
          refine g_static W at_262 (pc' := 265) (fr' := []) (argsL := [(.int p3)]) (rest := []) (Wd := 0) (kc := 6) (ks := 16) rfl (hw _ (List.mem_of_getElem? (i := 0) rfl)) (hw _ (List.mem_of_getElem? (i := 1) rfl)) (hw _ (List.mem_of_getElem? (i := 2) rfl)) (hw _ (List.mem_of_getElem? (i := 3) rfl)) (by decide) rfl rfl (lenOf pd_15 rfl) rfl all0 (by decide) (by decide) (Met.pays (rm_mk hw hEL Sc hzc p3 _ W.ext) (hw _ (List.mem_of_getElem? (i := 3) rfl)) (hw _ (List.mem_of_getElem? (i := 2) rfl)) hEL (by decide) (by decide)) fun v71 T66 h68 W67 K69 q70 => ?_
          obtain ⟨q, csq, rfl, Sq⟩ := q70
          show Goes _ _ _ _ _ _ _ _ _ _ _ T66 (mkF m 265 #[.val (.int p1), .val (.int p2), .val (.int p3), .val (.int p4), .val (.int p5), .val (.int (3 : Int32)), .val (.int dp), .val (.ref x0), .val (.ref x1), .val (.ref x2), .val (.ref u0), .val (.ref u1), .val (.ref u2), .val (.ref l1), .val (.int (p5 &&& (3 : Int32))), .val (.int (0 : Int32)), .unset, .unset, .unset, .unset] [(.ref q)])
          refine g_astore W67 at_265 (pc' := 267) (L' := #[.val (.int p1), .val (.int p2), .val (.int p3), .val (.int p4), .val (.int p5), .val (.int (3 : Int32)), .val (.int dp), .val (.ref x0), .val (.ref x1), .val (.ref x2), .val (.ref u0), .val (.ref u1), .val (.ref u2), .val (.ref l1), .val (.int (p5 &&& (3 : Int32))), .val (.int (0 : Int32)), .val (.ref q), .unset, .unset, .unset]) rfl rfl rfl ?_
          have K72 : Keep h h68 [] := ((Keep.refl h []).trans K69 fun _ q => nomatch q)
          have F73 := S0.mv K72
          have F74 := S1.mv K72
          have F75 := S2.mv K72
          have F76 := Ol.mv K72
          have F77 := Ad1.mv K72
          have F78 := Oe0.mv K72
          have F79 := Oe1.mv K72
          have F80 := Oe2.mv K72
          exact tail3 hw hEL Sc hzc p1 p2 p3 p4 p5 x0 x1 x2 u0 u1 u2 cs0 cs1 cs2 dp l1 d k e0 e1 e2 q csq (p5 &&& (3 : Int32)) (0 : Int32) _ (W67.more (by decide) (by decide)) (K0.trans K72 fun _ q => nomatch q) Se F73 F74 F75 Sq F76 F77 F78 F79 F80
  · refine g_ifN W at_165 (pc' := 168) rfl (Jvm.Free.XT.i0_eq_f c1) ?_
    refine g_iconst W at_168 (pc' := 169) (v := (1 : Int32)) rfl rfl ?_
    refine g_goto W at_169 (pc' := 173) (by decide) (by decide) ?_
    refine g_istore W at_173 (pc' := 175) (L' := #[.val (.int p1), .val (.int p2), .val (.int p3), .val (.int p4), .val (.int p5), .val (.int (3 : Int32)), .val (.int dp), .val (.ref x0), .val (.ref x1), .val (.ref x2), .val (.ref u0), .val (.ref u1), .val (.ref u2), .val (.ref l1), .val (.int (p5 &&& (3 : Int32))), .val (.int (1 : Int32)), .unset, .unset, .unset, .unset]) rfl rfl ?_
    refine g_iload W at_175 (pc' := 177) rfl rfl ?_
    by_cases c81 : (p5 &&& (3 : Int32)) = 0
    · refine g_ifN W at_177 (pc' := 180) rfl (Jvm.Free.XT.i0_ne_f c81) ?_
      refine g_iload_n W at_180 (pc' := 181) rfl rfl ?_
      refine g_static W at_181 (pc' := 184) (fr' := []) (argsL := [(.int p4)]) (rest := []) (Wd := 0) (kc := 6) (ks := 16) rfl (hw _ (List.mem_of_getElem? (i := 0) rfl)) (hw _ (List.mem_of_getElem? (i := 1) rfl)) (hw _ (List.mem_of_getElem? (i := 2) rfl)) (hw _ (List.mem_of_getElem? (i := 3) rfl)) (by decide) rfl rfl (lenOf pd_15 rfl) rfl all0 (by decide) (by decide) (Met.pays (rm_mk hw hEL Sc hzc p4 _ W.ext) (hw _ (List.mem_of_getElem? (i := 3) rfl)) (hw _ (List.mem_of_getElem? (i := 2) rfl)) hEL (by decide) (by decide)) fun v87 T82 h84 W83 K85 q86 => ?_
      obtain ⟨q, csq, rfl, Sq⟩ := q86
      show Goes _ _ _ _ _ _ _ _ _ _ _ T82 (mkF m 184 #[.val (.int p1), .val (.int p2), .val (.int p3), .val (.int p4), .val (.int p5), .val (.int (3 : Int32)), .val (.int dp), .val (.ref x0), .val (.ref x1), .val (.ref x2), .val (.ref u0), .val (.ref u1), .val (.ref u2), .val (.ref l1), .val (.int (p5 &&& (3 : Int32))), .val (.int (1 : Int32)), .unset, .unset, .unset, .unset] [(.ref q)])
      refine g_astore W83 at_184 (pc' := 186) (L' := #[.val (.int p1), .val (.int p2), .val (.int p3), .val (.int p4), .val (.int p5), .val (.int (3 : Int32)), .val (.int dp), .val (.ref x0), .val (.ref x1), .val (.ref x2), .val (.ref u0), .val (.ref u1), .val (.ref u2), .val (.ref l1), .val (.int (p5 &&& (3 : Int32))), .val (.int (1 : Int32)), .val (.ref q), .unset, .unset, .unset]) rfl rfl rfl ?_
      refine g_goto W83 at_186 (pc' := 267) (by decide) (by decide) ?_
      have K88 : Keep h h84 [] := ((Keep.refl h []).trans K85 fun _ q => nomatch q)
      have F89 := S0.mv K88
      have F90 := S1.mv K88
      have F91 := S2.mv K88
      have F92 := Ol.mv K88
      have F93 := Ad1.mv K88
      have F94 := Oe0.mv K88
      have F95 := Oe1.mv K88
      have F96 := Oe2.mv K88
      exact tail3 hw hEL Sc hzc p1 p2 p3 p4 p5 x0 x1 x2 u0 u1 u2 cs0 cs1 cs2 dp l1 d k e0 e1 e2 q csq (p5 &&& (3 : Int32)) (1 : Int32) _ (W83.more (by decide) (by decide)) (K0.trans K88 fun _ q => nomatch q) Se F89 F90 F91 Sq F92 F93 F94 F95 F96
    · refine g_ifY W at_177 (pc' := 189) (by decide) (by decide) (Jvm.Free.XT.i0_ne_t c81) ?_
      refine g_iload W at_189 (pc' := 191) rfl rfl ?_
      refine g_iconst W at_191 (pc' := 192) (v := (1 : Int32)) rfl rfl ?_
      by_cases c97 : (p5 &&& (3 : Int32)) = (1 : Int32)
      · refine g_icmpN W at_192 (pc' := 195) rfl (Jvm.Free.XT.ii_ne_f c97) ?_
        refine g_iload W at_195 (pc' := 197) rfl rfl ?_
        refine g_ifN W at_197 (pc' := 200) rfl (Jvm.Free.XT.i0_eq_f (by decide)) ?_
        refine g_aload W at_200 (pc' := 202) rfl rfl rfl ?_
        refine g_goto W at_202 (pc' := 209) (by decide) (by decide) ?_
        refine g_astore W at_209 (pc' := 211) (L' := #[.val (.int p1), .val (.int p2), .val (.int p3), .val (.int p4), .val (.int p5), .val (.int (3 : Int32)), .val (.int dp), .val (.ref x0), .val (.ref x1), .val (.ref x2), .val (.ref u0), .val (.ref u1), .val (.ref u2), .val (.ref l1), .val (.int (p5 &&& (3 : Int32))), .val (.int (1 : Int32)), .val (.ref x0), .unset, .unset, .unset]) rfl rfl rfl ?_
        refine g_goto W at_211 (pc' := 267) (by decide) (by decide) ?_
        exact tail3 hw hEL Sc hzc p1 p2 p3 p4 p5 x0 x1 x2 u0 u1 u2 cs0 cs1 cs2 dp l1 d k e0 e1 e2 x0 cs0 (p5 &&& (3 : Int32)) (1 : Int32) _ (W.more (by decide) (by decide)) K0 Se S0 S1 S2 S0 Ol Ad1 Oe0 Oe1 Oe2
      · refine g_icmpY W at_192 (pc' := 214) (by decide) (by decide) (Jvm.Free.XT.ii_ne_t c97) ?_
        refine g_iload W at_214 (pc' := 216) rfl rfl ?_
        refine g_iconst W at_216 (pc' := 217) (v := (2 : Int32)) rfl rfl ?_
        by_cases c98 : (p5 &&& (3 : Int32)) = (2 : Int32)
        · refine g_icmpN W at_217 (pc' := 220) rfl (Jvm.Free.XT.ii_ne_f c98) ?_
          refine g_iload W at_220 (pc' := 222) rfl rfl ?_
          refine g_ifN W at_222 (pc' := 225) rfl (Jvm.Free.XT.i0_eq_f (by decide)) ?_
          refine g_aload W at_225 (pc' := 227) rfl rfl rfl ?_
          refine g_goto W at_227 (pc' := 246) (by decide) (by decide) ?_
          refine g_astore W at_246 (pc' := 248) (L' := #[.val (.int p1), .val (.int p2), .val (.int p3), .val (.int p4), .val (.int p5), .val (.int (3 : Int32)), .val (.int dp), .val (.ref x0), .val (.ref x1), .val (.ref x2), .val (.ref u0), .val (.ref u1), .val (.ref u2), .val (.ref l1), .val (.int (p5 &&& (3 : Int32))), .val (.int (1 : Int32)), .val (.ref x1), .unset, .unset, .unset]) rfl rfl rfl ?_
          refine g_goto W at_248 (pc' := 267) (by decide) (by decide) ?_
          exact tail3 hw hEL Sc hzc p1 p2 p3 p4 p5 x0 x1 x2 u0 u1 u2 cs0 cs1 cs2 dp l1 d k e0 e1 e2 x1 cs1 (p5 &&& (3 : Int32)) (1 : Int32) _ (W.more (by decide) (by decide)) K0 Se S0 S1 S2 S1 Ol Ad1 Oe0 Oe1 Oe2
        · refine g_icmpY W at_217 (pc' := 251) (by decide) (by decide) (Jvm.Free.XT.ii_ne_t c98) ?_
          refine g_iload W at_251 (pc' := 253) rfl rfl ?_
          refine g_ifN W at_253 (pc' := 256) rfl (Jvm.Free.XT.i0_eq_f (by decide)) ?_
          refine g_aload W at_256 (pc' := 258) rfl rfl rfl ?_
          refine g_goto W at_258 (pc' := 265) (by decide) (by decide) ?_
          refine g_astore W at_265 (pc' := 267) (L' := #[.val (.int p1), .val (.int p2), .val (.int p3), .val (.int p4), .val (.int p5), .val (.int (3 : Int32)), .val (.int dp), .val (.ref x0), .val (.ref x1), .val (.ref x2), .val (.ref u0), .val (.ref u1), .val (.ref u2), .val (.ref l1), .val (.int (p5 &&& (3 : Int32))), .val (.int (1 : Int32)), .val (.ref x2), .unset, .unset, .unset]) rfl rfl rfl ?_
          exact tail3 hw hEL Sc hzc p1 p2 p3 p4 p5 x0 x1 x2 u0 u1 u2 cs0 cs1 cs2 dp l1 d k e0 e1 e2 x2 cs2 (p5 &&& (3 : Int32)) (1 : Int32) _ (W.more (by decide) (by decide)) K0 Se S0 S1 S2 S2 Ol Ad1 Oe0 Oe1 Oe2
theorem pd_16 : parseMethodDescriptor "(Ljava/lang/String;Ljava/lang/String;Ljava/lang/String;Ljava/lang/String;)V" = some ⟨[(.object "java/lang/String"), (.object "java/lang/String"), (.object "java/lang/String"), (.object "java/lang/String")], none⟩ := by decide +kernel
set_option maxRecDepth 65536 in
set_option maxHeartbeats 40000000 in
theorem build {l : Launch} {Z : State} {a0 : Array Value} (hw : ∀ d ∈ tables_1, d.before a0 Z = true) (hEL : EW Z a0 EL1) {zc : Int32} (Sc : Sta Z Z.heap "java/lang/String" "COMPACT_STRINGS" "Z" (.int zc)) (hzc : ¬ zc = 0) {p : Program} {e : Env} {s : State} {m : MethodId} {below : List Frame} {meth : Method} {c : Code} {h0 : Heap} {T : State} {fr : List Addr} (p1 p2 p3 p4 p5 : Int32) (x0 x1 x2 u0 u1 u2 : Addr) (cs0 cs1 cs2 : List Int32) (dp : Int32) (nn : Int32) {de : Addr} {kd : ClassId} {el : Addr} (h : Heap) (W : Wk p l e room_1 s m #[(.int p1), (.int p2), (.int p3), (.int p4), (.int p5)] below meth c x code maxLocals ret Z a0 EL1 NW h0 T h fr 26 90) (K0 : Keep h0 h []) (Sd : Sta Z Z.heap "java/util/ArrayList" "DEFAULTCAPACITY_EMPTY_ELEMENTDATA" "[Ljava/lang/Object;" (.ref de)) (Ad : Arv Z Z.heap de kd (.object "java/lang/Object") (0 : Int32) [] .null) (Se : Sta Z Z.heap "java/util/ImmutableCollections" "EMPTY_LIST" "Ljava/util/ImmutableCollections$ListN;" (.ref el)) (q4 : nn = 0 ∨ nn = 1 ∨ nn = 2 ∨ nn = 3) (S0 : Str Z h x0 cs0) (S1 : Str Z h x1 cs1) (S2 : Str Z h x2 cs2) : Goes p e below s Z EL1 NW h0 [] (fun v _ => v = some (.int 1)) room_1 T (mkF m 66 #[.val (.int p1), .val (.int p2), .val (.int p3), .val (.int p4), .val (.int p5), .val (.int nn), .val (.int dp), .val (.ref x0), .val (.ref x1), .val (.ref x2), .val (.ref u0), .val (.ref u1), .val (.ref u2), .unset, .unset, .unset, .unset, .unset, .unset, .unset] []) := by
  rcases q4 with rfl | rfl | rfl | rfl
  · refine g_new W at_66 (pc' := 69) rfl (hw _ (List.mem_of_getElem? (i := 29) rfl)) (hw _ (List.mem_of_getElem? (i := 30) rfl)) (hw _ (List.mem_of_getElem? (i := 31) rfl)) (by decide) (by decide) fun T1 h3 l1 g4 W2 E5 A6 D7 => ?_
    have O_l1 := new_AL hw A6 D7
    refine g_dup W2 at_69 (pc' := 70) rfl rfl ?_
    refine g_special W2 at_70 (pc' := 73) (a := l1) (fr' := [l1]) (argsL := []) (rest := [(.ref l1)]) (Wd := 1) (kc := 0) (ks := 0) rfl rfl (hw _ (List.mem_of_getElem? (i := 32) rfl)) (hw _ (List.mem_of_getElem? (i := 33) rfl)) (hw _ (List.mem_of_getElem? (i := 34) rfl)) (by decide) rfl rfl (lenOf pd_1 rfl) rfl (allS (List.mem_of_getElem? (i := 0) rfl) (all0)) (by decide) (by decide) (Met.pays (rm_alinit hw hEL Sc hzc l1 _ W2.ext Sd Ad (W2.frs l1 (List.mem_of_getElem? (i := 0) rfl)).1 O_l1) (hw _ (List.mem_of_getElem? (i := 34) rfl)) (hw _ (List.mem_of_getElem? (i := 31) rfl)) hEL (by decide) (by decide)) fun v13 T8 h10 W9 K11 q12 => ?_
    obtain ⟨rfl, Ol0⟩ := q12
    show Goes _ _ _ _ _ _ _ _ _ _ _ T8 (mkF m 73 #[.val (.int p1), .val (.int p2), .val (.int p3), .val (.int p4), .val (.int p5), .val (.int (0 : Int32)), .val (.int dp), .val (.ref x0), .val (.ref x1), .val (.ref x2), .val (.ref u0), .val (.ref u1), .val (.ref u2), .unset, .unset, .unset, .unset, .unset, .unset, .unset] [(.ref l1)])
    refine g_astore W9 at_73 (pc' := 75) (L' := #[.val (.int p1), .val (.int p2), .val (.int p3), .val (.int p4), .val (.int p5), .val (.int (0 : Int32)), .val (.int dp), .val (.ref x0), .val (.ref x1), .val (.ref x2), .val (.ref u0), .val (.ref u1), .val (.ref u2), .val (.ref l1), .unset, .unset, .unset, .unset, .unset, .unset]) rfl rfl rfl ?_
    refine g_iload W9 at_75 (pc' := 77) rfl rfl ?_
    refine g_iconst W9 at_77 (pc' := 78) (v := (1 : Int32)) rfl rfl ?_
    refine g_icmpY W9 at_78 (pc' := 101) (by decide) (by decide) (Jvm.Free.XT.ii_lt_t (by decide)) ?_
    refine g_iload W9 at_101 (pc' := 103) rfl rfl ?_
    refine g_iconst W9 at_103 (pc' := 104) (v := (2 : Int32)) rfl rfl ?_
    refine g_icmpY W9 at_104 (pc' := 127) (by decide) (by decide) (Jvm.Free.XT.ii_lt_t (by decide)) ?_
    refine g_iload W9 at_127 (pc' := 129) rfl rfl ?_
    refine g_iconst W9 at_129 (pc' := 130) (v := (3 : Int32)) rfl rfl ?_
    refine g_icmpY W9 at_130 (pc' := 153) (by decide) (by decide) (Jvm.Free.XT.ii_lt_t (by decide)) ?_
    have K14 : Keep h h10 [] := (((Keep.refl h []).ext E5).trans K11 fun x q => by cases List.mem_singleton.mp q; exact Or.inr (Nat.le_of_eq g4.symm))
    have F15 := S0.mv K14
    have F16 := S1.mv K14
    have F17 := S2.mv K14
    exact mid0 hw hEL Sc hzc p1 p2 p3 p4 p5 x0 x1 x2 u0 u1 u2 cs0 cs1 cs2 dp l1 _ kd _ (W9.more (by decide) (by decide)) (K0.trans K14 fun _ q => nomatch q) Se F15 F16 F17 Ol0
  · refine g_new W at_66 (pc' := 69) rfl (hw _ (List.mem_of_getElem? (i := 29) rfl)) (hw _ (List.mem_of_getElem? (i := 30) rfl)) (hw _ (List.mem_of_getElem? (i := 31) rfl)) (by decide) (by decide) fun T18 h20 l1 g21 W19 E22 A23 D24 => ?_
    have O_l1 := new_AL hw A23 D24
    refine g_dup W19 at_69 (pc' := 70) rfl rfl ?_
    refine g_special W19 at_70 (pc' := 73) (a := l1) (fr' := [l1]) (argsL := []) (rest := [(.ref l1)]) (Wd := 1) (kc := 0) (ks := 0) rfl rfl (hw _ (List.mem_of_getElem? (i := 32) rfl)) (hw _ (List.mem_of_getElem? (i := 33) rfl)) (hw _ (List.mem_of_getElem? (i := 34) rfl)) (by decide) rfl rfl (lenOf pd_1 rfl) rfl (allS (List.mem_of_getElem? (i := 0) rfl) (all0)) (by decide) (by decide) (Met.pays (rm_alinit hw hEL Sc hzc l1 _ W19.ext Sd Ad (W19.frs l1 (List.mem_of_getElem? (i := 0) rfl)).1 O_l1) (hw _ (List.mem_of_getElem? (i := 34) rfl)) (hw _ (List.mem_of_getElem? (i := 31) rfl)) hEL (by decide) (by decide)) fun v30 T25 h27 W26 K28 q29 => ?_
    obtain ⟨rfl, Ol0⟩ := q29
    show Goes _ _ _ _ _ _ _ _ _ _ _ T25 (mkF m 73 #[.val (.int p1), .val (.int p2), .val (.int p3), .val (.int p4), .val (.int p5), .val (.int (1 : Int32)), .val (.int dp), .val (.ref x0), .val (.ref x1), .val (.ref x2), .val (.ref u0), .val (.ref u1), .val (.ref u2), .unset, .unset, .unset, .unset, .unset, .unset, .unset] [(.ref l1)])
    refine g_astore W26 at_73 (pc' := 75) (L' := #[.val (.int p1), .val (.int p2), .val (.int p3), .val (.int p4), .val (.int p5), .val (.int (1 : Int32)), .val (.int dp), .val (.ref x0), .val (.ref x1), .val (.ref x2), .val (.ref u0), .val (.ref u1), .val (.ref u2), .val (.ref l1), .unset, .unset, .unset, .unset, .unset, .unset]) rfl rfl rfl ?_
    refine g_iload W26 at_75 (pc' := 77) rfl rfl ?_
    refine g_iconst W26 at_77 (pc' := 78) (v := (1 : Int32)) rfl rfl ?_
    refine g_icmpN W26 at_78 (pc' := 81) rfl (Jvm.Free.XT.ii_lt_f (by decide)) ?_
    refine g_aload W26 at_81 (pc' := 83) rfl rfl rfl ?_
    refine g_new W26 at_83 (pc' := 86) rfl (hw _ (List.mem_of_getElem? (i := 98) rfl)) (hw _ (List.mem_of_getElem? (i := 99) rfl)) (hw _ (List.mem_of_getElem? (i := 100) rfl)) (by decide) (by decide) fun T31 h33 e0 g34 W32 E35 A36 D37 => ?_
    have O_e0 := new_At hw A36 D37
    refine g_dup W32 at_86 (pc' := 87) rfl rfl ?_
    refine g_aconst_null W32 at_87 (pc' := 88) rfl ?_
    refine g_aload W32 at_88 (pc' := 90) rfl rfl rfl ?_
    refine g_aload W32 at_90 (pc' := 92) rfl rfl rfl ?_
    refine g_aload W32 at_92 (pc' := 94) rfl rfl rfl ?_
    refine g_special W32 at_94 (pc' := 97) (a := e0) (fr' := [e0]) (argsL := [.null, (.ref x0), (.ref x0), (.ref u0)]) (rest := [(.ref e0), (.ref l1)]) (Wd := 2) (kc := 0) (ks := 0) rfl rfl (hw _ (List.mem_of_getElem? (i := 101) rfl)) (hw _ (List.mem_of_getElem? (i := 102) rfl)) (hw _ (List.mem_of_getElem? (i := 103) rfl)) (by decide) rfl rfl (lenOf pd_16 rfl) rfl (allS (List.mem_of_getElem? (i := 0) rfl) (all0)) (by decide) (by decide) (Met.pays (rm_initA hw hEL Sc hzc e0 .null (.ref x0) (.ref x0) (.ref u0) _ W32.ext rfl rfl rfl rfl (W32.frs e0 (List.mem_of_getElem? (i := 0) rfl)).1 O_e0) (hw _ (List.mem_of_getElem? (i := 103) rfl)) (hw _ (List.mem_of_getElem? (i := 100) rfl)) hEL (by decide) (by decide)) fun v43 T38 h40 W39 K41 q42 => ?_
    obtain ⟨rfl, O44⟩ := q42
    show Goes _ _ _ _ _ _ _ _ _ _ _ T38 (mkF m 97 #[.val (.int p1), .val (.int p2), .val (.int p3), .val (.int p4), .val (.int p5), .val (.int (1 : Int32)), .val (.int dp), .val (.ref x0), .val (.ref x1), .val (.ref x2), .val (.ref u0), .val (.ref u1), .val (.ref u2), .val (.ref l1), .unset, .unset, .unset, .unset, .unset, .unset] [(.ref e0), (.ref l1)])
    have K46 : Keep h27 h40 [] := (((Keep.refl h27 []).ext E35).trans K41 fun x q => by cases List.mem_singleton.mp q; exact Or.inr (Nat.le_of_eq g34.symm))
    have F47 := Ol0.mv K46
    have ne45 : e0 ≠ l1 := Exa.ne O44.1 F47.1 (by decide)
    have hXa := W39.ext
    refine g_virtual W39 at_97 (pc' := 100) (a := l1) (fr' := [l1]) (argsL := [(.ref e0)]) (rest := []) (Wd := 0) (kc := 1) (ks := 10) rfl (hw _ (List.mem_of_getElem? (i := 118) rfl)) (hw _ (List.mem_of_getElem? (i := 119) rfl)) (hw _ (List.mem_of_getElem? (i := 121) rfl)) (hw _ (List.mem_of_getElem? (i := 120) rfl)) (by decide) F47.1 rfl rfl (lenOf pd_11 rfl) rfl (allS (List.mem_of_getElem? (i := 1) rfl) (all0)) (by decide) (by decide) (Met.pays (rm_addf hw hEL Sc hzc l1 e0 _ W39.ext Sd Ad (W39.frs l1 (List.mem_of_getElem? (i := 1) rfl)).1 (Ins.of_exa O44.1 (hw _ (List.mem_of_getElem? (i := 146) rfl))) F47) (hw _ (List.mem_of_getElem? (i := 122) rfl)) (hw _ (List.mem_of_getElem? (i := 31) rfl)) hEL (by decide) (by decide)) fun v53 T48 h50 W49 K51 q52 => ?_
    obtain ⟨rfl, d, k, gd, Ol1, Ad1, Ov⟩ := q52
    show Goes _ _ _ _ _ _ _ _ _ _ _ T48 (mkF m 100 #[.val (.int p1), .val (.int p2), .val (.int p3), .val (.int p4), .val (.int p5), .val (.int (1 : Int32)), .val (.int dp), .val (.ref x0), .val (.ref x1), .val (.ref x2), .val (.ref u0), .val (.ref u1), .val (.ref u2), .val (.ref l1), .unset, .unset, .unset, .unset, .unset, .unset] [(.int (1 : Int32))])
    have W54 := W49.addArv Ad1 (by decide) (Nat.le_trans hXa.1 gd)
    have K56 : Keep h40 h50 [l1] := ((Keep.refl h40 [l1]).trans K51 fun x q => by cases List.mem_singleton.mp q; exact Or.inl (List.mem_of_getElem? (i := 0) rfl))
    have F57 := O44.keep K56 (ninS ne45 nin0)
    have ne55 : e0 ≠ d := Exa.neArv F57.1 Ad1 (hw _ (List.mem_of_getElem? (i := 99) rfl))
    refine g_pop W54 at_100 (pc' := 101) rfl rfl ?_
    refine g_iload W54 at_101 (pc' := 103) rfl rfl ?_
    refine g_iconst W54 at_103 (pc' := 104) (v := (2 : Int32)) rfl rfl ?_
    refine g_icmpY W54 at_104 (pc' := 127) (by decide) (by decide) (Jvm.Free.XT.ii_lt_t (by decide)) ?_
    refine g_iload W54 at_127 (pc' := 129) rfl rfl ?_
    refine g_iconst W54 at_129 (pc' := 130) (v := (3 : Int32)) rfl rfl ?_
    refine g_icmpY W54 at_130 (pc' := 153) (by decide) (by decide) (Jvm.Free.XT.ii_lt_t (by decide)) ?_
    have K58 : Keep h h27 [] := (((Keep.refl h []).ext E22).trans K28 fun x q => by cases List.mem_singleton.mp q; exact Or.inr (Nat.le_of_eq g21.symm))
    have K59 : Keep h h50 [] := ((((((Keep.refl h []).ext E22).trans K28 fun x q => by cases List.mem_singleton.mp q; exact Or.inr (Nat.le_of_eq g21.symm)).ext E35).trans K41 fun x q => by cases List.mem_singleton.mp q; exact Or.inr (Nat.le_trans K58.1 (Nat.le_of_eq g34.symm))).trans K51 fun x q => by cases List.mem_singleton.mp q; exact Or.inr (Nat.le_of_eq g21.symm))
    have F60 := S0.mv K59
    have F61 := S1.mv K59
    have F62 := S2.mv K59
    exact mid1 hw hEL Sc hzc p1 p2 p3 p4 p5 x0 x1 x2 u0 u1 u2 cs0 cs1 cs2 dp l1 d k e0 _ (W54.more (by decide) (by decide)) (K0.trans K59 fun _ q => nomatch q) Se F60 F61 F62 Ol1 Ad1 F57
  · refine g_new W at_66 (pc' := 69) rfl (hw _ (List.mem_of_getElem? (i := 29) rfl)) (hw _ (List.mem_of_getElem? (i := 30) rfl)) (hw _ (List.mem_of_getElem? (i := 31) rfl)) (by decide) (by decide) fun T63 h65 l1 g66 W64 E67 A68 D69 => ?_
    have O_l1 := new_AL hw A68 D69
    refine g_dup W64 at_69 (pc' := 70) rfl rfl ?_
    refine g_special W64 at_70 (pc' := 73) (a := l1) (fr' := [l1]) (argsL := []) (rest := [(.ref l1)]) (Wd := 1) (kc := 0) (ks := 0) rfl rfl (hw _ (List.mem_of_getElem? (i := 32) rfl)) (hw _ (List.mem_of_getElem? (i := 33) rfl)) (hw _ (List.mem_of_getElem? (i := 34) rfl)) (by decide) rfl rfl (lenOf pd_1 rfl) rfl (allS (List.mem_of_getElem? (i := 0) rfl) (all0)) (by decide) (by decide) (Met.pays (rm_alinit hw hEL Sc hzc l1 _ W64.ext Sd Ad (W64.frs l1 (List.mem_of_getElem? (i := 0) rfl)).1 O_l1) (hw _ (List.mem_of_getElem? (i := 34) rfl)) (hw _ (List.mem_of_getElem? (i := 31) rfl)) hEL (by decide) (by decide)) fun v75 T70 h72 W71 K73 q74 => ?_
    obtain ⟨rfl, Ol0⟩ := q74
    show Goes _ _ _ _ _ _ _ _ _ _ _ T70 (mkF m 73 #[.val (.int p1), .val (.int p2), .val (.int p3), .val (.int p4), .val (.int p5), .val (.int (2 : Int32)), .val (.int dp), .val (.ref x0), .val (.ref x1), .val (.ref x2), .val (.ref u0), .val (.ref u1), .val (.ref u2), .unset, .unset, .unset, .unset, .unset, .unset, .unset] [(.ref l1)])
    refine g_astore W71 at_73 (pc' := 75) (L' := #[.val (.int p1), .val (.int p2), .val (.int p3), .val (.int p4), .val (.int p5), .val (.int (2 : Int32)), .val (.int dp), .val (.ref x0), .val (.ref x1), .val (.ref x2), .val (.ref u0), .val (.ref u1), .val (.ref u2), .val (.ref l1), .unset, .unset, .unset, .unset, .unset, .unset]) rfl rfl rfl ?_
    refine g_iload W71 at_75 (pc' := 77) rfl rfl ?_
    refine g_iconst W71 at_77 (pc' := 78) (v := (1 : Int32)) rfl rfl ?_
    refine g_icmpN W71 at_78 (pc' := 81) rfl (Jvm.Free.XT.ii_lt_f (by decide)) ?_
    refine g_aload W71 at_81 (pc' := 83) rfl rfl rfl ?_
    refine g_new W71 at_83 (pc' := 86) rfl (hw _ (List.mem_of_getElem? (i := 98) rfl)) (hw _ (List.mem_of_getElem? (i := 99) rfl)) (hw _ (List.mem_of_getElem? (i := 100) rfl)) (by decide) (by decide) fun T76 h78 e0 g79 W77 E80 A81 D82 => ?_
    have O_e0 := new_At hw A81 D82
    refine g_dup W77 at_86 (pc' := 87) rfl rfl ?_
    refine g_aconst_null W77 at_87 (pc' := 88) rfl ?_
    refine g_aload W77 at_88 (pc' := 90) rfl rfl rfl ?_
    refine g_aload W77 at_90 (pc' := 92) rfl rfl rfl ?_
    refine g_aload W77 at_92 (pc' := 94) rfl rfl rfl ?_
    refine g_special W77 at_94 (pc' := 97) (a := e0) (fr' := [e0]) (argsL := [.null, (.ref x0), (.ref x0), (.ref u0)]) (rest := [(.ref e0), (.ref l1)]) (Wd := 2) (kc := 0) (ks := 0) rfl rfl (hw _ (List.mem_of_getElem? (i := 101) rfl)) (hw _ (List.mem_of_getElem? (i := 102) rfl)) (hw _ (List.mem_of_getElem? (i := 103) rfl)) (by decide) rfl rfl (lenOf pd_16 rfl) rfl (allS (List.mem_of_getElem? (i := 0) rfl) (all0)) (by decide) (by decide) (Met.pays (rm_initA hw hEL Sc hzc e0 .null (.ref x0) (.ref x0) (.ref u0) _ W77.ext rfl rfl rfl rfl (W77.frs e0 (List.mem_of_getElem? (i := 0) rfl)).1 O_e0) (hw _ (List.mem_of_getElem? (i := 103) rfl)) (hw _ (List.mem_of_getElem? (i := 100) rfl)) hEL (by decide) (by decide)) fun v88 T83 h85 W84 K86 q87 => ?_
    obtain ⟨rfl, O89⟩ := q87
    show Goes _ _ _ _ _ _ _ _ _ _ _ T83 (mkF m 97 #[.val (.int p1), .val (.int p2), .val (.int p3), .val (.int p4), .val (.int p5), .val (.int (2 : Int32)), .val (.int dp), .val (.ref x0), .val (.ref x1), .val (.ref x2), .val (.ref u0), .val (.ref u1), .val (.ref u2), .val (.ref l1), .unset, .unset, .unset, .unset, .unset, .unset] [(.ref e0), (.ref l1)])
    have K91 : Keep h72 h85 [] := (((Keep.refl h72 []).ext E80).trans K86 fun x q => by cases List.mem_singleton.mp q; exact Or.inr (Nat.le_of_eq g79.symm))
    have F92 := Ol0.mv K91
    have ne90 : e0 ≠ l1 := Exa.ne O89.1 F92.1 (by decide)
    have hXa := W84.ext
    refine g_virtual W84 at_97 (pc' := 100) (a := l1) (fr' := [l1]) (argsL := [(.ref e0)]) (rest := []) (Wd := 0) (kc := 1) (ks := 10) rfl (hw _ (List.mem_of_getElem? (i := 118) rfl)) (hw _ (List.mem_of_getElem? (i := 119) rfl)) (hw _ (List.mem_of_getElem? (i := 121) rfl)) (hw _ (List.mem_of_getElem? (i := 120) rfl)) (by decide) F92.1 rfl rfl (lenOf pd_11 rfl) rfl (allS (List.mem_of_getElem? (i := 1) rfl) (all0)) (by decide) (by decide) (Met.pays (rm_addf hw hEL Sc hzc l1 e0 _ W84.ext Sd Ad (W84.frs l1 (List.mem_of_getElem? (i := 1) rfl)).1 (Ins.of_exa O89.1 (hw _ (List.mem_of_getElem? (i := 146) rfl))) F92) (hw _ (List.mem_of_getElem? (i := 122) rfl)) (hw _ (List.mem_of_getElem? (i := 31) rfl)) hEL (by decide) (by decide)) fun v98 T93 h95 W94 K96 q97 => ?_
    obtain ⟨rfl, d, k, gd, Ol1, Ad1, Ov⟩ := q97
    show Goes _ _ _ _ _ _ _ _ _ _ _ T93 (mkF m 100 #[.val (.int p1), .val (.int p2), .val (.int p3), .val (.int p4), .val (.int p5), .val (.int (2 : Int32)), .val (.int dp), .val (.ref x0), .val (.ref x1), .val (.ref x2), .val (.ref u0), .val (.ref u1), .val (.ref u2), .val (.ref l1), .unset, .unset, .unset, .unset, .unset, .unset] [(.int (1 : Int32))])
    have W99 := W94.addArv Ad1 (by decide) (Nat.le_trans hXa.1 gd)
    have K101 : Keep h85 h95 [l1] := ((Keep.refl h85 [l1]).trans K96 fun x q => by cases List.mem_singleton.mp q; exact Or.inl (List.mem_of_getElem? (i := 0) rfl))
    have F102 := O89.keep K101 (ninS ne90 nin0)
    have ne100 : e0 ≠ d := Exa.neArv F102.1 Ad1 (hw _ (List.mem_of_getElem? (i := 99) rfl))
    refine g_pop W99 at_100 (pc' := 101) rfl rfl ?_
    refine g_iload W99 at_101 (pc' := 103) rfl rfl ?_
    refine g_iconst W99 at_103 (pc' := 104) (v := (2 : Int32)) rfl rfl ?_
    refine g_icmpN W99 at_104 (pc' := 107) rfl (Jvm.Free.XT.ii_lt_f (by decide)) ?_
    refine g_aload W99 at_107 (pc' := 109) rfl rfl rfl ?_
    refine g_new W99 at_109 (pc' := 112) rfl (hw _ (List.mem_of_getElem? (i := 98) rfl)) (hw _ (List.mem_of_getElem? (i := 99) rfl)) (hw _ (List.mem_of_getElem? (i := 100) rfl)) (by decide) (by decide) fun T103 h105 e1 g106 W104 E107 A108 D109 => ?_
    have O_e1 := new_At hw A108 D109
    refine g_dup W104 at_112 (pc' := 113) rfl rfl ?_
    refine g_aconst_null W104 at_113 (pc' := 114) rfl ?_
    refine g_aload W104 at_114 (pc' := 116) rfl rfl rfl ?_
    refine g_aload W104 at_116 (pc' := 118) rfl rfl rfl ?_
    refine g_aload W104 at_118 (pc' := 120) rfl rfl rfl ?_
    refine g_special W104 at_120 (pc' := 123) (a := e1) (fr' := [e1]) (argsL := [.null, (.ref x1), (.ref x1), (.ref u1)]) (rest := [(.ref e1), (.ref l1)]) (Wd := 2) (kc := 0) (ks := 0) rfl rfl (hw _ (List.mem_of_getElem? (i := 101) rfl)) (hw _ (List.mem_of_getElem? (i := 102) rfl)) (hw _ (List.mem_of_getElem? (i := 103) rfl)) (by decide) rfl rfl (lenOf pd_16 rfl) rfl (allS (List.mem_of_getElem? (i := 0) rfl) (all0)) (by decide) (by decide) (Met.pays (rm_initA hw hEL Sc hzc e1 .null (.ref x1) (.ref x1) (.ref u1) _ W104.ext rfl rfl rfl rfl (W104.frs e1 (List.mem_of_getElem? (i := 0) rfl)).1 O_e1) (hw _ (List.mem_of_getElem? (i := 103) rfl)) (hw _ (List.mem_of_getElem? (i := 100) rfl)) hEL (by decide) (by decide)) fun v115 T110 h112 W111 K113 q114 => ?_
    obtain ⟨rfl, O116⟩ := q114
    show Goes _ _ _ _ _ _ _ _ _ _ _ T110 (mkF m 123 #[.val (.int p1), .val (.int p2), .val (.int p3), .val (.int p4), .val (.int p5), .val (.int (2 : Int32)), .val (.int dp), .val (.ref x0), .val (.ref x1), .val (.ref x2), .val (.ref u0), .val (.ref u1), .val (.ref u2), .val (.ref l1), .unset, .unset, .unset, .unset, .unset, .unset] [(.ref e1), (.ref l1)])
    have K118 : Keep h95 h112 [] := (((Keep.refl h95 []).ext E107).trans K113 fun x q => by cases List.mem_singleton.mp q; exact Or.inr (Nat.le_of_eq g106.symm))
    have F119 := Ol1.mv K118
    have ne117 : e1 ≠ l1 := Exa.ne O116.1 F119.1 (by decide)
    have F121 := Ad1.mv K118
    have ne120 : e1 ≠ d := Exa.neArv O116.1 F121 (hw _ (List.mem_of_getElem? (i := 99) rfl))
    refine g_virtual W111 at_123 (pc' := 126) (a := l1) (fr' := [l1, d]) (argsL := [(.ref e1)]) (rest := []) (Wd := 0) (kc := 0) (ks := 0) rfl (hw _ (List.mem_of_getElem? (i := 118) rfl)) (hw _ (List.mem_of_getElem? (i := 119) rfl)) (hw _ (List.mem_of_getElem? (i := 121) rfl)) (hw _ (List.mem_of_getElem? (i := 120) rfl)) (by decide) F119.1 rfl rfl (lenOf pd_11 rfl) rfl (allS (List.mem_of_getElem? (i := 3) rfl) (allS (List.mem_of_getElem? (i := 1) rfl) (all0))) (by decide) (by decide) (Met.pays (rm_add_1 hw hEL Sc hzc l1 e1 d k (.ref e0) _ W111.ext (W111.frs l1 (List.mem_of_getElem? (i := 3) rfl)).1 (W111.frs d (List.mem_of_getElem? (i := 1) rfl)).1 (Ins.of_exa O116.1 (hw _ (List.mem_of_getElem? (i := 146) rfl))) F119 F121 Ov) (hw _ (List.mem_of_getElem? (i := 122) rfl)) (hw _ (List.mem_of_getElem? (i := 31) rfl)) hEL (by decide) (by decide)) fun v127 T122 h124 W123 K125 q126 => ?_
    obtain ⟨rfl, Ol2, Ad2⟩ := q126
    show Goes _ _ _ _ _ _ _ _ _ _ _ T122 (mkF m 126 #[.val (.int p1), .val (.int p2), .val (.int p3), .val (.int p4), .val (.int p5), .val (.int (2 : Int32)), .val (.int dp), .val (.ref x0), .val (.ref x1), .val (.ref x2), .val (.ref u0), .val (.ref u1), .val (.ref u2), .val (.ref l1), .unset, .unset, .unset, .unset, .unset, .unset] [(.int (1 : Int32))])
    have K129 : Keep h112 h124 [l1, d] := ((Keep.refl h112 [l1, d]).trans K125 (allS (Or.inl (List.mem_of_getElem? (i := 0) rfl)) (allS (Or.inl (List.mem_of_getElem? (i := 1) rfl)) (all0))))
    have F130 := O116.keep K129 (ninS ne117 (ninS ne120 nin0))
    have ne128 : e1 ≠ d := Exa.neArv F130.1 Ad2 (hw _ (List.mem_of_getElem? (i := 99) rfl))
    refine g_pop W123 at_126 (pc' := 127) rfl rfl ?_
    refine g_iload W123 at_127 (pc' := 129) rfl rfl ?_
    refine g_iconst W123 at_129 (pc' := 130) (v := (3 : Int32)) rfl rfl ?_
    refine g_icmpY W123 at_130 (pc' := 153) (by decide) (by decide) (Jvm.Free.XT.ii_lt_t (by decide)) ?_
    have K131 : Keep h h72 [] := (((Keep.refl h []).ext E67).trans K73 fun x q => by cases List.mem_singleton.mp q; exact Or.inr (Nat.le_of_eq g66.symm))
    have K132 : Keep h h95 [] := ((((((Keep.refl h []).ext E67).trans K73 fun x q => by cases List.mem_singleton.mp q; exact Or.inr (Nat.le_of_eq g66.symm)).ext E80).trans K86 fun x q => by cases List.mem_singleton.mp q; exact Or.inr (Nat.le_trans K131.1 (Nat.le_of_eq g79.symm))).trans K96 fun x q => by cases List.mem_singleton.mp q; exact Or.inr (Nat.le_of_eq g66.symm))
    have K133 : Keep h h85 [] := (((((Keep.refl h []).ext E67).trans K73 fun x q => by cases List.mem_singleton.mp q; exact Or.inr (Nat.le_of_eq g66.symm)).ext E80).trans K86 fun x q => by cases List.mem_singleton.mp q; exact Or.inr (Nat.le_trans K131.1 (Nat.le_of_eq g79.symm)))
    have K134 : Keep h h124 [] := (((((((((Keep.refl h []).ext E67).trans K73 fun x q => by cases List.mem_singleton.mp q; exact Or.inr (Nat.le_of_eq g66.symm)).ext E80).trans K86 fun x q => by cases List.mem_singleton.mp q; exact Or.inr (Nat.le_trans K131.1 (Nat.le_of_eq g79.symm))).trans K96 fun x q => by cases List.mem_singleton.mp q; exact Or.inr (Nat.le_of_eq g66.symm)).ext E107).trans K113 fun x q => by cases List.mem_singleton.mp q; exact Or.inr (Nat.le_trans K132.1 (Nat.le_of_eq g106.symm))).trans K125 (allS (Or.inr (Nat.le_of_eq g66.symm)) (allS (Or.inr (Nat.le_trans K133.1 gd)) (all0))))
    have F135 := S0.mv K134
    have F136 := S1.mv K134
    have F137 := S2.mv K134
    have K138 : Keep h95 h124 [l1, d] := ((((Keep.refl h95 [l1, d]).ext E107).trans K113 fun x q => by cases List.mem_singleton.mp q; exact Or.inr (Nat.le_of_eq g106.symm)).trans K125 (allS (Or.inl (List.mem_of_getElem? (i := 0) rfl)) (allS (Or.inl (List.mem_of_getElem? (i := 1) rfl)) (all0))))
    have F139 := F102.keep K138 (ninS ne90 (ninS ne100 nin0))
    exact mid2 hw hEL Sc hzc p1 p2 p3 p4 p5 x0 x1 x2 u0 u1 u2 cs0 cs1 cs2 dp l1 d k e0 e1 _ (W123.more (by decide) (by decide)) (K0.trans K134 fun _ q => nomatch q) Se F135 F136 F137 Ol2 Ad2 F139 F130
  · refine g_new W at_66 (pc' := 69) rfl (hw _ (List.mem_of_getElem? (i := 29) rfl)) (hw _ (List.mem_of_getElem? (i := 30) rfl)) (hw _ (List.mem_of_getElem? (i := 31) rfl)) (by decide) (by decide) fun T140 h142 l1 g143 W141 E144 A145 D146 => ?_
    have O_l1 := new_AL hw A145 D146
    refine g_dup W141 at_69 (pc' := 70) rfl rfl ?_
    refine g_special W141 at_70 (pc' := 73) (a := l1) (fr' := [l1]) (argsL := []) (rest := [(.ref l1)]) (Wd := 1) (kc := 0) (ks := 0) rfl rfl (hw _ (List.mem_of_getElem? (i := 32) rfl)) (hw _ (List.mem_of_getElem? (i := 33) rfl)) (hw _ (List.mem_of_getElem? (i := 34) rfl)) (by decide) rfl rfl (lenOf pd_1 rfl) rfl (allS (List.mem_of_getElem? (i := 0) rfl) (all0)) (by decide) (by decide) (Met.pays (rm_alinit hw hEL Sc hzc l1 _ W141.ext Sd Ad (W141.frs l1 (List.mem_of_getElem? (i := 0) rfl)).1 O_l1) (hw _ (List.mem_of_getElem? (i := 34) rfl)) (hw _ (List.mem_of_getElem? (i := 31) rfl)) hEL (by decide) (by decide)) fun v152 T147 h149 W148 K150 q151 => ?_
    obtain ⟨rfl, Ol0⟩ := q151
    show Goes _ _ _ _ _ _ _ _ _ _ _ T147 (mkF m 73 #[.val (.int p1), .val (.int p2), .val (.int p3), .val (.int p4), .val (.int p5), .val (.int (3 : Int32)), .val (.int dp), .val (.ref x0), .val (.ref x1), .val (.ref x2), .val (.ref u0), .val (.ref u1), .val (.ref u2), .unset, .unset, .unset, .unset, .unset, .unset, .unset] [(.ref l1)])
    refine g_astore W148 at_73 (pc' := 75) (L' := #[.val (.int p1), .val (.int p2), .val (.int p3), .val (.int p4), .val (.int p5), .val (.int (3 : Int32)), .val (.int dp), .val (.ref x0), .val (.ref x1), .val (.ref x2), .val (.ref u0), .val (.ref u1), .val (.ref u2), .val (.ref l1), .unset, .unset, .unset, .unset, .unset, .unset]) rfl rfl rfl ?_
    refine g_iload W148 at_75 (pc' := 77) rfl rfl ?_
    refine g_iconst W148 at_77 (pc' := 78) (v := (1 : Int32)) rfl rfl ?_
    refine g_icmpN W148 at_78 (pc' := 81) rfl (Jvm.Free.XT.ii_lt_f (by decide)) ?_
    refine g_aload W148 at_81 (pc' := 83) rfl rfl rfl ?_
    refine g_new W148 at_83 (pc' := 86) rfl (hw _ (List.mem_of_getElem? (i := 98) rfl)) (hw _ (List.mem_of_getElem? (i := 99) rfl)) (hw _ (List.mem_of_getElem? (i := 100) rfl)) (by decide) (by decide) fun T153 h155 e0 g156 W154 E157 A158 D159 => ?_
    have O_e0 := new_At hw A158 D159
    refine g_dup W154 at_86 (pc' := 87) rfl rfl ?_
    refine g_aconst_null W154 at_87 (pc' := 88) rfl ?_
    refine g_aload W154 at_88 (pc' := 90) rfl rfl rfl ?_
    refine g_aload W154 at_90 (pc' := 92) rfl rfl rfl ?_
    refine g_aload W154 at_92 (pc' := 94) rfl rfl rfl ?_
    refine g_special W154 at_94 (pc' := 97) (a := e0) (fr' := [e0]) (argsL := [.null, (.ref x0), (.ref x0), (.ref u0)]) (rest := [(.ref e0), (.ref l1)]) (Wd := 2) (kc := 0) (ks := 0) rfl rfl (hw _ (List.mem_of_getElem? (i := 101) rfl)) (hw _ (List.mem_of_getElem? (i := 102) rfl)) (hw _ (List.mem_of_getElem? (i := 103) rfl)) (by decide) rfl rfl (lenOf pd_16 rfl) rfl (allS (List.mem_of_getElem? (i := 0) rfl) (all0)) (by decide) (by decide) (Met.pays (rm_initA hw hEL Sc hzc e0 .null (.ref x0) (.ref x0) (.ref u0) _ W154.ext rfl rfl rfl rfl (W154.frs e0 (List.mem_of_getElem? (i := 0) rfl)).1 O_e0) (hw _ (List.mem_of_getElem? (i := 103) rfl)) (hw _ (List.mem_of_getElem? (i := 100) rfl)) hEL (by decide) (by decide)) fun v165 T160 h162 W161 K163 q164 => ?_
    obtain ⟨rfl, O166⟩ := q164
    show Goes _ _ _ _ _ _ _ _ _ _ _ T160 (mkF m 97 #[.val (.int p1), .val (.int p2), .val (.int p3), .val (.int p4), .val (.int p5), .val (.int (3 : Int32)), .val (.int dp), .val (.ref x0), .val (.ref x1), .val (.ref x2), .val (.ref u0), .val (.ref u1), .val (.ref u2), .val (.ref l1), .unset, .unset, .unset, .unset, .unset, .unset] [(.ref e0), (.ref l1)])
    have K168 : Keep h149 h162 [] := (((Keep.refl h149 []).ext E157).trans K163 fun x q => by cases List.mem_singleton.mp q; exact Or.inr (Nat.le_of_eq g156.symm))
    have F169 := Ol0.mv K168
    have ne167 : e0 ≠ l1 := Exa.ne O166.1 F169.1 (by decide)
    have hXa := W161.ext
    refine g_virtual W161 at_97 (pc' := 100) (a := l1) (fr' := [l1]) (argsL := [(.ref e0)]) (rest := []) (Wd := 0) (kc := 1) (ks := 10) rfl (hw _ (List.mem_of_getElem? (i := 118) rfl)) (hw _ (List.mem_of_getElem? (i := 119) rfl)) (hw _ (List.mem_of_getElem? (i := 121) rfl)) (hw _ (List.mem_of_getElem? (i := 120) rfl)) (by decide) F169.1 rfl rfl (lenOf pd_11 rfl) rfl (allS (List.mem_of_getElem? (i := 1) rfl) (all0)) (by decide) (by decide) (Met.pays (rm_addf hw hEL Sc hzc l1 e0 _ W161.ext Sd Ad (W161.frs l1 (List.mem_of_getElem? (i := 1) rfl)).1 (Ins.of_exa O166.1 (hw _ (List.mem_of_getElem? (i := 146) rfl))) F169) (hw _ (List.mem_of_getElem? (i := 122) rfl)) (hw _ (List.mem_of_getElem? (i := 31) rfl)) hEL (by decide) (by decide)) fun v175 T170 h172 W171 K173 q174 => ?_
    obtain ⟨rfl, d, k, gd, Ol1, Ad1, Ov⟩ := q174
    show Goes _ _ _ _ _ _ _ _ _ _ _ T170 (mkF m 100 #[.val (.int p1), .val (.int p2), .val (.int p3), .val (.int p4), .val (.int p5), .val (.int (3 : Int32)), .val (.int dp), .val (.ref x0), .val (.ref x1), .val (.ref x2), .val (.ref u0), .val (.ref u1), .val (.ref u2), .val (.ref l1), .unset, .unset, .unset, .unset, .unset, .unset] [(.int (1 : Int32))])
    have W176 := W171.addArv Ad1 (by decide) (Nat.le_trans hXa.1 gd)
    have K178 : Keep h162 h172 [l1] := ((Keep.refl h162 [l1]).trans K173 fun x q => by cases List.mem_singleton.mp q; exact Or.inl (List.mem_of_getElem? (i := 0) rfl))
    have F179 := O166.keep K178 (ninS ne167 nin0)
    have ne177 : e0 ≠ d := Exa.neArv F179.1 Ad1 (hw _ (List.mem_of_getElem? (i := 99) rfl))
    refine g_pop W176 at_100 (pc' := 101) rfl rfl ?_
    refine g_iload W176 at_101 (pc' := 103) rfl rfl ?_
    refine g_iconst W176 at_103 (pc' := 104) (v := (2 : Int32)) rfl rfl ?_
    refine g_icmpN W176 at_104 (pc' := 107) rfl (Jvm.Free.XT.ii_lt_f (by decide)) ?_
    refine g_aload W176 at_107 (pc' := 109) rfl rfl rfl ?_
    refine g_new W176 at_109 (pc' := 112) rfl (hw _ (List.mem_of_getElem? (i := 98) rfl)) (hw _ (List.mem_of_getElem? (i := 99) rfl)) (hw _ (List.mem_of_getElem? (i := 100) rfl)) (by decide) (by decide) fun T180 h182 e1 g183 W181 E184 A185 D186 => ?_
    have O_e1 := new_At hw A185 D186
    refine g_dup W181 at_112 (pc' := 113) rfl rfl ?_
    refine g_aconst_null W181 at_113 (pc' := 114) rfl ?_
    refine g_aload W181 at_114 (pc' := 116) rfl rfl rfl ?_
    refine g_aload W181 at_116 (pc' := 118) rfl rfl rfl ?_
    refine g_aload W181 at_118 (pc' := 120) rfl rfl rfl ?_
    refine g_special W181 at_120 (pc' := 123) (a := e1) (fr' := [e1]) (argsL := [.null, (.ref x1), (.ref x1), (.ref u1)]) (rest := [(.ref e1), (.ref l1)]) (Wd := 2) (kc := 0) (ks := 0) rfl rfl (hw _ (List.mem_of_getElem? (i := 101) rfl)) (hw _ (List.mem_of_getElem? (i := 102) rfl)) (hw _ (List.mem_of_getElem? (i := 103) rfl)) (by decide) rfl rfl (lenOf pd_16 rfl) rfl (allS (List.mem_of_getElem? (i := 0) rfl) (all0)) (by decide) (by decide) (Met.pays (rm_initA hw hEL Sc hzc e1 .null (.ref x1) (.ref x1) (.ref u1) _ W181.ext rfl rfl rfl rfl (W181.frs e1 (List.mem_of_getElem? (i := 0) rfl)).1 O_e1) (hw _ (List.mem_of_getElem? (i := 103) rfl)) (hw _ (List.mem_of_getElem? (i := 100) rfl)) hEL (by decide) (by decide)) fun v192 T187 h189 W188 K190 q191 => ?_
    obtain ⟨rfl, O193⟩ := q191
    show Goes _ _ _ _ _ _ _ _ _ _ _ T187 (mkF m 123 #[.val (.int p1), .val (.int p2), .val (.int p3), .val (.int p4), .val (.int p5), .val (.int (3 : Int32)), .val (.int dp), .val (.ref x0), .val (.ref x1), .val (.ref x2), .val (.ref u0), .val (.ref u1), .val (.ref u2), .val (.ref l1), .unset, .unset, .unset, .unset, .unset, .unset] [(.ref e1), (.ref l1)])
    have K195 : Keep h172 h189 [] := (((Keep.refl h172 []).ext E184).trans K190 fun x q => by cases List.mem_singleton.mp q; exact Or.inr (Nat.le_of_eq g183.symm))
    have F196 := Ol1.mv K195
    have ne194 : e1 ≠ l1 := Exa.ne O193.1 F196.1 (by decide)
    have F198 := Ad1.mv K195
    have ne197 : e1 ≠ d := Exa.neArv O193.1 F198 (hw _ (List.mem_of_getElem? (i := 99) rfl))
    refine g_virtual W188 at_123 (pc' := 126) (a := l1) (fr' := [l1, d]) (argsL := [(.ref e1)]) (rest := []) (Wd := 0) (kc := 0) (ks := 0) rfl (hw _ (List.mem_of_getElem? (i := 118) rfl)) (hw _ (List.mem_of_getElem? (i := 119) rfl)) (hw _ (List.mem_of_getElem? (i := 121) rfl)) (hw _ (List.mem_of_getElem? (i := 120) rfl)) (by decide) F196.1 rfl rfl (lenOf pd_11 rfl) rfl (allS (List.mem_of_getElem? (i := 3) rfl) (allS (List.mem_of_getElem? (i := 1) rfl) (all0))) (by decide) (by decide) (Met.pays (rm_add_1 hw hEL Sc hzc l1 e1 d k (.ref e0) _ W188.ext (W188.frs l1 (List.mem_of_getElem? (i := 3) rfl)).1 (W188.frs d (List.mem_of_getElem? (i := 1) rfl)).1 (Ins.of_exa O193.1 (hw _ (List.mem_of_getElem? (i := 146) rfl))) F196 F198 Ov) (hw _ (List.mem_of_getElem? (i := 122) rfl)) (hw _ (List.mem_of_getElem? (i := 31) rfl)) hEL (by decide) (by decide)) fun v204 T199 h201 W200 K202 q203 => ?_
    obtain ⟨rfl, Ol2, Ad2⟩ := q203
    show Goes _ _ _ _ _ _ _ _ _ _ _ T199 (mkF m 126 #[.val (.int p1), .val (.int p2), .val (.int p3), .val (.int p4), .val (.int p5), .val (.int (3 : Int32)), .val (.int dp), .val (.ref x0), .val (.ref x1), .val (.ref x2), .val (.ref u0), .val (.ref u1), .val (.ref u2), .val (.ref l1), .unset, .unset, .unset, .unset, .unset, .unset] [(.int (1 : Int32))])
    have K206 : Keep h189 h201 [l1, d] := ((Keep.refl h189 [l1, d]).trans K202 (allS (Or.inl (List.mem_of_getElem? (i := 0) rfl)) (allS (Or.inl (List.mem_of_getElem? (i := 1) rfl)) (all0))))
    have F207 := O193.keep K206 (ninS ne194 (ninS ne197 nin0))
    have ne205 : e1 ≠ d := Exa.neArv F207.1 Ad2 (hw _ (List.mem_of_getElem? (i := 99) rfl))
    refine g_pop W200 at_126 (pc' := 127) rfl rfl ?_
    refine g_iload W200 at_127 (pc' := 129) rfl rfl ?_
    refine g_iconst W200 at_129 (pc' := 130) (v := (3 : Int32)) rfl rfl ?_
    refine g_icmpN W200 at_130 (pc' := 133) rfl (Jvm.Free.XT.ii_lt_f (by decide)) ?_
    refine g_aload W200 at_133 (pc' := 135) rfl rfl rfl ?_
    refine g_new W200 at_135 (pc' := 138) rfl (hw _ (List.mem_of_getElem? (i := 98) rfl)) (hw _ (List.mem_of_getElem? (i := 99) rfl)) (hw _ (List.mem_of_getElem? (i := 100) rfl)) (by decide) (by decide) fun T208 h210 e2 g211 W209 E212 A213 D214 => ?_
    have O_e2 := new_At hw A213 D214
    refine g_dup W209 at_138 (pc' := 139) rfl rfl ?_
    refine g_aconst_null W209 at_139 (pc' := 140) rfl ?_
    refine g_aload W209 at_140 (pc' := 142) rfl rfl rfl ?_
    refine g_aload W209 at_142 (pc' := 144) rfl rfl rfl ?_
    refine g_aload W209 at_144 (pc' := 146) rfl rfl rfl ?_
    refine g_special W209 at_146 (pc' := 149) (a := e2) (fr' := [e2]) (argsL := [.null, (.ref x2), (.ref x2), (.ref u2)]) (rest := [(.ref e2), (.ref l1)]) (Wd := 2) (kc := 0) (ks := 0) rfl rfl (hw _ (List.mem_of_getElem? (i := 101) rfl)) (hw _ (List.mem_of_getElem? (i := 102) rfl)) (hw _ (List.mem_of_getElem? (i := 103) rfl)) (by decide) rfl rfl (lenOf pd_16 rfl) rfl (allS (List.mem_of_getElem? (i := 0) rfl) (all0)) (by decide) (by decide) (Met.pays (rm_initA hw hEL Sc hzc e2 .null (.ref x2) (.ref x2) (.ref u2) _ W209.ext rfl rfl rfl rfl (W209.frs e2 (List.mem_of_getElem? (i := 0) rfl)).1 O_e2) (hw _ (List.mem_of_getElem? (i := 103) rfl)) (hw _ (List.mem_of_getElem? (i := 100) rfl)) hEL (by decide) (by decide)) fun v220 T215 h217 W216 K218 q219 => ?_
    obtain ⟨rfl, O221⟩ := q219
    show Goes _ _ _ _ _ _ _ _ _ _ _ T215 (mkF m 149 #[.val (.int p1), .val (.int p2), .val (.int p3), .val (.int p4), .val (.int p5), .val (.int (3 : Int32)), .val (.int dp), .val (.ref x0), .val (.ref x1), .val (.ref x2), .val (.ref u0), .val (.ref u1), .val (.ref u2), .val (.ref l1), .unset, .unset, .unset, .unset, .unset, .unset] [(.ref e2), (.ref l1)])
    have K223 : Keep h201 h217 [] := (((Keep.refl h201 []).ext E212).trans K218 fun x q => by cases List.mem_singleton.mp q; exact Or.inr (Nat.le_of_eq g211.symm))
    have F224 := Ol2.mv K223
    have ne222 : e2 ≠ l1 := Exa.ne O221.1 F224.1 (by decide)
    have F226 := Ad2.mv K223
    have ne225 : e2 ≠ d := Exa.neArv O221.1 F226 (hw _ (List.mem_of_getElem? (i := 99) rfl))
    refine g_virtual W216 at_149 (pc' := 152) (a := l1) (fr' := [l1, d]) (argsL := [(.ref e2)]) (rest := []) (Wd := 0) (kc := 0) (ks := 0) rfl (hw _ (List.mem_of_getElem? (i := 118) rfl)) (hw _ (List.mem_of_getElem? (i := 119) rfl)) (hw _ (List.mem_of_getElem? (i := 121) rfl)) (hw _ (List.mem_of_getElem? (i := 120) rfl)) (by decide) F224.1 rfl rfl (lenOf pd_11 rfl) rfl (allS (List.mem_of_getElem? (i := 4) rfl) (allS (List.mem_of_getElem? (i := 2) rfl) (all0))) (by decide) (by decide) (Met.pays (rm_add_2 hw hEL Sc hzc l1 e2 d k (.ref e0) (.ref e1) _ W216.ext (W216.frs l1 (List.mem_of_getElem? (i := 4) rfl)).1 (W216.frs d (List.mem_of_getElem? (i := 2) rfl)).1 (Ins.of_exa O221.1 (hw _ (List.mem_of_getElem? (i := 146) rfl))) F224 F226 Ov) (hw _ (List.mem_of_getElem? (i := 122) rfl)) (hw _ (List.mem_of_getElem? (i := 31) rfl)) hEL (by decide) (by decide)) fun v232 T227 h229 W228 K230 q231 => ?_
    obtain ⟨rfl, Ol3, Ad3⟩ := q231
    show Goes _ _ _ _ _ _ _ _ _ _ _ T227 (mkF m 152 #[.val (.int p1), .val (.int p2), .val (.int p3), .val (.int p4), .val (.int p5), .val (.int (3 : Int32)), .val (.int dp), .val (.ref x0), .val (.ref x1), .val (.ref x2), .val (.ref u0), .val (.ref u1), .val (.ref u2), .val (.ref l1), .unset, .unset, .unset, .unset, .unset, .unset] [(.int (1 : Int32))])
    have K234 : Keep h217 h229 [l1, d] := ((Keep.refl h217 [l1, d]).trans K230 (allS (Or.inl (List.mem_of_getElem? (i := 0) rfl)) (allS (Or.inl (List.mem_of_getElem? (i := 1) rfl)) (all0))))
    have F235 := O221.keep K234 (ninS ne222 (ninS ne225 nin0))
    have ne233 : e2 ≠ d := Exa.neArv F235.1 Ad3 (hw _ (List.mem_of_getElem? (i := 99) rfl))
    refine g_pop W228 at_152 (pc' := 153) rfl rfl ?_
    have K236 : Keep h h149 [] := (((Keep.refl h []).ext E144).trans K150 fun x q => by cases List.mem_singleton.mp q; exact Or.inr (Nat.le_of_eq g143.symm))
    have K237 : Keep h h172 [] := ((((((Keep.refl h []).ext E144).trans K150 fun x q => by cases List.mem_singleton.mp q; exact Or.inr (Nat.le_of_eq g143.symm)).ext E157).trans K163 fun x q => by cases List.mem_singleton.mp q; exact Or.inr (Nat.le_trans K236.1 (Nat.le_of_eq g156.symm))).trans K173 fun x q => by cases List.mem_singleton.mp q; exact Or.inr (Nat.le_of_eq g143.symm))
    have K238 : Keep h h162 [] := (((((Keep.refl h []).ext E144).trans K150 fun x q => by cases List.mem_singleton.mp q; exact Or.inr (Nat.le_of_eq g143.symm)).ext E157).trans K163 fun x q => by cases List.mem_singleton.mp q; exact Or.inr (Nat.le_trans K236.1 (Nat.le_of_eq g156.symm)))
    have K239 : Keep h h201 [] := (((((((((Keep.refl h []).ext E144).trans K150 fun x q => by cases List.mem_singleton.mp q; exact Or.inr (Nat.le_of_eq g143.symm)).ext E157).trans K163 fun x q => by cases List.mem_singleton.mp q; exact Or.inr (Nat.le_trans K236.1 (Nat.le_of_eq g156.symm))).trans K173 fun x q => by cases List.mem_singleton.mp q; exact Or.inr (Nat.le_of_eq g143.symm)).ext E184).trans K190 fun x q => by cases List.mem_singleton.mp q; exact Or.inr (Nat.le_trans K237.1 (Nat.le_of_eq g183.symm))).trans K202 (allS (Or.inr (Nat.le_of_eq g143.symm)) (allS (Or.inr (Nat.le_trans K238.1 gd)) (all0))))
    have K240 : Keep h h229 [] := ((((((((((((Keep.refl h []).ext E144).trans K150 fun x q => by cases List.mem_singleton.mp q; exact Or.inr (Nat.le_of_eq g143.symm)).ext E157).trans K163 fun x q => by cases List.mem_singleton.mp q; exact Or.inr (Nat.le_trans K236.1 (Nat.le_of_eq g156.symm))).trans K173 fun x q => by cases List.mem_singleton.mp q; exact Or.inr (Nat.le_of_eq g143.symm)).ext E184).trans K190 fun x q => by cases List.mem_singleton.mp q; exact Or.inr (Nat.le_trans K237.1 (Nat.le_of_eq g183.symm))).trans K202 (allS (Or.inr (Nat.le_of_eq g143.symm)) (allS (Or.inr (Nat.le_trans K238.1 gd)) (all0)))).ext E212).trans K218 fun x q => by cases List.mem_singleton.mp q; exact Or.inr (Nat.le_trans K239.1 (Nat.le_of_eq g211.symm))).trans K230 (allS (Or.inr (Nat.le_of_eq g143.symm)) (allS (Or.inr (Nat.le_trans K238.1 gd)) (all0))))
    have F241 := S0.mv K240
    have F242 := S1.mv K240
    have F243 := S2.mv K240
    have K244 : Keep h172 h201 [l1, d] := ((((Keep.refl h172 [l1, d]).ext E184).trans K190 fun x q => by cases List.mem_singleton.mp q; exact Or.inr (Nat.le_of_eq g183.symm)).trans K202 (allS (Or.inl (List.mem_of_getElem? (i := 0) rfl)) (allS (Or.inl (List.mem_of_getElem? (i := 1) rfl)) (all0))))
    have K245 : Keep h172 h229 [l1, d] := (((((((Keep.refl h172 [l1, d]).ext E184).trans K190 fun x q => by cases List.mem_singleton.mp q; exact Or.inr (Nat.le_of_eq g183.symm)).trans K202 (allS (Or.inl (List.mem_of_getElem? (i := 0) rfl)) (allS (Or.inl (List.mem_of_getElem? (i := 1) rfl)) (all0)))).ext E212).trans K218 fun x q => by cases List.mem_singleton.mp q; exact Or.inr (Nat.le_trans K244.1 (Nat.le_of_eq g211.symm))).trans K230 (allS (Or.inl (List.mem_of_getElem? (i := 0) rfl)) (allS (Or.inl (List.mem_of_getElem? (i := 1) rfl)) (all0))))
    have F246 := F179.keep K245 (ninS ne167 (ninS ne177 nin0))
    have K247 : Keep h201 h229 [l1, d] := ((((Keep.refl h201 [l1, d]).ext E212).trans K218 fun x q => by cases List.mem_singleton.mp q; exact Or.inr (Nat.le_of_eq g211.symm)).trans K230 (allS (Or.inl (List.mem_of_getElem? (i := 0) rfl)) (allS (Or.inl (List.mem_of_getElem? (i := 1) rfl)) (all0))))
    have F248 := F207.keep K247 (ninS ne194 (ninS ne205 nin0))
    exact mid3 hw hEL Sc hzc p1 p2 p3 p4 p5 x0 x1 x2 u0 u1 u2 cs0 cs1 cs2 dp l1 d k e0 e1 e2 _ (W228.more (by decide) (by decide)) (K0.trans K240 fun _ q => nomatch q) Se F241 F242 F243 Ol3 Ad3 F246 F248 F235
theorem pn_2 : plainName "com/example/config_into_context/configintocontext/XmlElementGivenPinLaw" = true := by first | (simp [plainName, overriddenIn]; done) | decide +kernel
set_option maxRecDepth 65536 in
set_option maxHeartbeats 40000000 in
theorem rm_law {l : Launch} {Z : State} {a0 : Array Value} (hw : ∀ d ∈ tables_1, d.before a0 Z = true) (hEL : EW Z a0 EL1) {zc : Int32} (Sc : Sta Z Z.heap "java/lang/String" "COMPACT_STRINGS" "Z" (.int zc)) (hzc : ¬ zc = 0) (p1 p2 p3 p4 p5 : Int32) {de : Addr} {kd : ClassId} {el : Addr} (h : Heap) (hX : Ext Z.heap h) (Sd : Sta Z Z.heap "java/util/ArrayList" "DEFAULTCAPACITY_EMPTY_ELEMENTDATA" "[Ljava/lang/Object;" (.ref de)) (Ad : Arv Z Z.heap de kd (.object "java/lang/Object") (0 : Int32) [] .null) (Se : Sta Z Z.heap "java/util/ImmutableCollections" "EMPTY_LIST" "Ljava/util/ImmutableCollections$ListN;" (.ref el)) : Met l Z EL1 NW x code maxLocals ret tables_1 room_1 #[(.int p1), (.int p2), (.int p3), (.int p4), (.int p5)] h [] (fun v _ => v = some (.int 1)) := by
  refine Met.intro (plainFor_of_name pn_2) hEL hX (fun _ q => nomatch q) ?_
  intro p e s m below meth c T W
  refine Goes.cast (show entryFrame m #[(.int p1), (.int p2), (.int p3), (.int p4), (.int p5)] maxLocals = mkF m 0 #[.val (.int p1), .val (.int p2), .val (.int p3), .val (.int p4), .val (.int p5), .unset, .unset, .unset, .unset, .unset, .unset, .unset, .unset, .unset, .unset, .unset, .unset, .unset, .unset, .unset] [] by first | (simp [entryFrame, mkF, argsToLocals, Value.category, maxLocals]; done) | rfl) ?_
  refine g_iload W at_0 (pc' := 2) rfl rfl ?_
  refine g_iconst W at_2 (pc' := 3) (v := (3 : Int32)) rfl rfl ?_
  refine g_iushr W at_3 (pc' := 4) rfl ?_
  refine g_iconst W at_4 (pc' := 5) (v := (3 : Int32)) rfl rfl ?_
  refine g_iand W at_5 (pc' := 6) rfl ?_
  refine g_istore W at_6 (pc' := 8) (L' := #[.val (.int p1), .val (.int p2), .val (.int p3), .val (.int p4), .val (.int p5), .val (.int (((p5.toUInt32 >>> ((3 : Int32) &&& 31).toUInt32).toInt32) &&& (3 : Int32))), .unset, .unset, .unset, .unset, .unset, .unset, .unset, .unset, .unset, .unset, .unset, .unset, .unset, .unset]) rfl rfl ?_
  refine g_iload W at_8 (pc' := 10) rfl rfl ?_
  refine g_iconst W at_10 (pc' := 11) (v := (5 : Int32)) rfl rfl ?_
  refine g_iushr W at_11 (pc' := 12) rfl ?_
  refine g_iconst W at_12 (pc' := 13) (v := (1 : Int32)) rfl rfl ?_
  refine g_iand W at_13 (pc' := 14) rfl ?_
  by_cases c1 : (((p5.toUInt32 >>> ((5 : Int32) &&& 31).toUInt32).toInt32) &&& (1 : Int32)) = 0
  · refine g_ifY W at_14 (pc' := 21) (by decide) (by decide) (Jvm.Free.XT.i0_eq_t c1) ?_
    refine g_iconst W at_21 (pc' := 22) (v := (0 : Int32)) rfl rfl ?_
    refine g_istore W at_22 (pc' := 24) (L' := #[.val (.int p1), .val (.int p2), .val (.int p3), .val (.int p4), .val (.int p5), .val (.int (((p5.toUInt32 >>> ((3 : Int32) &&& 31).toUInt32).toInt32) &&& (3 : Int32))), .val (.int (0 : Int32)), .unset, .unset, .unset, .unset, .unset, .unset, .unset, .unset, .unset, .unset, .unset, .unset, .unset]) rfl rfl ?_
    refine g_iload_n W at_24 (pc' := 25) rfl rfl ?_
    refine g_static W at_25 (pc' := 28) (fr' := []) (argsL := [(.int p1)]) (rest := []) (Wd := 0) (kc := 6) (ks := 16) rfl (hw _ (List.mem_of_getElem? (i := 0) rfl)) (hw _ (List.mem_of_getElem? (i := 1) rfl)) (hw _ (List.mem_of_getElem? (i := 2) rfl)) (hw _ (List.mem_of_getElem? (i := 3) rfl)) (by decide) rfl rfl (lenOf pd_15 rfl) rfl all0 (by decide) (by decide) (Met.pays (rm_mk hw hEL Sc hzc p1 _ W.ext) (hw _ (List.mem_of_getElem? (i := 3) rfl)) (hw _ (List.mem_of_getElem? (i := 2) rfl)) hEL (by decide) (by decide)) fun v7 T2 h4 W3 K5 q6 => ?_
    obtain ⟨x0, cs0, rfl, Sx0⟩ := q6
    show Goes _ _ _ _ _ _ _ _ _ _ _ T2 (mkF m 28 #[.val (.int p1), .val (.int p2), .val (.int p3), .val (.int p4), .val (.int p5), .val (.int (((p5.toUInt32 >>> ((3 : Int32) &&& 31).toUInt32).toInt32) &&& (3 : Int32))), .val (.int (0 : Int32)), .unset, .unset, .unset, .unset, .unset, .unset, .unset, .unset, .unset, .unset, .unset, .unset, .unset] [(.ref x0)])
    refine g_astore W3 at_28 (pc' := 30) (L' := #[.val (.int p1), .val (.int p2), .val (.int p3), .val (.int p4), .val (.int p5), .val (.int (((p5.toUInt32 >>> ((3 : Int32) &&& 31).toUInt32).toInt32) &&& (3 : Int32))), .val (.int (0 : Int32)), .val (.ref x0), .unset, .unset, .unset, .unset, .unset, .unset, .unset, .unset, .unset, .unset, .unset, .unset]) rfl rfl rfl ?_
    refine g_iload W3 at_30 (pc' := 32) rfl rfl ?_
    refine g_ifY W3 at_32 (pc' := 42) (by decide) (by decide) (Jvm.Free.XT.i0_eq_t rfl) ?_
    refine g_iload_n W3 at_42 (pc' := 43) rfl rfl ?_
    refine g_static W3 at_43 (pc' := 46) (fr' := []) (argsL := [(.int p2)]) (rest := []) (Wd := 0) (kc := 6) (ks := 16) rfl (hw _ (List.mem_of_getElem? (i := 0) rfl)) (hw _ (List.mem_of_getElem? (i := 1) rfl)) (hw _ (List.mem_of_getElem? (i := 2) rfl)) (hw _ (List.mem_of_getElem? (i := 3) rfl)) (by decide) rfl rfl (lenOf pd_15 rfl) rfl all0 (by decide) (by decide) (Met.pays (rm_mk hw hEL Sc hzc p2 _ W3.ext) (hw _ (List.mem_of_getElem? (i := 3) rfl)) (hw _ (List.mem_of_getElem? (i := 2) rfl)) hEL (by decide) (by decide)) fun v13 T8 h10 W9 K11 q12 => ?_
    obtain ⟨x1, cs1, rfl, Sx1⟩ := q12
    show Goes _ _ _ _ _ _ _ _ _ _ _ T8 (mkF m 46 #[.val (.int p1), .val (.int p2), .val (.int p3), .val (.int p4), .val (.int p5), .val (.int (((p5.toUInt32 >>> ((3 : Int32) &&& 31).toUInt32).toInt32) &&& (3 : Int32))), .val (.int (0 : Int32)), .val (.ref x0), .unset, .unset, .unset, .unset, .unset, .unset, .unset, .unset, .unset, .unset, .unset, .unset] [(.ref x1)])
    refine g_astore W9 at_46 (pc' := 48) (L' := #[.val (.int p1), .val (.int p2), .val (.int p3), .val (.int p4), .val (.int p5), .val (.int (((p5.toUInt32 >>> ((3 : Int32) &&& 31).toUInt32).toInt32) &&& (3 : Int32))), .val (.int (0 : Int32)), .val (.ref x0), .val (.ref x1), .unset, .unset, .unset, .unset, .unset, .unset, .unset, .unset, .unset, .unset, .unset]) rfl rfl rfl ?_
    refine g_iload_n W9 at_48 (pc' := 49) rfl rfl ?_
    refine g_static W9 at_49 (pc' := 52) (fr' := []) (argsL := [(.int p3)]) (rest := []) (Wd := 0) (kc := 6) (ks := 16) rfl (hw _ (List.mem_of_getElem? (i := 0) rfl)) (hw _ (List.mem_of_getElem? (i := 1) rfl)) (hw _ (List.mem_of_getElem? (i := 2) rfl)) (hw _ (List.mem_of_getElem? (i := 3) rfl)) (by decide) rfl rfl (lenOf pd_15 rfl) rfl all0 (by decide) (by decide) (Met.pays (rm_mk hw hEL Sc hzc p3 _ W9.ext) (hw _ (List.mem_of_getElem? (i := 3) rfl)) (hw _ (List.mem_of_getElem? (i := 2) rfl)) hEL (by decide) (by decide)) fun v19 T14 h16 W15 K17 q18 => ?_
    obtain ⟨x2, cs2, rfl, Sx2⟩ := q18
    show Goes _ _ _ _ _ _ _ _ _ _ _ T14 (mkF m 52 #[.val (.int p1), .val (.int p2), .val (.int p3), .val (.int p4), .val (.int p5), .val (.int (((p5.toUInt32 >>> ((3 : Int32) &&& 31).toUInt32).toInt32) &&& (3 : Int32))), .val (.int (0 : Int32)), .val (.ref x0), .val (.ref x1), .unset, .unset, .unset, .unset, .unset, .unset, .unset, .unset, .unset, .unset, .unset] [(.ref x2)])
    refine g_astore W15 at_52 (pc' := 54) (L' := #[.val (.int p1), .val (.int p2), .val (.int p3), .val (.int p4), .val (.int p5), .val (.int (((p5.toUInt32 >>> ((3 : Int32) &&& 31).toUInt32).toInt32) &&& (3 : Int32))), .val (.int (0 : Int32)), .val (.ref x0), .val (.ref x1), .val (.ref x2), .unset, .unset, .unset, .unset, .unset, .unset, .unset, .unset, .unset, .unset]) rfl rfl rfl ?_
    refine g_ldc W15 at_54 (pc' := 56) (text := "v0") (vs := [(.int (118 : Int32)), (.int (48 : Int32))]) (zz := (2 : Int32)) (n := 8) rfl (hw _ (List.mem_of_getElem? (i := 26) rfl)) (wS_of hw) (List.mem_of_getElem? (i := 1) rfl) ⟨by decide +kernel, by decide +kernel⟩ (by decide) (by decide) (by decide +kernel) (by decide) (by decide) (by decide) fun T20 h22 a30 b31 kb29 W21 E23 X24 C25 V26 A27 ne28 => ?_
    refine g_astore W21 at_56 (pc' := 58) (L' := #[.val (.int p1), .val (.int p2), .val (.int p3), .val (.int p4), .val (.int p5), .val (.int (((p5.toUInt32 >>> ((3 : Int32) &&& 31).toUInt32).toInt32) &&& (3 : Int32))), .val (.int (0 : Int32)), .val (.ref x0), .val (.ref x1), .val (.ref x2), .val (.ref a30), .unset, .unset, .unset, .unset, .unset, .unset, .unset, .unset, .unset]) rfl rfl rfl ?_
    refine g_ldc W21 at_58 (pc' := 60) (text := "v1") (vs := [(.int (118 : Int32)), (.int (49 : Int32))]) (zz := (2 : Int32)) (n := 8) rfl (hw _ (List.mem_of_getElem? (i := 27) rfl)) (wS_of hw) (List.mem_of_getElem? (i := 2) rfl) ⟨by decide +kernel, by decide +kernel⟩ (by decide) (by decide) (by decide +kernel) (by decide) (by decide) (by decide) fun T32 h34 a42 b43 kb41 W33 E35 X36 C37 V38 A39 ne40 => ?_
    refine g_astore W33 at_60 (pc' := 62) (L' := #[.val (.int p1), .val (.int p2), .val (.int p3), .val (.int p4), .val (.int p5), .val (.int (((p5.toUInt32 >>> ((3 : Int32) &&& 31).toUInt32).toInt32) &&& (3 : Int32))), .val (.int (0 : Int32)), .val (.ref x0), .val (.ref x1), .val (.ref x2), .val (.ref a30), .val (.ref a42), .unset, .unset, .unset, .unset, .unset, .unset, .unset, .unset]) rfl rfl rfl ?_
    refine g_ldc W33 at_62 (pc' := 64) (text := "v2") (vs := [(.int (118 : Int32)), (.int (50 : Int32))]) (zz := (2 : Int32)) (n := 8) rfl (hw _ (List.mem_of_getElem? (i := 28) rfl)) (wS_of hw) (List.mem_of_getElem? (i := 3) rfl) ⟨by decide +kernel, by decide +kernel⟩ (by decide) (by decide) (by decide +kernel) (by decide) (by decide) (by decide) fun T44 h46 a54 b55 kb53 W45 E47 X48 C49 V50 A51 ne52 => ?_
    refine g_astore W45 at_64 (pc' := 66) (L' := #[.val (.int p1), .val (.int p2), .val (.int p3), .val (.int p4), .val (.int p5), .val (.int (((p5.toUInt32 >>> ((3 : Int32) &&& 31).toUInt32).toInt32) &&& (3 : Int32))), .val (.int (0 : Int32)), .val (.ref x0), .val (.ref x1), .val (.ref x2), .val (.ref a30), .val (.ref a42), .val (.ref a54), .unset, .unset, .unset, .unset, .unset, .unset, .unset]) rfl rfl rfl ?_
    have K56 : Keep h4 h46 [] := ((((((Keep.refl h4 []).trans K11 fun _ q => nomatch q).trans K17 fun _ q => nomatch q).ext E23).ext E35).ext E47)
    have F57 := Sx0.mv K56
    have K58 : Keep h10 h46 [] := (((((Keep.refl h10 []).trans K17 fun _ q => nomatch q).ext E23).ext E35).ext E47)
    have F59 := Sx1.mv K58
    have K60 : Keep h16 h46 [] := ((((Keep.refl h16 []).ext E23).ext E35).ext E47)
    have F61 := Sx2.mv K60
    have K62 : Keep h h46 [] := (((((((Keep.refl h []).trans K5 fun _ q => nomatch q).trans K11 fun _ q => nomatch q).trans K17 fun _ q => nomatch q).ext E23).ext E35).ext E47)
    exact build hw hEL Sc hzc p1 p2 p3 p4 p5 x0 x1 x2 a30 a42 a54 cs0 cs1 cs2 (0 : Int32) (((p5.toUInt32 >>> ((3 : Int32) &&& 31).toUInt32).toInt32) &&& (3 : Int32)) _ (W45.more (by decide) (by decide)) K62 Sd Ad Se (and3 _) F57 F59 F61
  · refine g_ifN W at_14 (pc' := 17) rfl (Jvm.Free.XT.i0_eq_f c1) ?_
    refine g_iconst W at_17 (pc' := 18) (v := (1 : Int32)) rfl rfl ?_
    refine g_goto W at_18 (pc' := 22) (by decide) (by decide) ?_
    refine g_istore W at_22 (pc' := 24) (L' := #[.val (.int p1), .val (.int p2), .val (.int p3), .val (.int p4), .val (.int p5), .val (.int (((p5.toUInt32 >>> ((3 : Int32) &&& 31).toUInt32).toInt32) &&& (3 : Int32))), .val (.int (1 : Int32)), .unset, .unset, .unset, .unset, .unset, .unset, .unset, .unset, .unset, .unset, .unset, .unset, .unset]) rfl rfl ?_
    refine g_iload_n W at_24 (pc' := 25) rfl rfl ?_
    refine g_static W at_25 (pc' := 28) (fr' := []) (argsL := [(.int p1)]) (rest := []) (Wd := 0) (kc := 6) (ks := 16) rfl (hw _ (List.mem_of_getElem? (i := 0) rfl)) (hw _ (List.mem_of_getElem? (i := 1) rfl)) (hw _ (List.mem_of_getElem? (i := 2) rfl)) (hw _ (List.mem_of_getElem? (i := 3) rfl)) (by decide) rfl rfl (lenOf pd_15 rfl) rfl all0 (by decide) (by decide) (Met.pays (rm_mk hw hEL Sc hzc p1 _ W.ext) (hw _ (List.mem_of_getElem? (i := 3) rfl)) (hw _ (List.mem_of_getElem? (i := 2) rfl)) hEL (by decide) (by decide)) fun v68 T63 h65 W64 K66 q67 => ?_
    obtain ⟨x0, cs0, rfl, Sx0⟩ := q67
    show Goes _ _ _ _ _ _ _ _ _ _ _ T63 (mkF m 28 #[.val (.int p1), .val (.int p2), .val (.int p3), .val (.int p4), .val (.int p5), .val (.int (((p5.toUInt32 >>> ((3 : Int32) &&& 31).toUInt32).toInt32) &&& (3 : Int32))), .val (.int (1 : Int32)), .unset, .unset, .unset, .unset, .unset, .unset, .unset, .unset, .unset, .unset, .unset, .unset, .unset] [(.ref x0)])
    refine g_astore W64 at_28 (pc' := 30) (L' := #[.val (.int p1), .val (.int p2), .val (.int p3), .val (.int p4), .val (.int p5), .val (.int (((p5.toUInt32 >>> ((3 : Int32) &&& 31).toUInt32).toInt32) &&& (3 : Int32))), .val (.int (1 : Int32)), .val (.ref x0), .unset, .unset, .unset, .unset, .unset, .unset, .unset, .unset, .unset, .unset, .unset, .unset]) rfl rfl rfl ?_
    refine g_iload W64 at_30 (pc' := 32) rfl rfl ?_
    refine g_ifN W64 at_32 (pc' := 35) rfl (Jvm.Free.XT.i0_eq_f (by decide)) ?_
    refine g_iload_n W64 at_35 (pc' := 36) rfl rfl ?_
    refine g_static W64 at_36 (pc' := 39) (fr' := []) (argsL := [(.int p1)]) (rest := []) (Wd := 0) (kc := 6) (ks := 16) rfl (hw _ (List.mem_of_getElem? (i := 0) rfl)) (hw _ (List.mem_of_getElem? (i := 1) rfl)) (hw _ (List.mem_of_getElem? (i := 2) rfl)) (hw _ (List.mem_of_getElem? (i := 3) rfl)) (by decide) rfl rfl (lenOf pd_15 rfl) rfl all0 (by decide) (by decide) (Met.pays (rm_mk hw hEL Sc hzc p1 _ W64.ext) (hw _ (List.mem_of_getElem? (i := 3) rfl)) (hw _ (List.mem_of_getElem? (i := 2) rfl)) hEL (by decide) (by decide)) fun v74 T69 h71 W70 K72 q73 => ?_
    obtain ⟨x1, cs1, rfl, Sx1⟩ := q73
    show Goes _ _ _ _ _ _ _ _ _ _ _ T69 (mkF m 39 #[.val (.int p1), .val (.int p2), .val (.int p3), .val (.int p4), .val (.int p5), .val (.int (((p5.toUInt32 >>> ((3 : Int32) &&& 31).toUInt32).toInt32) &&& (3 : Int32))), .val (.int (1 : Int32)), .val (.ref x0), .unset, .unset, .unset, .unset, .unset, .unset, .unset, .unset, .unset, .unset, .unset, .unset] [(.ref x1)])
    refine g_goto W70 at_39 (pc' := 46) (by decide) (by decide) ?_
    refine g_astore W70 at_46 (pc' := 48) (L' := #[.val (.int p1), .val (.int p2), .val (.int p3), .val (.int p4), .val (.int p5), .val (.int (((p5.toUInt32 >>> ((3 : Int32) &&& 31).toUInt32).toInt32) &&& (3 : Int32))), .val (.int (1 : Int32)), .val (.ref x0), .val (.ref x1), .unset, .unset, .unset, .unset, .unset, .unset, .unset, .unset, .unset, .unset, .unset]) rfl rfl rfl ?_
    refine g_iload_n W70 at_48 (pc' := 49) rfl rfl ?_
    refine g_static W70 at_49 (pc' := 52) (fr' := []) (argsL := [(.int p3)]) (rest := []) (Wd := 0) (kc := 6) (ks := 16) rfl (hw _ (List.mem_of_getElem? (i := 0) rfl)) (hw _ (List.mem_of_getElem? (i := 1) rfl)) (hw _ (List.mem_of_getElem? (i := 2) rfl)) (hw _ (List.mem_of_getElem? (i := 3) rfl)) (by decide) rfl rfl (lenOf pd_15 rfl) rfl all0 (by decide) (by decide) (Met.pays (rm_mk hw hEL Sc hzc p3 _ W70.ext) (hw _ (List.mem_of_getElem? (i := 3) rfl)) (hw _ (List.mem_of_getElem? (i := 2) rfl)) hEL (by decide) (by decide)) fun v80 T75 h77 W76 K78 q79 => ?_
    obtain ⟨x2, cs2, rfl, Sx2⟩ := q79
    show Goes _ _ _ _ _ _ _ _ _ _ _ T75 (mkF m 52 #[.val (.int p1), .val (.int p2), .val (.int p3), .val (.int p4), .val (.int p5), .val (.int (((p5.toUInt32 >>> ((3 : Int32) &&& 31).toUInt32).toInt32) &&& (3 : Int32))), .val (.int (1 : Int32)), .val (.ref x0), .val (.ref x1), .unset, .unset, .unset, .unset, .unset, .unset, .unset, .unset, .unset, .unset, .unset] [(.ref x2)])
    refine g_astore W76 at_52 (pc' := 54) (L' := #[.val (.int p1), .val (.int p2), .val (.int p3), .val (.int p4), .val (.int p5), .val (.int (((p5.toUInt32 >>> ((3 : Int32) &&& 31).toUInt32).toInt32) &&& (3 : Int32))), .val (.int (1 : Int32)), .val (.ref x0), .val (.ref x1), .val (.ref x2), .unset, .unset, .unset, .unset, .unset, .unset, .unset, .unset, .unset, .unset]) rfl rfl rfl ?_
    refine g_ldc W76 at_54 (pc' := 56) (text := "v0") (vs := [(.int (118 : Int32)), (.int (48 : Int32))]) (zz := (2 : Int32)) (n := 8) rfl (hw _ (List.mem_of_getElem? (i := 26) rfl)) (wS_of hw) (List.mem_of_getElem? (i := 1) rfl) ⟨by decide +kernel, by decide +kernel⟩ (by decide) (by decide) (by decide +kernel) (by decide) (by decide) (by decide) fun T81 h83 a91 b92 kb90 W82 E84 X85 C86 V87 A88 ne89 => ?_
    refine g_astore W82 at_56 (pc' := 58) (L' := #[.val (.int p1), .val (.int p2), .val (.int p3), .val (.int p4), .val (.int p5), .val (.int (((p5.toUInt32 >>> ((3 : Int32) &&& 31).toUInt32).toInt32) &&& (3 : Int32))), .val (.int (1 : Int32)), .val (.ref x0), .val (.ref x1), .val (.ref x2), .val (.ref a91), .unset, .unset, .unset, .unset, .unset, .unset, .unset, .unset, .unset]) rfl rfl rfl ?_
    refine g_ldc W82 at_58 (pc' := 60) (text := "v1") (vs := [(.int (118 : Int32)), (.int (49 : Int32))]) (zz := (2 : Int32)) (n := 8) rfl (hw _ (List.mem_of_getElem? (i := 27) rfl)) (wS_of hw) (List.mem_of_getElem? (i := 2) rfl) ⟨by decide +kernel, by decide +kernel⟩ (by decide) (by decide) (by decide +kernel) (by decide) (by decide) (by decide) fun T93 h95 a103 b104 kb102 W94 E96 X97 C98 V99 A100 ne101 => ?_
    refine g_astore W94 at_60 (pc' := 62) (L' := #[.val (.int p1), .val (.int p2), .val (.int p3), .val (.int p4), .val (.int p5), .val (.int (((p5.toUInt32 >>> ((3 : Int32) &&& 31).toUInt32).toInt32) &&& (3 : Int32))), .val (.int (1 : Int32)), .val (.ref x0), .val (.ref x1), .val (.ref x2), .val (.ref a91), .val (.ref a103), .unset, .unset, .unset, .unset, .unset, .unset, .unset, .unset]) rfl rfl rfl ?_
    refine g_ldc W94 at_62 (pc' := 64) (text := "v2") (vs := [(.int (118 : Int32)), (.int (50 : Int32))]) (zz := (2 : Int32)) (n := 8) rfl (hw _ (List.mem_of_getElem? (i := 28) rfl)) (wS_of hw) (List.mem_of_getElem? (i := 3) rfl) ⟨by decide +kernel, by decide +kernel⟩ (by decide) (by decide) (by decide +kernel) (by decide) (by decide) (by decide) fun T105 h107 a115 b116 kb114 W106 E108 X109 C110 V111 A112 ne113 => ?_
    refine g_astore W106 at_64 (pc' := 66) (L' := #[.val (.int p1), .val (.int p2), .val (.int p3), .val (.int p4), .val (.int p5), .val (.int (((p5.toUInt32 >>> ((3 : Int32) &&& 31).toUInt32).toInt32) &&& (3 : Int32))), .val (.int (1 : Int32)), .val (.ref x0), .val (.ref x1), .val (.ref x2), .val (.ref a91), .val (.ref a103), .val (.ref a115), .unset, .unset, .unset, .unset, .unset, .unset, .unset]) rfl rfl rfl ?_
    have K117 : Keep h65 h107 [] := ((((((Keep.refl h65 []).trans K72 fun _ q => nomatch q).trans K78 fun _ q => nomatch q).ext E84).ext E96).ext E108)
    have F118 := Sx0.mv K117
    have K119 : Keep h71 h107 [] := (((((Keep.refl h71 []).trans K78 fun _ q => nomatch q).ext E84).ext E96).ext E108)
    have F120 := Sx1.mv K119
    have K121 : Keep h77 h107 [] := ((((Keep.refl h77 []).ext E84).ext E96).ext E108)
    have F122 := Sx2.mv K121
    have K123 : Keep h h107 [] := (((((((Keep.refl h []).trans K66 fun _ q => nomatch q).trans K72 fun _ q => nomatch q).trans K78 fun _ q => nomatch q).ext E84).ext E96).ext E108)
    exact build hw hEL Sc hzc p1 p2 p3 p4 p5 x0 x1 x2 a91 a103 a115 cs0 cs1 cs2 (1 : Int32) (((p5.toUInt32 >>> ((3 : Int32) &&& 31).toUInt32).toInt32) &&& (3 : Int32)) _ (W106.more (by decide) (by decide)) K123 Sd Ad Se (and3 _) F118 F120 F122
set_option maxRecDepth 65536 in
theorem comes_1 {Post : Tables → Env → Array Value → State → Outcome → State → Prop} (hpost : ∀ tb e args s v u, (limb_1_1.after args s (.returned v) u = true ∧ limb_1_2.after args s (.returned v) u = true ∧ True) → ReturnedEndW s (.returned v) u (Jvm.fieldLocs frame_1_writes args s ++ Jvm.arrayLocs frame_1_arrays args s ++ Jvm.staticLocs frame_1_statics s) 56 6400 → Post tb e args s (.returned v) u) :
    ArmFor flags0 classFile x code maxLocals ret World_1 tables_1 room_1 Calls_1 rest_1 Pre_1 Post := by
  intro l hfl _ _ p e ha hc hk s m args below hf hA hF happ hP
  obtain ⟨hcalls, hrest, hpre⟩ := hP
  obtain ⟨-, -, -, hnamed, -, -, -, hat⟩ := (Spec.applies_iff hf).mp happ
  obtain ⟨hg, hn⟩ := and_e (Cond.before_iff.mp (show (Jvm.Cond.and given_1 narrow_1).before args s = true from hpre))
  obtain ⟨g0, r0⟩ := and_e hg
  obtain ⟨g1, r1⟩ := and_e r0
  obtain ⟨g2, r2⟩ := and_e r1
  obtain ⟨g3, r3⟩ := and_e r2
  obtain ⟨g4, r4⟩ := and_e r3
  obtain ⟨w0, w1, w2, w3, w4, rfl⟩ : ∃ w0 w1 w2 w3 w4 : Value, args = #[w0, w1, w2, w3, w4] := by
    have hs : args.size = 5 := by simpa [Cond.value, given_1] using g0
    obtain ⟨L⟩ := args
    match L, hs with
    | [w0, w1, w2, w3, w4], _ => exact ⟨w0, w1, w2, w3, w4, rfl⟩
  have hw := fun d (hd : d ∈ tables_1) => atoms_spec (ws := Jvm.Cond.code x code maxLocals ret :: tables_1) hat d (List.mem_cons_of_mem _ hd)
  obtain ⟨hsets, hown0⟩ := atoms_of _ (rest_1_c_eq ▸ (show rest_1_c.before _ s = true from hrest))
  obtain ⟨i0, e0⟩ := is_v g1
  obtain rfl : w0 = (.int i0) := Option.some.inj e0
  obtain ⟨i1, e1⟩ := is_v g2
  obtain rfl : w1 = (.int i1) := Option.some.inj e1
  obtain ⟨i2, e2⟩ := is_v g3
  obtain rfl : w2 = (.int i2) := Option.some.inj e2
  obtain ⟨i3, e3⟩ := is_v g4
  obtain rfl : w3 = (.int i3) := Option.some.inj e3
  obtain ⟨i4, e4⟩ := is_v r4
  obtain rfl : w4 = (.int i4) := Option.some.inj e4
  obtain ⟨zc, ez⟩ := is_v (Cond.before_iff.mp (hsets _ (List.mem_of_getElem? (i := 17) rfl)))
  have Sc : Sta s s.heap "java/lang/String" "COMPACT_STRINGS" "Z" (.int zc) := Sta.start ez (Or.inl (hsets _ (List.mem_of_getElem? (i := 16) rfl)))
  have hzc : ¬ (zc = (0 : Int32)) := gotF (Cond.eq_ints ez (Term.int_eval (0))) (not_v (Cond.before_iff.mp (hsets _ (List.mem_of_getElem? (i := 18) rfl))))
  have hEL : EW s _ EL1 := (EW.cons (hw _ (List.mem_of_getElem? (i := 69) rfl)) (by decide) (EW.cons (hw _ (List.mem_of_getElem? (i := 26) rfl)) (by decide) (EW.cons (hw _ (List.mem_of_getElem? (i := 27) rfl)) (by decide) (EW.cons (hw _ (List.mem_of_getElem? (i := 28) rfl)) (by decide) (EW.cons (hw _ (List.mem_of_getElem? (i := 56) rfl)) (by decide) (EW.cons (hw _ (List.mem_of_getElem? (i := 18) rfl)) (by decide) EW.nil))))))
  have hCH : CHv s EL1 s.vm s.heap := CHv.start hEL hcalls.1 (hsets _ (List.mem_of_getElem? (i := 18) rfl)) (hw _ (List.mem_of_getElem? (i := 19) rfl)) (hw _ (List.mem_of_getElem? (i := 5) rfl))
  obtain ⟨de, ede⟩ := arr_v (Cond.before_iff.mp (hsets _ (List.mem_of_getElem? (i := 6) rfl)))
  have Sd : Sta s s.heap "java/util/ArrayList" "DEFAULTCAPACITY_EMPTY_ELEMENTDATA" "[Ljava/lang/Object;" (.ref de) := Sta.start ede (Or.inr ⟨(hw _ (List.mem_of_getElem? (i := 31) rfl)), (hsets _ (List.mem_of_getElem? (i := 2) rfl))⟩)
  obtain ⟨kd, Ad⟩ := arv0 (dv := .null) ede (Cond.before_iff.mp (hsets _ (List.mem_of_getElem? (i := 6) rfl))) (Cond.before_iff.mp (hsets _ (List.mem_of_getElem? (i := 8) rfl)))
  obtain ⟨el, eel⟩ := exa_v (Cond.before_iff.mp (hsets _ (List.mem_of_getElem? (i := 11) rfl)))
  have Se : Sta s s.heap "java/util/ImmutableCollections" "EMPTY_LIST" "Ljava/util/ImmutableCollections$ListN;" (.ref el) := Sta.start eel (Or.inl (hsets _ (List.mem_of_getElem? (i := 10) rfl)))
  obtain ⟨n, o, h1, h2, h3, v, L, rfl, ⟨K, rfl, N⟩, hch, hnw, hq⟩ := rm_law hw hEL Sc hzc i0 i1 i2 i3 i4 s.heap ⟨Nat.le_refl _, fun _ _ q => q⟩ Sd Ad Se p e ha hc hk s m _ below hf ((Spec.applies_iff_loose hf).mp happ).1 ⟨rfl, State.Warmed39.refl s, rfl, hCH, fun _ q => nomatch q⟩ trivial
  refine ⟨n, _, h1, h2, h3, hpost _ _ _ _ _ _ ⟨Cond.after_iff.mpr rfl, Cond.after_iff.mpr (eq_i res_at (Term.int_eval (1)) rfl), trivial⟩ ⟨⟨_, rfl⟩, hq.2.1, hq.2.2.1, (hq.2.2.2.sift fun y hy => Or.inr (N y hy)).mono (by decide) (by decide)⟩⟩
theorem main_1_1 : Claimed_1_1 := comes_1 fun _ _ _ _ _ _ h hF => ⟨h.1, hF⟩
theorem main_1_2 : Claimed_1_2 := comes_1 fun _ _ _ _ _ _ h hF => ⟨h.2.1, hF⟩
end Own
theorem main_1_1 : Claimed_1_1 := Own.main_1_1
theorem main_1_2 : Claimed_1_2 := Own.main_1_2
end Jvm.Pilot.@@N@@
namespace Jvm.Pilot.@@N@@
open Jvm Jvm.ClassFile Sem Op Lib Jvm.Free Jvm.Stand Jvm.Pilot.@@N@@.Jvm.D
/-! MADE BY PROGRAM (witnessworld.py) out of the Statement's table words and the real class files: 37 classes; the members and pool entries that the words name. The judged class is class 1, her method 2. -/
namespace start1
open Jvm.ClassFile
def u (s : String) : CpInfo := .utf8 (stringToUtf16 s)
/-- a pool by its gaps: so many unusable entries, then the entry; so many at the end -/
def gap : Nat → List CpInfo → List CpInfo
  | 0, r => r
  | n + 1, r => .unusable :: gap n r
def poolList (es : List (Nat × CpInfo)) (last : Nat) : List CpInfo := es.foldr (fun e r => gap e.1 (e.2 :: r)) (gap last [])
def pool (es : List (Nat × CpInfo)) (last : Nat) : Array CpInfo := ⟨poolList es last⟩
def fileOf (pool : Array CpInfo) (this : Nat) (attrs : Array Attribute := #[]) (ms : Array MethodInfo := #[]) (fl : Nat := 33) (sup : Nat := 0) (ifs : Array Nat := #[]) (fds : Array FieldInfo := #[]) : ClassFile where
  minorVersion := 0
  majorVersion := 65
  constantPool := pool
  accessFlags := fl
  thisClass := this
  superClass := sup
  interfaces := ifs
  fields := fds
  methods := ms
  attributes := attrs
def plain (name : String) (sup : Option ClassId) : Class where
  name := name
  kind := .ordinary
  loader := none
  accessFlags := 33
  super := sup
  interfaces := #[]
  cf := none
  fields := #[]
  methods := #[]
  instanceTypes := #[]
  staticTypes := #[]
  resolved := #[]
  callSites := []
  init := .initialized
  statics := none
  mirror := none

def pool0 : Array CpInfo := pool [(5, u "<init>"), (0, u "()V"), (1, .class_ 10), (1, u "java/lang/Object")] 113

def k0c0 : Code := { maxStack := 0, maxLocals := 1, code := object_method_1_code, exceptionTable := #[], attributes := #[] }
def k0m0 : Method := { name := "<init>", desc := "()V", sig := { parameters := [], returnType := none }, accessFlags := 1, code := some k0c0 }
/-- java/lang/Object -/
def k0 : Class := { plain "java/lang/Object" none with
  accessFlags := 33
  interfaces := #[]
  cf := some (fileOf pool0 8 #[] #[{ accessFlags := 1, nameIndex := 5, descriptorIndex := 6, attributes := #[] }] 33 0 #[] #[])
  fields := #[]
  methods := #[k0m0]
  instanceTypes := #[]
  staticTypes := #[]
  resolved := Array.replicate 124 none
  statics := none }

def pool1 : Array CpInfo := pool [(2, .class_ 4), (0, .nameAndType 5 6), (0, u "java/lang/Object"), (0, u "<init>"), (0, u "()V"), (0, .class_ 8), (0, u "java/lang/String"), (0, .methodref 7 10), (0, .nameAndType 5 11), (0, u "([C)V"), (0, .methodref 13 14), (0, .class_ 15), (0, .nameAndType 16 17), (0, u "com/example/config_into_context/configintocontext/XmlElementGivenPinLaw"), (0, u "mk"), (0, u "(I)Ljava/lang/String;"), (0, .string 19), (0, u "v0"), (0, .string 21), (0, u "v1"), (0, .string 23), (0, u "v2"), (0, .class_ 25), (0, u "java/util/ArrayList"), (0, .methodref 24 3), (0, .class_ 28), (0, u "com/example/config_into_context/configintocontext/XmlElement$Attribute"), (0, .methodref 27 30), (0, .nameAndType 5 31), (0, u "(Ljava/lang/String;Ljava/lang/String;Ljava/lang/String;Ljava/lang/String;)V"), (0, .methodref 24 33), (0, .nameAndType 34 35), (0, u "add"), (0, u "(Ljava/lang/Object;)Z"), (0, .class_ 37), (0, u "com/example/config_into_context/configintocontext/XmlElement"), (0, .string 39), (0, u "e"), (0, .methodref 36 41), (0, .nameAndType 5 42), (0, u "(Ljava/lang/String;Ljava/lang/String;Ljava/lang/String;Ljava/util/List;I)V"), (0, .methodref 36 44), (0, .nameAndType 45 46), (0, u "given"), (0, u "(Ljava/lang/String;)Ljava/lang/String;"), (0, .methodref 7 48), (0, .nameAndType 49 35), (0, u "equals"), (3, u "law"), (0, u "(IIIII)Z")] 4

def k1m0 : Method := { name := "<init>", desc := "()V", sig := { parameters := [], returnType := none }, accessFlags := 1, code := none }
def k1c1 : Code := { maxStack := 3, maxLocals := 6, code := method_2_code, exceptionTable := #[], attributes := #[] }
def k1m1 : Method := { name := "mk", desc := "(I)Ljava/lang/String;", sig := { parameters := [.int], returnType := some (.object "java/lang/String") }, accessFlags := 10, code := some k1c1 }
def k1c2 : Code := { maxStack := 7, maxLocals := 20, code := code, exceptionTable := #[], attributes := #[] }
def k1m2 : Method := { name := "law", desc := "(IIIII)Z", sig := { parameters := [.int, .int, .int, .int, .int], returnType := some .boolean }, accessFlags := 9, code := some k1c2 }
/-- com/example/config_into_context/configintocontext/XmlElementGivenPinLaw -/
def k1 : Class := { plain "com/example/config_into_context/configintocontext/XmlElementGivenPinLaw" (some 0) with
  accessFlags := 49
  interfaces := #[]
  cf := some (fileOf pool1 13 #[] #[{ accessFlags := 1, nameIndex := 5, descriptorIndex := 6, attributes := #[] }, { accessFlags := 10, nameIndex := 16, descriptorIndex := 17, attributes := #[] }, { accessFlags := 9, nameIndex := 53, descriptorIndex := 54, attributes := #[] }] 49 2 #[] #[])
  fields := #[]
  methods := #[k1m0, k1m1, k1m2]
  instanceTypes := #[]
  staticTypes := #[]
  resolved := Array.replicate 59 none
  statics := none }

def pool2 : Array CpInfo := pool [(1, .class_ 2), (0, u "java/io/Serializable"), (0, .class_ 4), (0, u "java/lang/Object")] 2

/-- java/io/Serializable -/
def k2 : Class := { plain "java/io/Serializable" (some 0) with
  accessFlags := 1537
  interfaces := #[]
  cf := some (fileOf pool2 1 #[] #[] 1537 3 #[] #[])
  fields := #[]
  methods := #[]
  instanceTypes := #[]
  staticTypes := #[]
  resolved := Array.replicate 7 none
  statics := none }

def pool3 : Array CpInfo := pool [(1, .class_ 2), (0, u "java/lang/Comparable"), (0, .class_ 4), (0, u "java/lang/Object")] 7

/-- java/lang/Comparable -/
def k3 : Class := { plain "java/lang/Comparable" (some 0) with
  accessFlags := 1537
  interfaces := #[]
  cf := some (fileOf pool3 1 #[] #[] 1537 3 #[] #[])
  fields := #[]
  methods := #[]
  instanceTypes := #[]
  staticTypes := #[]
  resolved := Array.replicate 12 none
  statics := none }

def pool4 : Array CpInfo := pool [(2, .class_ 4), (1, u "java/lang/CharSequence"), (42, .class_ 48), (0, u "java/lang/CharSequence$1CodePointIterator"), (10, .class_ 60), (0, u "java/lang/CharSequence$1CharIterator"), (5, .class_ 67), (0, u "java/lang/Object")] 63

/-- java/lang/CharSequence -/
def k4 : Class := { plain "java/lang/CharSequence" (some 0) with
  accessFlags := 1537
  interfaces := #[]
  cf := some (fileOf pool4 2 #[.nestMembers #[47, 59]] #[] 1537 66 #[] #[])
  fields := #[]
  methods := #[]
  instanceTypes := #[]
  staticTypes := #[]
  resolved := Array.replicate 131 none
  statics := none }

def pool5 : Array CpInfo := pool [(1, .class_ 2), (0, u "java/lang/constant/Constable"), (0, .class_ 4), (0, u "java/lang/Object")] 6

/-- java/lang/constant/Constable -/
def k5 : Class := { plain "java/lang/constant/Constable" (some 0) with
  accessFlags := 1537
  interfaces := #[]
  cf := some (fileOf pool5 1 #[] #[] 1537 3 #[] #[])
  fields := #[]
  methods := #[]
  instanceTypes := #[]
  staticTypes := #[]
  resolved := Array.replicate 11 none
  statics := none }

def pool6 : Array CpInfo := pool [(1, .class_ 2), (0, u "java/lang/constant/ConstantDesc"), (0, .class_ 4), (0, u "java/lang/Object")] 32

/-- java/lang/constant/ConstantDesc -/
def k6 : Class := { plain "java/lang/constant/ConstantDesc" (some 0) with
  accessFlags := 1537
  interfaces := #[]
  cf := some (fileOf pool6 1 #[] #[] 1537 3 #[] #[])
  fields := #[]
  methods := #[]
  instanceTypes := #[]
  staticTypes := #[]
  resolved := Array.replicate 37 none
  statics := none }

def pool7 : Array CpInfo := pool [(1, .methodref 2 3), (0, .class_ 4), (0, .nameAndType 5 6), (0, u "java/lang/Object"), (0, u "<init>"), (0, u "()V"), (0, .string 8), (0, u ""), (0, .fieldref 10 11), (0, .class_ 12), (0, .nameAndType 13 14), (0, u "java/lang/String"), (0, u "value"), (0, u "[B"), (0, .fieldref 10 16), (0, .nameAndType 17 18), (0, u "coder"), (0, u "B"), (2, u "hash"), (0, u "I"), (2, u "hashIsZero"), (0, u "Z"), (0, .methodref 10 28), (0, .nameAndType 5 29), (0, u "([CIILjava/lang/Void;)V"), (8, .fieldref 10 39), (0, .nameAndType 40 26), (0, u "COMPACT_STRINGS"), (1, .class_ 44), (1, u "java/lang/StringUTF16"), (0, u "compress"), (1, .methodref 42 48), (0, .nameAndType 49 50), (0, u "coderFromArrayLen"), (0, u "([BI)B"), (56, .class_ 109), (1, u "java/lang/StringLatin1"), (67, .methodref 42 178), (0, .nameAndType 45 179), (0, u "([CII)[B"), (154, u "()I"), (0, .methodref 10 336), (0, .nameAndType 17 337), (0, u "()B"), (169, u "length"), (33, .methodref 107 542), (0, .nameAndType 543 544), (0, u "equals"), (0, u "([B[B)Z"), (28, u "(Ljava/lang/Object;)Z"), (1, .class_ 576), (0, u "java/lang/CharSequence"), (22, u "CASE_INSENSITIVE_ORDER"), (0, u "Ljava/util/Comparator;"), (409, u "([C)V"), (90, u "serialPersistentFields"), (0, u "[Ljava/io/ObjectStreamField;"), (0, .class_ 1104), (0, u "java/lang/String$CaseInsensitiveComparator"), (1, .class_ 1107), (0, u "java/io/Serializable"), (0, .class_ 1109), (0, u "java/lang/Comparable"), (0, .class_ 1111), (0, u "java/lang/constant/Constable"), (0, .class_ 1113), (0, u "java/lang/constant/ConstantDesc"), (2, u "serialVersionUID"), (0, u "J"), (3, u "REPL"), (0, u "C"), (2, u "LATIN1"), (1, u "UTF16")] 323

def k7m0 : Method := { name := "<init>", desc := "()V", sig := { parameters := [], returnType := none }, accessFlags := 1, code := none }
def k7c1 : Code := { maxStack := 5, maxLocals := 2, code := jdk_42_method_3_code, exceptionTable := #[], attributes := #[] }
def k7m1 : Method := { name := "<init>", desc := "([C)V", sig := { parameters := [(.array .char)], returnType := none }, accessFlags := 1, code := some k7c1 }
def k7c2 : Code := { maxStack := 2, maxLocals := 1, code := jdk_42_method_54_code, exceptionTable := #[], attributes := #[] }
def k7m2 : Method := { name := "length", desc := "()I", sig := { parameters := [], returnType := some .int }, accessFlags := 1, code := some k7c2 }
def k7c3 : Code := { maxStack := 2, maxLocals := 3, code := jdk_42_method_66_code, exceptionTable := #[], attributes := #[] }
def k7m3 : Method := { name := "equals", desc := "(Ljava/lang/Object;)Z", sig := { parameters := [(.object "java/lang/Object")], returnType := some .boolean }, accessFlags := 1, code := some k7c3 }
def k7c4 : Code := { maxStack := 4, maxLocals := 6, code := jdk_42_method_149_code, exceptionTable := #[], attributes := #[] }
def k7m4 : Method := { name := "<init>", desc := "([CIILjava/lang/Void;)V", sig := { parameters := [(.array .char), .int, .int, (.object "java/lang/Void")], returnType := none }, accessFlags := 2, code := some k7c4 }
def k7c5 : Code := { maxStack := 1, maxLocals := 1, code := jdk_42_method_152_code, exceptionTable := #[], attributes := #[] }
def k7m5 : Method := { name := "coder", desc := "()B", sig := { parameters := [], returnType := some .byte }, accessFlags := 0, code := some k7c5 }
/-- java/lang/String -/
def k7 : Class := { plain "java/lang/String" (some 0) with
  accessFlags := 49
  interfaces := #[2, 3, 4, 5, 6]
  cf := some (fileOf pool7 10 #[.nestMembers #[1103]] #[{ accessFlags := 1, nameIndex := 5, descriptorIndex := 6, attributes := #[] }, { accessFlags := 1, nameIndex := 5, descriptorIndex := 1010, attributes := #[] }, { accessFlags := 1, nameIndex := 507, descriptorIndex := 334, attributes := #[] }, { accessFlags := 1, nameIndex := 543, descriptorIndex := 573, attributes := #[] }, { accessFlags := 2, nameIndex := 5, descriptorIndex := 29, attributes := #[] }, { accessFlags := 0, nameIndex := 17, descriptorIndex := 337, attributes := #[] }] 49 2 #[1106, 1108, 575, 1110, 1112] #[{ accessFlags := 18, nameIndex := 13, descriptorIndex := 14, attributes := #[] }, { accessFlags := 18, nameIndex := 17, descriptorIndex := 18, attributes := #[] }, { accessFlags := 2, nameIndex := 21, descriptorIndex := 22, attributes := #[] }, { accessFlags := 2, nameIndex := 25, descriptorIndex := 26, attributes := #[] }, { accessFlags := 26, nameIndex := 1116, descriptorIndex := 1117, attributes := #[] }, { accessFlags := 24, nameIndex := 40, descriptorIndex := 26, attributes := #[] }, { accessFlags := 26, nameIndex := 1101, descriptorIndex := 1102, attributes := #[] }, { accessFlags := 26, nameIndex := 1121, descriptorIndex := 1122, attributes := #[] }, { accessFlags := 25, nameIndex := 599, descriptorIndex := 600, attributes := #[] }, { accessFlags := 24, nameIndex := 1125, descriptorIndex := 18, attributes := #[] }, { accessFlags := 24, nameIndex := 1127, descriptorIndex := 18, attributes := #[] }])
  fields := #[{ name := "value", type := (.array .byte), accessFlags := 18, slot := 0, constantValue := 0 }, { name := "coder", type := .byte, accessFlags := 18, slot := 1, constantValue := 0 }, { name := "hash", type := .int, accessFlags := 2, slot := 2, constantValue := 0 }, { name := "hashIsZero", type := .boolean, accessFlags := 2, slot := 3, constantValue := 0 }, { name := "serialVersionUID", type := .long, accessFlags := 26, slot := 0, constantValue := 0 }, { name := "COMPACT_STRINGS", type := .boolean, accessFlags := 24, slot := 1, constantValue := 0 }, { name := "serialPersistentFields", type := (.array (.object "java/io/ObjectStreamField")), accessFlags := 26, slot := 2, constantValue := 0 }, { name := "REPL", type := .char, accessFlags := 26, slot := 3, constantValue := 0 }, { name := "CASE_INSENSITIVE_ORDER", type := (.object "java/util/Comparator"), accessFlags := 25, slot := 4, constantValue := 0 }, { name := "LATIN1", type := .byte, accessFlags := 24, slot := 5, constantValue := 0 }, { name := "UTF16", type := .byte, accessFlags := 24, slot := 6, constantValue := 0 }]
  methods := #[k7m0, k7m1, k7m2, k7m3, k7m4, k7m5]
  instanceTypes := #[(.array .byte), .byte, .int, .boolean]
  staticTypes := #[.long, .boolean, (.array (.object "java/io/ObjectStreamField")), .char, (.object "java/util/Comparator"), .byte, .byte]
  resolved := Array.replicate 1451 none
  statics := some 0 }

def pool8 : Array CpInfo := pool [(8, .class_ 10), (1, u "java/lang/Iterable"), (24, .class_ 36), (0, u "java/lang/Object")] 25

/-- java/lang/Iterable -/
def k8 : Class := { plain "java/lang/Iterable" (some 0) with
  accessFlags := 1537
  interfaces := #[]
  cf := some (fileOf pool8 8 #[] #[] 1537 35 #[] #[])
  fields := #[]
  methods := #[]
  instanceTypes := #[]
  staticTypes := #[]
  resolved := Array.replicate 62 none
  statics := none }

def pool9 : Array CpInfo := pool [(10, .class_ 12), (1, u "java/util/Collection"), (47, .class_ 61), (0, u "java/lang/Object"), (0, .class_ 63), (0, u "java/lang/Iterable")] 51

/-- java/util/Collection -/
def k9 : Class := { plain "java/util/Collection" (some 0) with
  accessFlags := 1537
  interfaces := #[8]
  cf := some (fileOf pool9 10 #[] #[] 1537 60 #[62] #[])
  fields := #[]
  methods := #[]
  instanceTypes := #[]
  staticTypes := #[]
  resolved := Array.replicate 115 none
  statics := none }

def pool10 : Array CpInfo := pool [(1, .methodref 2 3), (0, .class_ 4), (0, .nameAndType 5 6), (0, u "java/lang/Object"), (0, u "<init>"), (0, u "()V"), (1, .class_ 10), (1, u "java/util/AbstractCollection"), (66, .class_ 78), (0, u "java/util/Collection")] 81

def k10c0 : Code := { maxStack := 1, maxLocals := 1, code := jdk_22_method_1_code, exceptionTable := #[], attributes := #[] }
def k10m0 : Method := { name := "<init>", desc := "()V", sig := { parameters := [], returnType := none }, accessFlags := 4, code := some k10c0 }
/-- java/util/AbstractCollection -/
def k10 : Class := { plain "java/util/AbstractCollection" (some 0) with
  accessFlags := 1057
  interfaces := #[9]
  cf := some (fileOf pool10 8 #[] #[{ accessFlags := 4, nameIndex := 5, descriptorIndex := 6, attributes := #[] }] 1057 2 #[77] #[])
  fields := #[]
  methods := #[k10m0]
  instanceTypes := #[]
  staticTypes := #[]
  resolved := Array.replicate 160 none
  statics := none }

def pool11 : Array CpInfo := pool [(8, .class_ 10), (1, u "java/util/SequencedCollection"), (15, .class_ 27), (0, u "java/lang/Object"), (0, .class_ 29), (0, u "java/util/Collection")] 27

/-- java/util/SequencedCollection -/
def k11 : Class := { plain "java/util/SequencedCollection" (some 0) with
  accessFlags := 1537
  interfaces := #[9]
  cf := some (fileOf pool11 8 #[] #[] 1537 26 #[28] #[])
  fields := #[]
  methods := #[]
  instanceTypes := #[]
  staticTypes := #[]
  resolved := Array.replicate 57 none
  statics := none }

def pool12 : Array CpInfo := pool [(8, .class_ 10), (1, u "java/util/List"), (64, u "get"), (0, u "(I)Ljava/lang/Object;"), (2, u "size"), (0, u "()I"), (7, u "of"), (1, .fieldref 91 92), (0, .class_ 93), (0, .nameAndType 94 95), (0, u "java/util/ImmutableCollections"), (0, u "EMPTY_LIST"), (0, u "Ljava/util/ImmutableCollections$ListN;"), (7, .class_ 104), (0, u "java/lang/Object"), (14, u "()Ljava/util/List;"), (0, .class_ 121), (0, u "java/util/SequencedCollection")] 129

def k12m0 : Method := { name := "size", desc := "()I", sig := { parameters := [], returnType := some .int }, accessFlags := 1025, code := none }
def k12m1 : Method := { name := "get", desc := "(I)Ljava/lang/Object;", sig := { parameters := [.int], returnType := some (.object "java/lang/Object") }, accessFlags := 1025, code := none }
def k12c2 : Code := { maxStack := 1, maxLocals := 0, code := jdk_40_method_36_code, exceptionTable := #[], attributes := #[] }
def k12m2 : Method := { name := "of", desc := "()Ljava/util/List;", sig := { parameters := [], returnType := some (.object "java/util/List") }, accessFlags := 9, code := some k12c2 }
/-- java/util/List -/
def k12 : Class := { plain "java/util/List" (some 0) with
  accessFlags := 1537
  interfaces := #[11]
  cf := some (fileOf pool12 8 #[] #[{ accessFlags := 1025, nameIndex := 79, descriptorIndex := 80, attributes := #[] }, { accessFlags := 1025, nameIndex := 75, descriptorIndex := 76, attributes := #[] }, { accessFlags := 9, nameIndex := 88, descriptorIndex := 119, attributes := #[] }] 1537 103 #[120] #[])
  fields := #[]
  methods := #[k12m0, k12m1, k12m2]
  instanceTypes := #[]
  staticTypes := #[]
  resolved := Array.replicate 251 none
  statics := none }

def pool13 : Array CpInfo := pool [(1, .methodref 2 3), (0, .class_ 4), (0, .nameAndType 5 6), (0, u "java/util/AbstractCollection"), (0, u "<init>"), (0, u "()V"), (0, .fieldref 8 9), (0, .class_ 10), (0, .nameAndType 11 12), (0, u "java/util/AbstractList"), (0, u "modCount"), (0, u "I"), (64, .class_ 78), (0, u "java/util/AbstractList$Itr"), (3, .class_ 83), (0, u "java/util/AbstractList$ListItr"), (9, .class_ 94), (0, u "java/util/AbstractList$RandomAccessSubList"), (3, .class_ 99), (0, u "java/util/AbstractList$SubList"), (33, .class_ 134), (0, u "java/util/List"), (73, .class_ 209), (0, u "java/util/AbstractList$SubList$1"), (0, .class_ 211), (0, u "java/util/AbstractList$RandomAccessSpliterator")] 6

def k13c0 : Code := { maxStack := 2, maxLocals := 1, code := jdk_39_method_1_code, exceptionTable := #[], attributes := #[] }
def k13m0 : Method := { name := "<init>", desc := "()V", sig := { parameters := [], returnType := none }, accessFlags := 4, code := some k13c0 }
/-- java/util/AbstractList -/
def k13 : Class := { plain "java/util/AbstractList" (some 10) with
  accessFlags := 1057
  interfaces := #[12]
  cf := some (fileOf pool13 8 #[.nestMembers #[93, 98, 208, 210, 82, 77]] #[{ accessFlags := 4, nameIndex := 5, descriptorIndex := 6, attributes := #[] }] 1057 2 #[133] #[{ accessFlags := 132, nameIndex := 11, descriptorIndex := 12, attributes := #[] }])
  fields := #[{ name := "modCount", type := .int, accessFlags := 132, slot := 0, constantValue := 0 }]
  methods := #[k13m0]
  instanceTypes := #[.int]
  staticTypes := #[]
  resolved := Array.replicate 218 none
  statics := none }

def pool14 : Array CpInfo := pool [(1, .class_ 2), (0, u "java/util/RandomAccess"), (0, .class_ 4), (0, u "java/lang/Object")] 2

/-- java/util/RandomAccess -/
def k14 : Class := { plain "java/util/RandomAccess" (some 0) with
  accessFlags := 1537
  interfaces := #[]
  cf := some (fileOf pool14 1 #[] #[] 1537 3 #[] #[])
  fields := #[]
  methods := #[]
  instanceTypes := #[]
  staticTypes := #[]
  resolved := Array.replicate 7 none
  statics := none }

def pool15 : Array CpInfo := pool [(1, .class_ 2), (0, u "java/lang/Cloneable"), (0, .class_ 4), (0, u "java/lang/Object")] 2

/-- java/lang/Cloneable -/
def k15 : Class := { plain "java/lang/Cloneable" (some 0) with
  accessFlags := 1537
  interfaces := #[]
  cf := some (fileOf pool15 1 #[] #[] 1537 3 #[] #[])
  fields := #[]
  methods := #[]
  instanceTypes := #[]
  staticTypes := #[]
  resolved := Array.replicate 7 none
  statics := none }

def pool16 : Array CpInfo := pool [(1, .methodref 2 3), (0, .class_ 4), (0, .nameAndType 5 6), (0, u "java/util/AbstractList"), (0, u "<init>"), (0, u "()V"), (0, .class_ 8), (0, u "java/lang/Object"), (0, .fieldref 10 11), (0, .class_ 12), (0, .nameAndType 13 14), (0, u "java/util/ArrayList"), (0, u "elementData"), (0, u "[Ljava/lang/Object;"), (2, u "EMPTY_ELEMENTDATA"), (21, .fieldref 10 40), (0, .nameAndType 41 14), (0, u "DEFAULTCAPACITY_EMPTY_ELEMENTDATA"), (5, u "()[Ljava/lang/Object;"), (0, .fieldref 10 49), (0, .nameAndType 50 51), (0, u "size"), (0, u "I"), (11, .fieldref 10 64), (0, .nameAndType 65 51), (0, u "modCount"), (3, .methodref 10 70), (0, .nameAndType 71 72), (0, u "grow"), (0, u "(I)[Ljava/lang/Object;"), (6, .methodref 80 81), (0, .class_ 82), (0, .nameAndType 83 84), (0, u "java/lang/Math"), (0, u "max"), (0, u "(II)I"), (11, u "(Ljava/lang/Object;)Z"), (21, .methodref 119 120), (0, .class_ 121), (0, .nameAndType 122 84), (0, u "java/util/Objects"), (0, u "checkIndex"), (0, .methodref 10 124), (0, .nameAndType 13 125), (0, u "(I)Ljava/lang/Object;"), (3, .methodref 10 130), (0, .nameAndType 71 47), (0, .methodref 10 132), (0, .nameAndType 133 134), (0, u "add"), (0, u "(Ljava/lang/Object;[Ljava/lang/Object;I)V"), (13, .class_ 149), (0, u "java/util/List"), (36, u "()I"), (75, .class_ 263), (0, u "java/util/ArrayList$ListItr"), (3, .class_ 268), (0, u "java/util/ArrayList$Itr"), (7, .class_ 277), (0, u "java/util/ArrayList$SubList"), (12, .class_ 291), (0, u "java/util/ArrayList$ArrayListSpliterator"), (37, .class_ 330), (0, u "java/util/RandomAccess"), (0, .class_ 332), (0, u "java/lang/Cloneable"), (0, .class_ 334), (0, u "java/io/Serializable"), (0, u "serialVersionUID"), (0, u "J"), (3, u "DEFAULT_CAPACITY"), (40, u "get"), (118, .class_ 501), (0, u "java/util/ArrayList$SubList$2"), (0, .class_ 503), (0, u "java/util/ArrayList$SubList$1")] 5

def k16c0 : Code := { maxStack := 2, maxLocals := 1, code := jdk_38_method_2_code, exceptionTable := #[], attributes := #[] }
def k16m0 : Method := { name := "<init>", desc := "()V", sig := { parameters := [], returnType := none }, accessFlags := 1, code := some k16c0 }
def k16c1 : Code := { maxStack := 4, maxLocals := 4, code := jdk_38_method_6_code, exceptionTable := #[], attributes := #[] }
def k16m1 : Method := { name := "grow", desc := "(I)[Ljava/lang/Object;", sig := { parameters := [.int], returnType := some (.array (.object "java/lang/Object")) }, accessFlags := 2, code := some k16c1 }
def k16c2 : Code := { maxStack := 3, maxLocals := 1, code := jdk_38_method_7_code, exceptionTable := #[], attributes := #[] }
def k16m2 : Method := { name := "grow", desc := "()[Ljava/lang/Object;", sig := { parameters := [], returnType := some (.array (.object "java/lang/Object")) }, accessFlags := 2, code := some k16c2 }
def k16c3 : Code := { maxStack := 1, maxLocals := 1, code := jdk_38_method_8_code, exceptionTable := #[], attributes := #[] }
def k16m3 : Method := { name := "size", desc := "()I", sig := { parameters := [], returnType := some .int }, accessFlags := 1, code := some k16c3 }
def k16c4 : Code := { maxStack := 2, maxLocals := 2, code := jdk_38_method_18_code, exceptionTable := #[], attributes := #[] }
def k16m4 : Method := { name := "elementData", desc := "(I)Ljava/lang/Object;", sig := { parameters := [.int], returnType := some (.object "java/lang/Object") }, accessFlags := 0, code := some k16c4 }
def k16c5 : Code := { maxStack := 2, maxLocals := 2, code := jdk_38_method_20_code, exceptionTable := #[], attributes := #[] }
def k16m5 : Method := { name := "get", desc := "(I)Ljava/lang/Object;", sig := { parameters := [.int], returnType := some (.object "java/lang/Object") }, accessFlags := 1, code := some k16c5 }
def k16c6 : Code := { maxStack := 3, maxLocals := 4, code := jdk_38_method_24_code, exceptionTable := #[], attributes := #[] }
def k16m6 : Method := { name := "add", desc := "(Ljava/lang/Object;[Ljava/lang/Object;I)V", sig := { parameters := [(.object "java/lang/Object"), (.array (.object "java/lang/Object")), .int], returnType := none }, accessFlags := 2, code := some k16c6 }
def k16c7 : Code := { maxStack := 4, maxLocals := 2, code := jdk_38_method_25_code, exceptionTable := #[], attributes := #[] }
def k16m7 : Method := { name := "add", desc := "(Ljava/lang/Object;)Z", sig := { parameters := [(.object "java/lang/Object")], returnType := some .boolean }, accessFlags := 1, code := some k16c7 }
/-- java/util/ArrayList -/
def k16 : Class := { plain "java/util/ArrayList" (some 13) with
  accessFlags := 33
  interfaces := #[12, 14, 15, 2]
  cf := some (fileOf pool16 10 #[.nestMembers #[290, 276, 500, 502, 262, 267]] #[{ accessFlags := 1, nameIndex := 5, descriptorIndex := 6, attributes := #[] }, { accessFlags := 2, nameIndex := 71, descriptorIndex := 72, attributes := #[] }, { accessFlags := 2, nameIndex := 71, descriptorIndex := 47, attributes := #[] }, { accessFlags := 1, nameIndex := 50, descriptorIndex := 186, attributes := #[] }, { accessFlags := 0, nameIndex := 13, descriptorIndex := 125, attributes := #[] }, { accessFlags := 1, nameIndex := 381, descriptorIndex := 125, attributes := #[] }, { accessFlags := 2, nameIndex := 133, descriptorIndex := 134, attributes := #[] }, { accessFlags := 1, nameIndex := 133, descriptorIndex := 96, attributes := #[] }] 33 2 #[148, 329, 331, 333] #[{ accessFlags := 26, nameIndex := 335, descriptorIndex := 336, attributes := #[] }, { accessFlags := 26, nameIndex := 340, descriptorIndex := 51, attributes := #[] }, { accessFlags := 26, nameIndex := 17, descriptorIndex := 14, attributes := #[] }, { accessFlags := 26, nameIndex := 41, descriptorIndex := 14, attributes := #[] }, { accessFlags := 128, nameIndex := 13, descriptorIndex := 14, attributes := #[] }, { accessFlags := 2, nameIndex := 50, descriptorIndex := 51, attributes := #[] }])
  fields := #[{ name := "serialVersionUID", type := .long, accessFlags := 26, slot := 0, constantValue := 0 }, { name := "DEFAULT_CAPACITY", type := .int, accessFlags := 26, slot := 1, constantValue := 0 }, { name := "EMPTY_ELEMENTDATA", type := (.array (.object "java/lang/Object")), accessFlags := 26, slot := 2, constantValue := 0 }, { name := "DEFAULTCAPACITY_EMPTY_ELEMENTDATA", type := (.array (.object "java/lang/Object")), accessFlags := 26, slot := 3, constantValue := 0 }, { name := "elementData", type := (.array (.object "java/lang/Object")), accessFlags := 128, slot := 1, constantValue := 0 }, { name := "size", type := .int, accessFlags := 2, slot := 2, constantValue := 0 }]
  methods := #[k16m0, k16m1, k16m2, k16m3, k16m4, k16m5, k16m6, k16m7]
  instanceTypes := #[.int, (.array (.object "java/lang/Object")), .int]
  staticTypes := #[.long, .int, (.array (.object "java/lang/Object")), (.array (.object "java/lang/Object"))]
  resolved := Array.replicate 509 none
  statics := some 1 }

def pool17 : Array CpInfo := pool [(1, .methodref 2 3), (0, .class_ 4), (0, .nameAndType 5 6), (0, u "java/lang/Object"), (0, u "<init>"), (0, u "()V"), (0, .interfaceMethodref 8 9), (0, .class_ 10), (0, .nameAndType 11 12), (0, u "java/util/List"), (0, u "of"), (0, u "()Ljava/util/List;"), (0, .fieldref 14 15), (0, .class_ 16), (0, .nameAndType 17 18), (0, u "com/example/config_into_context/configintocontext/XmlElement"), (0, u "children"), (0, u "Ljava/util/List;"), (0, .string 20), (0, u ""), (0, .fieldref 14 22), (0, .nameAndType 23 24), (0, u "text"), (0, u "Ljava/lang/String;"), (0, .fieldref 14 26), (0, .nameAndType 27 24), (0, u "namespace"), (0, .fieldref 14 29), (0, .nameAndType 30 24), (0, u "localName"), (0, .fieldref 14 32), (0, .nameAndType 33 24), (0, u "name"), (0, .fieldref 14 35), (0, .nameAndType 36 18), (0, u "attributes"), (0, .fieldref 14 38), (0, .nameAndType 39 40), (0, u "line"), (0, u "I"), (2, u "given"), (0, u "(Ljava/lang/String;)Ljava/lang/String;"), (0, .interfaceMethodref 8 46), (0, .nameAndType 47 48), (0, u "size"), (0, u "()I"), (0, .interfaceMethodref 8 50), (0, .nameAndType 51 52), (0, u "get"), (0, u "(I)Ljava/lang/Object;"), (0, .class_ 54), (0, u "com/example/config_into_context/configintocontext/XmlElement$Attribute"), (0, .methodref 53 56), (0, .nameAndType 33 57), (0, u "()Ljava/lang/String;"), (0, .methodref 59 60), (0, .class_ 61), (0, .nameAndType 62 48), (0, u "java/lang/String"), (0, u "length"), (0, .methodref 59 64), (0, .nameAndType 65 66), (0, u "equals"), (0, u "(Ljava/lang/Object;)Z"), (0, .methodref 53 68), (0, .nameAndType 69 57), (0, u "value"), (13, u "(Ljava/lang/String;Ljava/lang/String;Ljava/lang/String;Ljava/util/List;I)V")] 17

def k17c0 : Code := { maxStack := 2, maxLocals := 6, code := prog_61_method_1_code, exceptionTable := #[], attributes := #[] }
def k17m0 : Method := { name := "<init>", desc := "(Ljava/lang/String;Ljava/lang/String;Ljava/lang/String;Ljava/util/List;I)V", sig := { parameters := [(.object "java/lang/String"), (.object "java/lang/String"), (.object "java/lang/String"), (.object "java/util/List"), .int], returnType := none }, accessFlags := 0, code := some k17c0 }
def k17c1 : Code := { maxStack := 2, maxLocals := 4, code := prog_61_method_9_code, exceptionTable := #[], attributes := #[] }
def k17m1 : Method := { name := "given", desc := "(Ljava/lang/String;)Ljava/lang/String;", sig := { parameters := [(.object "java/lang/String")], returnType := some (.object "java/lang/String") }, accessFlags := 0, code := some k17c1 }
/-- com/example/config_into_context/configintocontext/XmlElement -/
def k17 : Class := { plain "com/example/config_into_context/configintocontext/XmlElement" (some 0) with
  accessFlags := 32
  interfaces := #[]
  cf := some (fileOf pool17 14 #[.nestMembers #[53]] #[{ accessFlags := 0, nameIndex := 5, descriptorIndex := 83, attributes := #[] }, { accessFlags := 0, nameIndex := 43, descriptorIndex := 44, attributes := #[] }] 32 2 #[] #[{ accessFlags := 18, nameIndex := 27, descriptorIndex := 24, attributes := #[] }, { accessFlags := 18, nameIndex := 30, descriptorIndex := 24, attributes := #[] }, { accessFlags := 18, nameIndex := 33, descriptorIndex := 24, attributes := #[] }, { accessFlags := 18, nameIndex := 36, descriptorIndex := 18, attributes := #[] }, { accessFlags := 18, nameIndex := 39, descriptorIndex := 40, attributes := #[] }, { accessFlags := 2, nameIndex := 17, descriptorIndex := 18, attributes := #[] }, { accessFlags := 2, nameIndex := 23, descriptorIndex := 24, attributes := #[] }])
  fields := #[{ name := "namespace", type := (.object "java/lang/String"), accessFlags := 18, slot := 0, constantValue := 0 }, { name := "localName", type := (.object "java/lang/String"), accessFlags := 18, slot := 1, constantValue := 0 }, { name := "name", type := (.object "java/lang/String"), accessFlags := 18, slot := 2, constantValue := 0 }, { name := "attributes", type := (.object "java/util/List"), accessFlags := 18, slot := 3, constantValue := 0 }, { name := "line", type := .int, accessFlags := 18, slot := 4, constantValue := 0 }, { name := "children", type := (.object "java/util/List"), accessFlags := 2, slot := 5, constantValue := 0 }, { name := "text", type := (.object "java/lang/String"), accessFlags := 2, slot := 6, constantValue := 0 }]
  methods := #[k17m0, k17m1]
  instanceTypes := #[(.object "java/lang/String"), (.object "java/lang/String"), (.object "java/lang/String"), (.object "java/util/List"), .int, (.object "java/util/List"), (.object "java/lang/String")]
  staticTypes := #[]
  resolved := Array.replicate 101 none
  statics := none }

def pool18 : Array CpInfo := pool [(2, .class_ 4), (1, u "java/lang/Object"), (0, u "<init>"), (0, u "()V"), (3, .class_ 11), (0, u "java/util/ImmutableCollections$List12"), (0, .class_ 13), (0, u "java/util/ImmutableCollections$ListN"), (3, u "Z"), (29, .class_ 49), (1, u "java/util/ImmutableCollections"), (0, u "$assertionsDisabled"), (5, u "[Ljava/lang/Object;"), (5, u "EMPTY_LIST"), (0, u "Ljava/util/ImmutableCollections$ListN;"), (8, u "EMPTY_LIST_NULLS"), (22, u "SALT32L"), (0, u "J"), (2, u "REVERSE"), (6, u "archivedObjects"), (2, u "EMPTY"), (0, u "Ljava/lang/Object;"), (0, .class_ 112), (0, u "java/util/ImmutableCollections$SetN"), (5, u "EMPTY_SET"), (0, u "Ljava/util/ImmutableCollections$SetN;"), (0, .class_ 121), (0, u "java/util/ImmutableCollections$MapN"), (3, u "EMPTY_MAP"), (0, u "Ljava/util/ImmutableCollections$MapN;"), (4, u "EXPAND_FACTOR"), (0, u "I"), (36, .class_ 170), (0, u "java/util/ImmutableCollections$MapN$MapNIterator"), (0, .class_ 172), (0, u "java/util/ImmutableCollections$MapN$1"), (0, .class_ 174), (0, u "java/util/ImmutableCollections$Map1"), (0, .class_ 176), (0, u "java/util/ImmutableCollections$AbstractImmutableMap"), (0, .class_ 178), (0, u "java/util/ImmutableCollections$SetN$SetNIterator"), (0, .class_ 180), (0, u "java/util/ImmutableCollections$Set12"), (0, .class_ 182), (0, u "java/util/ImmutableCollections$Set12$1"), (0, .class_ 184), (0, u "java/util/ImmutableCollections$AbstractImmutableSet"), (0, .class_ 186), (0, u "java/util/ImmutableCollections$SubList"), (0, .class_ 188), (0, u "java/util/ImmutableCollections$ListItr"), (0, .class_ 190), (0, u "java/util/ImmutableCollections$AbstractImmutableList"), (0, .class_ 192), (0, u "java/util/ImmutableCollections$AbstractImmutableCollection"), (0, .class_ 194), (0, u "java/util/ImmutableCollections$Access"), (0, .class_ 196), (0, u "java/util/ImmutableCollections$Access$1")] 16

def k18m0 : Method := { name := "<init>", desc := "()V", sig := { parameters := [], returnType := none }, accessFlags := 2, code := none }
/-- java/util/ImmutableCollections -/
def k18 : Class := { plain "java/util/ImmutableCollections" (some 0) with
  accessFlags := 32
  interfaces := #[]
  cf := some (fileOf pool18 47 #[.nestMembers #[120, 169, 171, 173, 175, 111, 177, 179, 181, 183, 12, 10, 185, 187, 189, 191, 193, 195]] #[{ accessFlags := 2, nameIndex := 5, descriptorIndex := 6, attributes := #[] }] 32 2 #[] #[{ accessFlags := 26, nameIndex := 95, descriptorIndex := 96, attributes := #[] }, { accessFlags := 26, nameIndex := 99, descriptorIndex := 17, attributes := #[] }, { accessFlags := 10, nameIndex := 106, descriptorIndex := 56, attributes := #[] }, { accessFlags := 26, nameIndex := 109, descriptorIndex := 110, attributes := #[] }, { accessFlags := 24, nameIndex := 62, descriptorIndex := 63, attributes := #[] }, { accessFlags := 24, nameIndex := 72, descriptorIndex := 63, attributes := #[] }, { accessFlags := 24, nameIndex := 118, descriptorIndex := 119, attributes := #[] }, { accessFlags := 24, nameIndex := 125, descriptorIndex := 126, attributes := #[] }, { accessFlags := 24, nameIndex := 131, descriptorIndex := 132, attributes := #[] }, { accessFlags := 4120, nameIndex := 50, descriptorIndex := 17, attributes := #[] }])
  fields := #[{ name := "SALT32L", type := .long, accessFlags := 26, slot := 0, constantValue := 0 }, { name := "REVERSE", type := .boolean, accessFlags := 26, slot := 1, constantValue := 0 }, { name := "archivedObjects", type := (.array (.object "java/lang/Object")), accessFlags := 10, slot := 2, constantValue := 0 }, { name := "EMPTY", type := (.object "java/lang/Object"), accessFlags := 26, slot := 3, constantValue := 0 }, { name := "EMPTY_LIST", type := (.object "java/util/ImmutableCollections$ListN"), accessFlags := 24, slot := 4, constantValue := 0 }, { name := "EMPTY_LIST_NULLS", type := (.object "java/util/ImmutableCollections$ListN"), accessFlags := 24, slot := 5, constantValue := 0 }, { name := "EMPTY_SET", type := (.object "java/util/ImmutableCollections$SetN"), accessFlags := 24, slot := 6, constantValue := 0 }, { name := "EMPTY_MAP", type := (.object "java/util/ImmutableCollections$MapN"), accessFlags := 24, slot := 7, constantValue := 0 }, { name := "EXPAND_FACTOR", type := .int, accessFlags := 24, slot := 8, constantValue := 0 }, { name := "$assertionsDisabled", type := .boolean, accessFlags := 4120, slot := 9, constantValue := 0 }]
  methods := #[k18m0]
  instanceTypes := #[]
  staticTypes := #[.long, .boolean, (.array (.object "java/lang/Object")), (.object "java/lang/Object"), (.object "java/util/ImmutableCollections$ListN"), (.object "java/util/ImmutableCollections$ListN"), (.object "java/util/ImmutableCollections$SetN"), (.object "java/util/ImmutableCollections$MapN"), .int, .boolean]
  resolved := Array.replicate 213 none
  statics := some 2 }

def pool19 : Array CpInfo := pool [(1, .methodref 2 3), (0, .class_ 4), (0, .nameAndType 5 6), (0, u "java/lang/Object"), (0, u "<init>"), (0, u "()V"), (0, .class_ 8), (0, u "java/lang/Record")] 13

def k19c0 : Code := { maxStack := 1, maxLocals := 1, code := jdk_30_method_1_code, exceptionTable := #[], attributes := #[] }
def k19m0 : Method := { name := "<init>", desc := "()V", sig := { parameters := [], returnType := none }, accessFlags := 4, code := some k19c0 }
/-- java/lang/Record -/
def k19 : Class := { plain "java/lang/Record" (some 0) with
  accessFlags := 1057
  interfaces := #[]
  cf := some (fileOf pool19 7 #[] #[{ accessFlags := 4, nameIndex := 5, descriptorIndex := 6, attributes := #[] }] 1057 2 #[] #[])
  fields := #[]
  methods := #[k19m0]
  instanceTypes := #[]
  staticTypes := #[]
  resolved := Array.replicate 22 none
  statics := none }

def pool20 : Array CpInfo := pool [(1, .methodref 2 3), (0, .class_ 4), (0, .nameAndType 5 6), (0, u "java/lang/Record"), (0, u "<init>"), (0, u "()V"), (0, .fieldref 8 9), (0, .class_ 10), (0, .nameAndType 11 12), (0, u "com/example/config_into_context/configintocontext/XmlElement$Attribute"), (0, u "namespace"), (0, u "Ljava/lang/String;"), (0, .fieldref 8 14), (0, .nameAndType 15 12), (0, u "localName"), (0, .fieldref 8 17), (0, .nameAndType 18 12), (0, u "name"), (0, .fieldref 8 20), (0, .nameAndType 21 12), (0, u "value"), (12, u "(Ljava/lang/String;Ljava/lang/String;Ljava/lang/String;Ljava/lang/String;)V"), (3, u "()Ljava/lang/String;"), (5, .class_ 45), (0, u "com/example/config_into_context/configintocontext/XmlElement")] 22

def k20c0 : Code := { maxStack := 2, maxLocals := 5, code := prog_62_method_1_code, exceptionTable := #[], attributes := #[] }
def k20m0 : Method := { name := "<init>", desc := "(Ljava/lang/String;Ljava/lang/String;Ljava/lang/String;Ljava/lang/String;)V", sig := { parameters := [(.object "java/lang/String"), (.object "java/lang/String"), (.object "java/lang/String"), (.object "java/lang/String")], returnType := none }, accessFlags := 0, code := some k20c0 }
def k20c1 : Code := { maxStack := 1, maxLocals := 1, code := prog_62_method_7_code, exceptionTable := #[], attributes := #[] }
def k20m1 : Method := { name := "name", desc := "()Ljava/lang/String;", sig := { parameters := [], returnType := some (.object "java/lang/String") }, accessFlags := 1, code := some k20c1 }
def k20c2 : Code := { maxStack := 1, maxLocals := 1, code := prog_62_method_8_code, exceptionTable := #[], attributes := #[] }
def k20m2 : Method := { name := "value", desc := "()Ljava/lang/String;", sig := { parameters := [], returnType := some (.object "java/lang/String") }, accessFlags := 1, code := some k20c2 }
/-- com/example/config_into_context/configintocontext/XmlElement$Attribute -/
def k20 : Class := { plain "com/example/config_into_context/configintocontext/XmlElement$Attribute" (some 19) with
  accessFlags := 48
  interfaces := #[]
  cf := some (fileOf pool20 8 #[.nestHost 44] #[{ accessFlags := 0, nameIndex := 5, descriptorIndex := 34, attributes := #[] }, { accessFlags := 1, nameIndex := 18, descriptorIndex := 38, attributes := #[] }, { accessFlags := 1, nameIndex := 21, descriptorIndex := 38, attributes := #[] }] 48 2 #[] #[{ accessFlags := 18, nameIndex := 11, descriptorIndex := 12, attributes := #[] }, { accessFlags := 18, nameIndex := 15, descriptorIndex := 12, attributes := #[] }, { accessFlags := 18, nameIndex := 18, descriptorIndex := 12, attributes := #[] }, { accessFlags := 18, nameIndex := 21, descriptorIndex := 12, attributes := #[] }])
  fields := #[{ name := "namespace", type := (.object "java/lang/String"), accessFlags := 18, slot := 0, constantValue := 0 }, { name := "localName", type := (.object "java/lang/String"), accessFlags := 18, slot := 1, constantValue := 0 }, { name := "name", type := (.object "java/lang/String"), accessFlags := 18, slot := 2, constantValue := 0 }, { name := "value", type := (.object "java/lang/String"), accessFlags := 18, slot := 3, constantValue := 0 }]
  methods := #[k20m0, k20m1, k20m2]
  instanceTypes := #[(.object "java/lang/String"), (.object "java/lang/String"), (.object "java/lang/String"), (.object "java/lang/String")]
  staticTypes := #[]
  resolved := Array.replicate 68 none
  statics := none }

def pool21 : Array CpInfo := pool [(1, .class_ 2), (0, u "java/lang/Math"), (1, .class_ 6), (1, u "java/lang/Object"), (0, u "<init>"), (0, u "()V"), (89, .class_ 100), (1, u "java/lang/Math$RandomNumberGeneratorHolder"), (71, u "negativeZeroFloatBits"), (0, u "J"), (2, u "negativeZeroDoubleBits"), (21, u "max"), (46, u "$assertionsDisabled"), (0, u "Z"), (88, u "(II)I"), (2, u "twoToTheDoubleScaleDown"), (0, u "D"), (4, u "twoToTheDoubleScaleUp"), (9, u "E"), (3, u "PI"), (2, u "TAU"), (2, u "DEGREES_TO_RADIANS"), (0, u "RADIANS_TO_DEGREES")] 94

def k21m0 : Method := { name := "<init>", desc := "()V", sig := { parameters := [], returnType := none }, accessFlags := 2, code := none }
def k21c1 : Code := { maxStack := 2, maxLocals := 2, code := jdk_29_method_65_code, exceptionTable := #[], attributes := #[] }
def k21m1 : Method := { name := "max", desc := "(II)I", sig := { parameters := [.int, .int], returnType := some .int }, accessFlags := 9, code := some k21c1 }
/-- java/lang/Math -/
def k21 : Class := { plain "java/lang/Math" (some 0) with
  accessFlags := 49
  interfaces := #[]
  cf := some (fileOf pool21 1 #[.nestMembers #[98]] #[{ accessFlags := 2, nameIndex := 7, descriptorIndex := 8, attributes := #[] }, { accessFlags := 9, nameIndex := 198, descriptorIndex := 335, attributes := #[] }] 49 4 #[] #[{ accessFlags := 25, nameIndex := 354, descriptorIndex := 339, attributes := #[] }, { accessFlags := 25, nameIndex := 358, descriptorIndex := 339, attributes := #[] }, { accessFlags := 25, nameIndex := 361, descriptorIndex := 339, attributes := #[] }, { accessFlags := 26, nameIndex := 364, descriptorIndex := 339, attributes := #[] }, { accessFlags := 26, nameIndex := 365, descriptorIndex := 339, attributes := #[] }, { accessFlags := 26, nameIndex := 172, descriptorIndex := 173, attributes := #[] }, { accessFlags := 26, nameIndex := 176, descriptorIndex := 173, attributes := #[] }, { accessFlags := 8, nameIndex := 344, descriptorIndex := 339, attributes := #[] }, { accessFlags := 8, nameIndex := 338, descriptorIndex := 339, attributes := #[] }, { accessFlags := 4120, nameIndex := 245, descriptorIndex := 246, attributes := #[] }])
  fields := #[{ name := "E", type := .double, accessFlags := 25, slot := 0, constantValue := 0 }, { name := "PI", type := .double, accessFlags := 25, slot := 1, constantValue := 0 }, { name := "TAU", type := .double, accessFlags := 25, slot := 2, constantValue := 0 }, { name := "DEGREES_TO_RADIANS", type := .double, accessFlags := 26, slot := 3, constantValue := 0 }, { name := "RADIANS_TO_DEGREES", type := .double, accessFlags := 26, slot := 4, constantValue := 0 }, { name := "negativeZeroFloatBits", type := .long, accessFlags := 26, slot := 5, constantValue := 0 }, { name := "negativeZeroDoubleBits", type := .long, accessFlags := 26, slot := 6, constantValue := 0 }, { name := "twoToTheDoubleScaleUp", type := .double, accessFlags := 8, slot := 7, constantValue := 0 }, { name := "twoToTheDoubleScaleDown", type := .double, accessFlags := 8, slot := 8, constantValue := 0 }, { name := "$assertionsDisabled", type := .boolean, accessFlags := 4120, slot := 9, constantValue := 0 }]
  methods := #[k21m0, k21m1]
  instanceTypes := #[]
  staticTypes := #[.double, .double, .double, .double, .double, .long, .long, .double, .double, .boolean]
  resolved := Array.replicate 460 none
  statics := none }

def pool22 : Array CpInfo := pool [(2, .class_ 4), (1, u "java/lang/Object"), (0, u "<init>"), (0, u "()V"), (35, .class_ 44), (1, u "java/util/Objects"), (60, .methodref 106 107), (0, .class_ 108), (0, .nameAndType 109 110), (0, u "jdk/internal/util/Preconditions"), (0, u "checkIndex"), (0, u "(IILjava/util/function/BiFunction;)I"), (60, u "(II)I")] 12

def k22m0 : Method := { name := "<init>", desc := "()V", sig := { parameters := [], returnType := none }, accessFlags := 2, code := none }
def k22c1 : Code := { maxStack := 3, maxLocals := 2, code := jdk_31_method_17_code, exceptionTable := #[], attributes := #[] }
def k22m1 : Method := { name := "checkIndex", desc := "(II)I", sig := { parameters := [.int, .int], returnType := some .int }, accessFlags := 9, code := some k22c1 }
/-- java/util/Objects -/
def k22 : Class := { plain "java/util/Objects" (some 0) with
  accessFlags := 49
  interfaces := #[]
  cf := some (fileOf pool22 42 #[] #[{ accessFlags := 2, nameIndex := 5, descriptorIndex := 6, attributes := #[] }, { accessFlags := 9, nameIndex := 109, descriptorIndex := 171, attributes := #[] }] 49 2 #[] #[])
  fields := #[]
  methods := #[k22m0, k22m1]
  instanceTypes := #[]
  staticTypes := #[]
  resolved := Array.replicate 184 none
  statics := none }

def pool23 : Array CpInfo := pool [(2, .class_ 4), (1, u "java/lang/Object"), (0, u "<init>"), (0, u "()V"), (17, .class_ 26), (1, u "jdk/internal/util/Preconditions"), (6, u "checkIndex"), (21, .class_ 56), (0, u "jdk/internal/util/Preconditions$4"), (57, .class_ 115), (0, u "jdk/internal/util/Preconditions$1"), (7, u "SIOOBE_FORMATTER"), (0, u "Ljava/util/function/BiFunction;"), (0, .class_ 126), (0, u "jdk/internal/util/Preconditions$2"), (3, u "AIOOBE_FORMATTER"), (0, .class_ 132), (0, u "jdk/internal/util/Preconditions$3"), (3, u "IOOBE_FORMATTER"), (41, u "(IILjava/util/function/BiFunction;)I")] 15

def k23m0 : Method := { name := "<init>", desc := "()V", sig := { parameters := [], returnType := none }, accessFlags := 1, code := none }
def k23c1 : Code := { maxStack := 3, maxLocals := 3, code := jdk_41_method_11_code, exceptionTable := #[], attributes := #[] }
def k23m1 : Method := { name := "checkIndex", desc := "(IILjava/util/function/BiFunction;)I", sig := { parameters := [.int, .int, (.object "java/util/function/BiFunction")], returnType := some .int }, accessFlags := 9, code := some k23c1 }
/-- jdk/internal/util/Preconditions -/
def k23 : Class := { plain "jdk/internal/util/Preconditions" (some 0) with
  accessFlags := 33
  interfaces := #[]
  cf := some (fileOf pool23 24 #[.nestMembers #[55, 131, 125, 114]] #[{ accessFlags := 1, nameIndex := 5, descriptorIndex := 6, attributes := #[] }, { accessFlags := 9, nameIndex := 33, descriptorIndex := 178, attributes := #[] }] 33 2 #[] #[{ accessFlags := 25, nameIndex := 123, descriptorIndex := 124, attributes := #[] }, { accessFlags := 25, nameIndex := 130, descriptorIndex := 124, attributes := #[] }, { accessFlags := 25, nameIndex := 136, descriptorIndex := 124, attributes := #[] }])
  fields := #[{ name := "SIOOBE_FORMATTER", type := (.object "java/util/function/BiFunction"), accessFlags := 25, slot := 0, constantValue := 0 }, { name := "AIOOBE_FORMATTER", type := (.object "java/util/function/BiFunction"), accessFlags := 25, slot := 1, constantValue := 0 }, { name := "IOOBE_FORMATTER", type := (.object "java/util/function/BiFunction"), accessFlags := 25, slot := 2, constantValue := 0 }]
  methods := #[k23m0, k23m1]
  instanceTypes := #[]
  staticTypes := #[(.object "java/util/function/BiFunction"), (.object "java/util/function/BiFunction"), (.object "java/util/function/BiFunction")]
  resolved := Array.replicate 194 none
  statics := some 3 }

def pool24 : Array CpInfo := pool [(4, .class_ 6), (1, u "java/lang/Object"), (0, u "<init>"), (0, u "()V"), (5, .class_ 16), (1, u "java/lang/StringLatin1"), (104, u "$assertionsDisabled"), (0, u "Z"), (98, .class_ 223), (1, u "java/lang/StringLatin1$LinesSpliterator"), (57, u "equals"), (0, u "([B[B)Z"), (107, .class_ 391), (0, u "java/lang/StringLatin1$CharsSpliterator")] 3

def k24m0 : Method := { name := "<init>", desc := "()V", sig := { parameters := [], returnType := none }, accessFlags := 0, code := none }
def k24c1 : Code := { maxStack := 3, maxLocals := 3, code := jdk_43_method_13_code, exceptionTable := #[], attributes := #[] }
def k24m1 : Method := { name := "equals", desc := "([B[B)Z", sig := { parameters := [(.array .byte), (.array .byte)], returnType := some .boolean }, accessFlags := 9, code := some k24c1 }
/-- java/lang/StringLatin1 -/
def k24 : Class := { plain "java/lang/StringLatin1" (some 0) with
  accessFlags := 48
  interfaces := #[]
  cf := some (fileOf pool24 14 #[.nestMembers #[390, 221]] #[{ accessFlags := 0, nameIndex := 7, descriptorIndex := 8, attributes := #[] }, { accessFlags := 9, nameIndex := 281, descriptorIndex := 282, attributes := #[] }] 48 4 #[] #[{ accessFlags := 4120, nameIndex := 121, descriptorIndex := 122, attributes := #[] }])
  fields := #[{ name := "$assertionsDisabled", type := .boolean, accessFlags := 4120, slot := 0, constantValue := 0 }]
  methods := #[k24m0, k24m1]
  instanceTypes := #[]
  staticTypes := #[.boolean]
  resolved := Array.replicate 395 none
  statics := none }

def pool25 : Array CpInfo := pool [(6, .class_ 8), (1, u "java/lang/Object"), (0, u "<init>"), (0, u "()V"), (1, .class_ 14), (1, u "java/lang/StringUTF16"), (31, u "$assertionsDisabled"), (0, u "Z"), (13, u "HI_BYTE_SHIFT"), (0, u "I"), (2, u "LO_BYTE_SHIFT"), (49, .methodref 12 116), (0, .nameAndType 117 118), (0, u "compress"), (0, u "([CI[BII)I"), (3, u "([CII)[B"), (138, u "coderFromArrayLen"), (0, u "([BI)B"), (106, .class_ 371), (1, u "java/lang/StringUTF16$LinesSpliterator"), (58, u "MAX_LENGTH"), (196, .class_ 628), (0, u "java/lang/StringUTF16$CodePointsSpliterator"), (0, .class_ 630), (0, u "java/lang/StringUTF16$CharsSpliterator")] 4

def k25m0 : Method := { name := "<init>", desc := "()V", sig := { parameters := [], returnType := none }, accessFlags := 0, code := none }
def k25c1 : Code := { maxStack := 2, maxLocals := 2, code := jdk_52_method_15_code, exceptionTable := #[], attributes := #[] }
def k25m1 : Method := { name := "coderFromArrayLen", desc := "([BI)B", sig := { parameters := [(.array .byte), .int], returnType := some .byte }, accessFlags := 8, code := some k25c1 }
def k25c2 : Code := { maxStack := 5, maxLocals := 6, code := jdk_52_method_16_code, exceptionTable := #[], attributes := #[] }
def k25m2 : Method := { name := "compress", desc := "([CII)[B", sig := { parameters := [(.array .char), .int, .int], returnType := some (.array .byte) }, accessFlags := 9, code := some k25c2 }
def k25c3 : Code := { maxStack := 3, maxLocals := 7, code := jdk_52_method_21_code, exceptionTable := #[], attributes := #[] }
def k25m3 : Method := { name := "compress", desc := "([CI[BII)I", sig := { parameters := [(.array .char), .int, (.array .byte), .int, .int], returnType := some .int }, accessFlags := 9, code := some k25c3 }
/-- java/lang/StringUTF16 -/
def k25 : Class := { plain "java/lang/StringUTF16" (some 0) with
  accessFlags := 48
  interfaces := #[]
  cf := some (fileOf pool25 12 #[.nestMembers #[627, 629, 369]] #[{ accessFlags := 0, nameIndex := 9, descriptorIndex := 10, attributes := #[] }, { accessFlags := 8, nameIndex := 261, descriptorIndex := 262, attributes := #[] }, { accessFlags := 9, nameIndex := 117, descriptorIndex := 122, attributes := #[] }, { accessFlags := 9, nameIndex := 117, descriptorIndex := 118, attributes := #[] }] 48 6 #[] #[{ accessFlags := 26, nameIndex := 61, descriptorIndex := 62, attributes := #[] }, { accessFlags := 26, nameIndex := 65, descriptorIndex := 62, attributes := #[] }, { accessFlags := 24, nameIndex := 430, descriptorIndex := 62, attributes := #[] }, { accessFlags := 4120, nameIndex := 46, descriptorIndex := 47, attributes := #[] }])
  fields := #[{ name := "HI_BYTE_SHIFT", type := .int, accessFlags := 26, slot := 0, constantValue := 0 }, { name := "LO_BYTE_SHIFT", type := .int, accessFlags := 26, slot := 1, constantValue := 0 }, { name := "MAX_LENGTH", type := .int, accessFlags := 24, slot := 2, constantValue := 0 }, { name := "$assertionsDisabled", type := .boolean, accessFlags := 4120, slot := 3, constantValue := 0 }]
  methods := #[k25m0, k25m1, k25m2, k25m3]
  instanceTypes := #[]
  staticTypes := #[.int, .int, .int, .boolean]
  resolved := Array.replicate 635 none
  statics := none }

def pool26 : Array CpInfo := pool [(9, u "<init>"), (6, .class_ 18), (1, u "java/lang/Object"), (0, u "()V"), (1, .class_ 23), (1, u "jdk/internal/util/ArraysSupport"), (0, u "LOG2_ARRAY_LONG_INDEX_SCALE"), (0, u "I"), (2, u "U"), (0, u "Ljdk/internal/misc/Unsafe;"), (8, u "BIG_ENDIAN"), (0, u "Z"), (8, u "LOG2_BYTE_BIT_SIZE"), (4, u "LOG2_ARRAY_INT_INDEX_SCALE"), (54, u "JLA"), (0, u "Ljdk/internal/access/JavaLangAccess;"), (11, u "LOG2_ARRAY_BOOLEAN_INDEX_SCALE"), (9, u "LOG2_ARRAY_BYTE_INDEX_SCALE"), (5, u "LOG2_ARRAY_CHAR_INDEX_SCALE"), (5, u "LOG2_ARRAY_SHORT_INDEX_SCALE"), (18, u "LOG2_ARRAY_FLOAT_INDEX_SCALE"), (24, u "LOG2_ARRAY_DOUBLE_INDEX_SCALE"), (89, u "T_BOOLEAN"), (2, u "T_CHAR"), (1, u "T_FLOAT"), (1, u "T_DOUBLE"), (1, u "T_BYTE"), (1, u "T_SHORT"), (1, u "T_INT"), (1, u "T_LONG"), (1, u "SOFT_MAX_ARRAY_LENGTH")] 83

def k26m0 : Method := { name := "<init>", desc := "()V", sig := { parameters := [], returnType := none }, accessFlags := 2, code := none }
/-- jdk/internal/util/ArraysSupport -/
def k26 : Class := { plain "jdk/internal/util/ArraysSupport" (some 0) with
  accessFlags := 33
  interfaces := #[]
  cf := some (fileOf pool26 21 #[] #[{ accessFlags := 2, nameIndex := 9, descriptorIndex := 19, attributes := #[] }] 33 16 #[] #[{ accessFlags := 24, nameIndex := 28, descriptorIndex := 29, attributes := #[] }, { accessFlags := 26, nameIndex := 38, descriptorIndex := 39, attributes := #[] }, { accessFlags := 25, nameIndex := 121, descriptorIndex := 25, attributes := #[] }, { accessFlags := 25, nameIndex := 131, descriptorIndex := 25, attributes := #[] }, { accessFlags := 25, nameIndex := 137, descriptorIndex := 25, attributes := #[] }, { accessFlags := 25, nameIndex := 143, descriptorIndex := 25, attributes := #[] }, { accessFlags := 25, nameIndex := 53, descriptorIndex := 25, attributes := #[] }, { accessFlags := 25, nameIndex := 24, descriptorIndex := 25, attributes := #[] }, { accessFlags := 25, nameIndex := 162, descriptorIndex := 25, attributes := #[] }, { accessFlags := 25, nameIndex := 187, descriptorIndex := 25, attributes := #[] }, { accessFlags := 26, nameIndex := 48, descriptorIndex := 25, attributes := #[] }, { accessFlags := 25, nameIndex := 277, descriptorIndex := 25, attributes := #[] }, { accessFlags := 25, nameIndex := 280, descriptorIndex := 25, attributes := #[] }, { accessFlags := 25, nameIndex := 282, descriptorIndex := 25, attributes := #[] }, { accessFlags := 25, nameIndex := 284, descriptorIndex := 25, attributes := #[] }, { accessFlags := 25, nameIndex := 286, descriptorIndex := 25, attributes := #[] }, { accessFlags := 25, nameIndex := 288, descriptorIndex := 25, attributes := #[] }, { accessFlags := 25, nameIndex := 290, descriptorIndex := 25, attributes := #[] }, { accessFlags := 25, nameIndex := 292, descriptorIndex := 25, attributes := #[] }, { accessFlags := 26, nameIndex := 108, descriptorIndex := 109, attributes := #[] }, { accessFlags := 25, nameIndex := 294, descriptorIndex := 25, attributes := #[] }])
  fields := #[{ name := "U", type := (.object "jdk/internal/misc/Unsafe"), accessFlags := 24, slot := 0, constantValue := 0 }, { name := "BIG_ENDIAN", type := .boolean, accessFlags := 26, slot := 1, constantValue := 0 }, { name := "LOG2_ARRAY_BOOLEAN_INDEX_SCALE", type := .int, accessFlags := 25, slot := 2, constantValue := 0 }, { name := "LOG2_ARRAY_BYTE_INDEX_SCALE", type := .int, accessFlags := 25, slot := 3, constantValue := 0 }, { name := "LOG2_ARRAY_CHAR_INDEX_SCALE", type := .int, accessFlags := 25, slot := 4, constantValue := 0 }, { name := "LOG2_ARRAY_SHORT_INDEX_SCALE", type := .int, accessFlags := 25, slot := 5, constantValue := 0 }, { name := "LOG2_ARRAY_INT_INDEX_SCALE", type := .int, accessFlags := 25, slot := 6, constantValue := 0 }, { name := "LOG2_ARRAY_LONG_INDEX_SCALE", type := .int, accessFlags := 25, slot := 7, constantValue := 0 }, { name := "LOG2_ARRAY_FLOAT_INDEX_SCALE", type := .int, accessFlags := 25, slot := 8, constantValue := 0 }, { name := "LOG2_ARRAY_DOUBLE_INDEX_SCALE", type := .int, accessFlags := 25, slot := 9, constantValue := 0 }, { name := "LOG2_BYTE_BIT_SIZE", type := .int, accessFlags := 26, slot := 10, constantValue := 0 }, { name := "T_BOOLEAN", type := .int, accessFlags := 25, slot := 11, constantValue := 0 }, { name := "T_CHAR", type := .int, accessFlags := 25, slot := 12, constantValue := 0 }, { name := "T_FLOAT", type := .int, accessFlags := 25, slot := 13, constantValue := 0 }, { name := "T_DOUBLE", type := .int, accessFlags := 25, slot := 14, constantValue := 0 }, { name := "T_BYTE", type := .int, accessFlags := 25, slot := 15, constantValue := 0 }, { name := "T_SHORT", type := .int, accessFlags := 25, slot := 16, constantValue := 0 }, { name := "T_INT", type := .int, accessFlags := 25, slot := 17, constantValue := 0 }, { name := "T_LONG", type := .int, accessFlags := 25, slot := 18, constantValue := 0 }, { name := "JLA", type := (.object "jdk/internal/access/JavaLangAccess"), accessFlags := 26, slot := 19, constantValue := 0 }, { name := "SOFT_MAX_ARRAY_LENGTH", type := .int, accessFlags := 25, slot := 20, constantValue := 0 }]
  methods := #[k26m0]
  instanceTypes := #[]
  staticTypes := #[(.object "jdk/internal/misc/Unsafe"), .boolean, .int, .int, .int, .int, .int, .int, .int, .int, .int, .int, .int, .int, .int, .int, .int, .int, .int, (.object "jdk/internal/access/JavaLangAccess"), .int]
  resolved := Array.replicate 378 none
  statics := none }

def pool27 : Array CpInfo := pool [(2, .class_ 4), (1, u "java/util/AbstractCollection"), (0, u "<init>"), (0, u "()V"), (1, .class_ 10), (1, u "java/util/ImmutableCollections"), (2, .class_ 14), (0, u "java/util/ImmutableCollections$AbstractImmutableCollection")] 41

def k27m0 : Method := { name := "<init>", desc := "()V", sig := { parameters := [], returnType := none }, accessFlags := 0, code := none }
/-- java/util/ImmutableCollections$AbstractImmutableCollection -/
def k27 : Class := { plain "java/util/ImmutableCollections$AbstractImmutableCollection" (some 10) with
  accessFlags := 1056
  interfaces := #[]
  cf := some (fileOf pool27 13 #[.nestHost 8] #[{ accessFlags := 0, nameIndex := 5, descriptorIndex := 6, attributes := #[] }] 1056 2 #[] #[])
  fields := #[]
  methods := #[k27m0]
  instanceTypes := #[]
  staticTypes := #[]
  resolved := Array.replicate 56 none
  statics := none }

def pool28 : Array CpInfo := pool [(2, .class_ 4), (1, u "java/util/ImmutableCollections$AbstractImmutableCollection"), (0, u "<init>"), (0, u "()V"), (1, .class_ 10), (1, u "java/util/ImmutableCollections"), (3, .class_ 16), (1, u "java/util/ImmutableCollections$AbstractImmutableList"), (60, .class_ 78), (0, u "java/util/List"), (45, .class_ 125), (0, u "java/util/RandomAccess")] 70

def k28m0 : Method := { name := "<init>", desc := "()V", sig := { parameters := [], returnType := none }, accessFlags := 0, code := none }
/-- java/util/ImmutableCollections$AbstractImmutableList -/
def k28 : Class := { plain "java/util/ImmutableCollections$AbstractImmutableList" (some 27) with
  accessFlags := 1056
  interfaces := #[12, 14]
  cf := some (fileOf pool28 14 #[.nestHost 8] #[{ accessFlags := 0, nameIndex := 5, descriptorIndex := 6, attributes := #[] }] 1056 2 #[77, 124] #[])
  fields := #[]
  methods := #[k28m0]
  instanceTypes := #[]
  staticTypes := #[]
  resolved := Array.replicate 196 none
  statics := none }

def pool29 : Array CpInfo := pool [(2, .class_ 4), (1, u "java/util/ImmutableCollections$AbstractImmutableList"), (3, .class_ 10), (1, u "java/util/ImmutableCollections$ListN"), (0, u "elements"), (0, u "[Ljava/lang/Object;"), (2, u "allowNulls"), (0, u "Z"), (42, .class_ 60), (0, u "java/io/Serializable"), (53, .class_ 115), (0, u "java/util/ImmutableCollections")] 3

/-- java/util/ImmutableCollections$ListN -/
def k29 : Class := { plain "java/util/ImmutableCollections$ListN" (some 28) with
  accessFlags := 48
  interfaces := #[2]
  cf := some (fileOf pool29 8 #[.nestHost 114] #[] 48 2 #[59] #[{ accessFlags := 18, nameIndex := 11, descriptorIndex := 12, attributes := #[] }, { accessFlags := 18, nameIndex := 15, descriptorIndex := 16, attributes := #[] }])
  fields := #[{ name := "elements", type := (.array (.object "java/lang/Object")), accessFlags := 18, slot := 0, constantValue := 0 }, { name := "allowNulls", type := .boolean, accessFlags := 18, slot := 1, constantValue := 0 }]
  methods := #[]
  instanceTypes := #[(.array (.object "java/lang/Object")), .boolean]
  staticTypes := #[]
  resolved := Array.replicate 119 none
  statics := none }

/-- the primitive byte -/
def k30 : Class := { plain "byte" none with kind := .primitive 'B', accessFlags := 0x411 }
/-- [B -/
def k31 : Class := { plain "[B" (some 0) with kind := .array 30 .byte, interfaces := #[15, 2], accessFlags := 1041 }

/-- the primitive char -/
def k32 : Class := { plain "char" none with kind := .primitive 'C', accessFlags := 0x411 }
/-- [C -/
def k33 : Class := { plain "[C" (some 0) with kind := .array 32 .char, interfaces := #[15, 2], accessFlags := 1041 }

/-- the primitive int -/
def k34 : Class := { plain "int" none with kind := .primitive 'I', accessFlags := 0x411 }
/-- [I -/
def k35 : Class := { plain "[I" (some 0) with kind := .array 34 .int, interfaces := #[15, 2], accessFlags := 1041 }

/-- [Ljava/lang/Object; -/
def k36 : Class := { plain "[Ljava/lang/Object;" (some 0) with kind := .array 0 (.object "java/lang/Object"), interfaces := #[15, 2], accessFlags := 1041 }

def heap : Heap := #[{ cls := 7, slots := #[.long 0, .int 1, .null, .int 0, .null, .int 0, .int 0], vm := .statics 7 },
  { cls := 16, slots := #[.long 0, .int 0, .ref 6, .ref 7], vm := .statics 16 },
  { cls := 18, slots := #[.long 0, .int 0, .null, .null, .ref 5, .null, .null, .null, .int 0, .int 0], vm := .statics 18 },
  { cls := 23, slots := #[.null, .null, .null], vm := .statics 23 },
  { cls := 36, slots := #[], vm := .none },
  { cls := 29, slots := #[.ref 4, .int 0], vm := .none },
  { cls := 36, slots := #[], vm := .none },
  { cls := 36, slots := #[], vm := .none }]
def classes : Array Class := #[k0, k1, k2, k3, k4, k5, k6, k7, k8, k9, k10, k11, k12, k13, k14, k15, k16, k17, k18, k19, k20, k21, k22, k23, k24, k25, k26, k27, k28, k29, k30, k31, k32, k33, k34, k35, k36]
def interned : List (Array UInt16 × Addr) := []
def slotsUsed : Nat := 26
def theMethod : MethodId := ⟨1, 2⟩
def args0 : Array Value := #[.int 5, .int 6, .int 7, .int 8, .int 9]
def aboutOver (below : List Frame) : State where
  vm := { classes := classes, interned := interned.toArray }
  heap := heap
  slotsUsed := slotsUsed
  threads := #[{ frames := .invoking theMethod args0 :: below }]
def below0 : List Frame := [.native { method := ⟨0, 0⟩, args := #[] }]
def about1 : State := aboutOver below0
def p0 : Program := .bare "" "" ""
def e0 : Env := launch0.env 0 0 0
theorem w_frames : about1.frames = Frame.invoking theMethod args0 :: below0 := rfl
set_option maxRecDepth 65536 in
theorem w_args : argsFit about1.vm theMethod args0 = true := by decide +kernel
set_option maxRecDepth 65536 in
theorem w_heap : heapFits about1 = true := by decide +kernel
set_option maxRecDepth 65536 in
theorem w_runnable : about1.curStatus? = some .runnable := by decide +kernel
set_option maxRecDepth 65536 in
theorem w_alone : about1.alone = true := by decide +kernel
set_option maxRecDepth 65536 in
theorem w_named : about1.methodNamed? x = some theMethod := by decide +kernel
set_option maxRecDepth 65536 in
theorem w_hears : about1.hears theMethod below0 = true := by decide +kernel
set_option maxRecDepth 65536 in
theorem w_ripe : about1.ripe theMethod args0 below0 = true := by decide +kernel
theorem w_running : about1.status = .running := rfl
set_option maxRecDepth 65536 in
theorem w_room : about1.hasRoom e0.platform room_1 = true :=
  launch0.hasRoom_least _ room_1 (by decide +kernel) (by decide +kernel) (by decide +kernel) (by decide +kernel) (by decide +kernel) (by decide +kernel)
theorem allAtoms_all (ts : List Jvm.Cond) (a : Array Jvm.Value) (st : Jvm.State) : (allAtoms ts).before a st = ts.all (fun c => c.before a st) := by
  induction ts with
  | nil => rfl
  | cons c t ih =>
    show (Jvm.Cond.and c (allAtoms t)).before a st = _
    rw [Jvm.Cond.before_and, ih, List.all_cons]
def words1 : List Jvm.Cond := Jvm.Cond.code x code maxLocals ret :: tables_1
/-- a 'code' word, met by the world's own term for the bytes: nothing is compared byte by byte -/
theorem code_word {y : MethodName} {bytes : ByteArray} {mx : Nat} {rt : Option FieldType} {a : Array Value} {s : State} {m : MethodId} {meth : Method} {c : Code} (h1 : s.methodNamed? y = some m) (h2 : s.vm.method? m = some meth) (h3 : meth.code = some c) (h4 : c.code = bytes)
    (h5 : (c.maxLocals == mx && c.exceptionTable.isEmpty && decide (c.maxStack ≤ mostOperands) && decide (meth.sig.returnType = rt) && !meth.locks && decide (parseMethodDescriptor y.desc = some meth.sig)) = true) : (Jvm.Cond.code y bytes mx rt).before a s = true := by
  simp only [Bool.and_eq_true, beq_iff_eq, Bool.not_eq_true', decide_eq_true_eq] at h5
  obtain ⟨⟨⟨⟨⟨g1, g2⟩, g3⟩, g4⟩, g5⟩, g6⟩ := h5
  simp [Cond.before, Cond.holds, Cond.value, h1, h2, h3, h4, g1, g2, g3, g4, g5, g6]
def isCode : Jvm.Cond → Bool
  | .code _ _ _ _ => true
  | _ => false
theorem all_split {L : List Jvm.Cond} {P : Jvm.Cond → Bool} (h1 : L.all (fun c => isCode c || P c) = true) (h2 : ∀ c ∈ L.filter isCode, P c = true) : L.all P = true := by
  refine List.all_eq_true.mpr fun c hc => ?_
  have h := List.all_eq_true.mp h1 c hc
  rcases Bool.eq_false_or_eq_true (isCode c) with hi | hi
  · exact h2 c (List.mem_filter.mpr ⟨hc, hi⟩)
  · simpa [hi] using h
set_option maxRecDepth 65536 in
theorem w_c0 : (Jvm.Cond.code x code maxLocals ret).before args0 about1 = true := code_word (m := ⟨1, 2⟩) (meth := k1m2) (c := k1c2) (by decide +kernel) rfl rfl rfl (by decide +kernel)
set_option maxRecDepth 65536 in
theorem w_c1 : (Jvm.Cond.code ({ cls := "com/example/config_into_context/configintocontext/XmlElementGivenPinLaw", name := "mk", desc := "(I)Ljava/lang/String;" } : Jvm.MethodName) method_2_code (6 : Nat) (Option.some (Jvm.ClassFile.FieldType.object "java/lang/String"))).before args0 about1 = true := code_word (m := ⟨1, 1⟩) (meth := k1m1) (c := k1c1) (by decide +kernel) rfl rfl rfl (by decide +kernel)
set_option maxRecDepth 65536 in
theorem w_c2 : (Jvm.Cond.code ({ cls := "java/lang/String", name := "<init>", desc := "([C)V" } : Jvm.MethodName) jdk_42_method_3_code (2 : Nat) (Option.none : Option Jvm.ClassFile.FieldType)).before args0 about1 = true := code_word (m := ⟨7, 1⟩) (meth := k7m1) (c := k7c1) (by decide +kernel) rfl rfl rfl (by decide +kernel)
set_option maxRecDepth 65536 in
theorem w_c3 : (Jvm.Cond.code ({ cls := "java/lang/String", name := "<init>", desc := "([CIILjava/lang/Void;)V" } : Jvm.MethodName) jdk_42_method_149_code (6 : Nat) (Option.none : Option Jvm.ClassFile.FieldType)).before args0 about1 = true := code_word (m := ⟨7, 4⟩) (meth := k7m4) (c := k7c4) (by decide +kernel) rfl rfl rfl (by decide +kernel)
set_option maxRecDepth 65536 in
theorem w_c4 : (Jvm.Cond.code ({ cls := "java/lang/Object", name := "<init>", desc := "()V" } : Jvm.MethodName) object_method_1_code (1 : Nat) (Option.none : Option Jvm.ClassFile.FieldType)).before args0 about1 = true := code_word (m := ⟨0, 0⟩) (meth := k0m0) (c := k0c0) (by decide +kernel) rfl rfl rfl (by decide +kernel)
set_option maxRecDepth 65536 in
theorem w_c5 : (Jvm.Cond.code ({ cls := "java/util/ArrayList", name := "<init>", desc := "()V" } : Jvm.MethodName) jdk_38_method_2_code (1 : Nat) (Option.none : Option Jvm.ClassFile.FieldType)).before args0 about1 = true := code_word (m := ⟨16, 0⟩) (meth := k16m0) (c := k16c0) (by decide +kernel) rfl rfl rfl (by decide +kernel)
set_option maxRecDepth 65536 in
theorem w_c6 : (Jvm.Cond.code ({ cls := "java/util/AbstractList", name := "<init>", desc := "()V" } : Jvm.MethodName) jdk_39_method_1_code (1 : Nat) (Option.none : Option Jvm.ClassFile.FieldType)).before args0 about1 = true := code_word (m := ⟨13, 0⟩) (meth := k13m0) (c := k13c0) (by decide +kernel) rfl rfl rfl (by decide +kernel)
set_option maxRecDepth 65536 in
theorem w_c7 : (Jvm.Cond.code ({ cls := "java/util/AbstractCollection", name := "<init>", desc := "()V" } : Jvm.MethodName) jdk_22_method_1_code (1 : Nat) (Option.none : Option Jvm.ClassFile.FieldType)).before args0 about1 = true := code_word (m := ⟨10, 0⟩) (meth := k10m0) (c := k10c0) (by decide +kernel) rfl rfl rfl (by decide +kernel)
set_option maxRecDepth 65536 in
theorem w_c8 : (Jvm.Cond.code ({ cls := "com/example/config_into_context/configintocontext/XmlElement", name := "<init>", desc := "(Ljava/lang/String;Ljava/lang/String;Ljava/lang/String;Ljava/util/List;I)V" } : Jvm.MethodName) prog_61_method_1_code (6 : Nat) (Option.none : Option Jvm.ClassFile.FieldType)).before args0 about1 = true := code_word (m := ⟨17, 0⟩) (meth := k17m0) (c := k17c0) (by decide +kernel) rfl rfl rfl (by decide +kernel)
set_option maxRecDepth 65536 in
theorem w_c9 : (Jvm.Cond.code ({ cls := "java/util/List", name := "of", desc := "()Ljava/util/List;" } : Jvm.MethodName) jdk_40_method_36_code (0 : Nat) (Option.some (Jvm.ClassFile.FieldType.object "java/util/List"))).before args0 about1 = true := code_word (m := ⟨12, 2⟩) (meth := k12m2) (c := k12c2) (by decide +kernel) rfl rfl rfl (by decide +kernel)
set_option maxRecDepth 65536 in
theorem w_c10 : (Jvm.Cond.code ({ cls := "com/example/config_into_context/configintocontext/XmlElement", name := "given", desc := "(Ljava/lang/String;)Ljava/lang/String;" } : Jvm.MethodName) prog_61_method_9_code (4 : Nat) (Option.some (Jvm.ClassFile.FieldType.object "java/lang/String"))).before args0 about1 = true := code_word (m := ⟨17, 1⟩) (meth := k17m1) (c := k17c1) (by decide +kernel) rfl rfl rfl (by decide +kernel)
set_option maxRecDepth 65536 in
theorem w_c11 : (Jvm.Cond.code ({ cls := "java/util/ArrayList", name := "size", desc := "()I" } : Jvm.MethodName) jdk_38_method_8_code (1 : Nat) (Option.some Jvm.ClassFile.FieldType.int)).before args0 about1 = true := code_word (m := ⟨16, 3⟩) (meth := k16m3) (c := k16c3) (by decide +kernel) rfl rfl rfl (by decide +kernel)
set_option maxRecDepth 65536 in
theorem w_c12 : (Jvm.Cond.code ({ cls := "com/example/config_into_context/configintocontext/XmlElement$Attribute", name := "<init>", desc := "(Ljava/lang/String;Ljava/lang/String;Ljava/lang/String;Ljava/lang/String;)V" } : Jvm.MethodName) prog_62_method_1_code (5 : Nat) (Option.none : Option Jvm.ClassFile.FieldType)).before args0 about1 = true := code_word (m := ⟨20, 0⟩) (meth := k20m0) (c := k20c0) (by decide +kernel) rfl rfl rfl (by decide +kernel)
set_option maxRecDepth 65536 in
theorem w_c13 : (Jvm.Cond.code ({ cls := "java/lang/Record", name := "<init>", desc := "()V" } : Jvm.MethodName) jdk_30_method_1_code (1 : Nat) (Option.none : Option Jvm.ClassFile.FieldType)).before args0 about1 = true := code_word (m := ⟨19, 0⟩) (meth := k19m0) (c := k19c0) (by decide +kernel) rfl rfl rfl (by decide +kernel)
set_option maxRecDepth 65536 in
theorem w_c14 : (Jvm.Cond.code ({ cls := "java/util/ArrayList", name := "add", desc := "(Ljava/lang/Object;)Z" } : Jvm.MethodName) jdk_38_method_25_code (2 : Nat) (Option.some Jvm.ClassFile.FieldType.boolean)).before args0 about1 = true := code_word (m := ⟨16, 7⟩) (meth := k16m7) (c := k16c7) (by decide +kernel) rfl rfl rfl (by decide +kernel)
set_option maxRecDepth 65536 in
theorem w_c15 : (Jvm.Cond.code ({ cls := "java/util/ArrayList", name := "add", desc := "(Ljava/lang/Object;[Ljava/lang/Object;I)V" } : Jvm.MethodName) jdk_38_method_24_code (4 : Nat) (Option.none : Option Jvm.ClassFile.FieldType)).before args0 about1 = true := code_word (m := ⟨16, 6⟩) (meth := k16m6) (c := k16c6) (by decide +kernel) rfl rfl rfl (by decide +kernel)
set_option maxRecDepth 65536 in
theorem w_c16 : (Jvm.Cond.code ({ cls := "java/util/ArrayList", name := "grow", desc := "()[Ljava/lang/Object;" } : Jvm.MethodName) jdk_38_method_7_code (1 : Nat) (Option.some (Jvm.ClassFile.FieldType.array (Jvm.ClassFile.FieldType.object "java/lang/Object")))).before args0 about1 = true := code_word (m := ⟨16, 2⟩) (meth := k16m2) (c := k16c2) (by decide +kernel) rfl rfl rfl (by decide +kernel)
set_option maxRecDepth 65536 in
theorem w_c17 : (Jvm.Cond.code ({ cls := "java/util/ArrayList", name := "grow", desc := "(I)[Ljava/lang/Object;" } : Jvm.MethodName) jdk_38_method_6_code (4 : Nat) (Option.some (Jvm.ClassFile.FieldType.array (Jvm.ClassFile.FieldType.object "java/lang/Object")))).before args0 about1 = true := code_word (m := ⟨16, 1⟩) (meth := k16m1) (c := k16c1) (by decide +kernel) rfl rfl rfl (by decide +kernel)
set_option maxRecDepth 65536 in
theorem w_c18 : (Jvm.Cond.code ({ cls := "java/lang/Math", name := "max", desc := "(II)I" } : Jvm.MethodName) jdk_29_method_65_code (2 : Nat) (Option.some Jvm.ClassFile.FieldType.int)).before args0 about1 = true := code_word (m := ⟨21, 1⟩) (meth := k21m1) (c := k21c1) (by decide +kernel) rfl rfl rfl (by decide +kernel)
set_option maxRecDepth 65536 in
theorem w_c19 : (Jvm.Cond.code ({ cls := "java/util/ArrayList", name := "get", desc := "(I)Ljava/lang/Object;" } : Jvm.MethodName) jdk_38_method_20_code (2 : Nat) (Option.some (Jvm.ClassFile.FieldType.object "java/lang/Object"))).before args0 about1 = true := code_word (m := ⟨16, 5⟩) (meth := k16m5) (c := k16c5) (by decide +kernel) rfl rfl rfl (by decide +kernel)
set_option maxRecDepth 65536 in
theorem w_c20 : (Jvm.Cond.code ({ cls := "java/util/Objects", name := "checkIndex", desc := "(II)I" } : Jvm.MethodName) jdk_31_method_17_code (2 : Nat) (Option.some Jvm.ClassFile.FieldType.int)).before args0 about1 = true := code_word (m := ⟨22, 1⟩) (meth := k22m1) (c := k22c1) (by decide +kernel) rfl rfl rfl (by decide +kernel)
set_option maxRecDepth 65536 in
theorem w_c21 : (Jvm.Cond.code ({ cls := "jdk/internal/util/Preconditions", name := "checkIndex", desc := "(IILjava/util/function/BiFunction;)I" } : Jvm.MethodName) jdk_41_method_11_code (3 : Nat) (Option.some Jvm.ClassFile.FieldType.int)).before args0 about1 = true := code_word (m := ⟨23, 1⟩) (meth := k23m1) (c := k23c1) (by decide +kernel) rfl rfl rfl (by decide +kernel)
set_option maxRecDepth 65536 in
theorem w_c22 : (Jvm.Cond.code ({ cls := "java/util/ArrayList", name := "elementData", desc := "(I)Ljava/lang/Object;" } : Jvm.MethodName) jdk_38_method_18_code (2 : Nat) (Option.some (Jvm.ClassFile.FieldType.object "java/lang/Object"))).before args0 about1 = true := code_word (m := ⟨16, 4⟩) (meth := k16m4) (c := k16c4) (by decide +kernel) rfl rfl rfl (by decide +kernel)
set_option maxRecDepth 65536 in
theorem w_c23 : (Jvm.Cond.code ({ cls := "com/example/config_into_context/configintocontext/XmlElement$Attribute", name := "name", desc := "()Ljava/lang/String;" } : Jvm.MethodName) prog_62_method_7_code (1 : Nat) (Option.some (Jvm.ClassFile.FieldType.object "java/lang/String"))).before args0 about1 = true := code_word (m := ⟨20, 1⟩) (meth := k20m1) (c := k20c1) (by decide +kernel) rfl rfl rfl (by decide +kernel)
set_option maxRecDepth 65536 in
theorem w_c24 : (Jvm.Cond.code ({ cls := "java/lang/String", name := "length", desc := "()I" } : Jvm.MethodName) jdk_42_method_54_code (1 : Nat) (Option.some Jvm.ClassFile.FieldType.int)).before args0 about1 = true := code_word (m := ⟨7, 2⟩) (meth := k7m2) (c := k7c2) (by decide +kernel) rfl rfl rfl (by decide +kernel)
set_option maxRecDepth 65536 in
theorem w_c25 : (Jvm.Cond.code ({ cls := "java/lang/String", name := "coder", desc := "()B" } : Jvm.MethodName) jdk_42_method_152_code (1 : Nat) (Option.some Jvm.ClassFile.FieldType.byte)).before args0 about1 = true := code_word (m := ⟨7, 5⟩) (meth := k7m5) (c := k7c5) (by decide +kernel) rfl rfl rfl (by decide +kernel)
set_option maxRecDepth 65536 in
theorem w_c26 : (Jvm.Cond.code ({ cls := "java/lang/String", name := "equals", desc := "(Ljava/lang/Object;)Z" } : Jvm.MethodName) jdk_42_method_66_code (3 : Nat) (Option.some Jvm.ClassFile.FieldType.boolean)).before args0 about1 = true := code_word (m := ⟨7, 3⟩) (meth := k7m3) (c := k7c3) (by decide +kernel) rfl rfl rfl (by decide +kernel)
set_option maxRecDepth 65536 in
theorem w_c27 : (Jvm.Cond.code ({ cls := "java/lang/StringLatin1", name := "equals", desc := "([B[B)Z" } : Jvm.MethodName) jdk_43_method_13_code (3 : Nat) (Option.some Jvm.ClassFile.FieldType.boolean)).before args0 about1 = true := code_word (m := ⟨24, 1⟩) (meth := k24m1) (c := k24c1) (by decide +kernel) rfl rfl rfl (by decide +kernel)
set_option maxRecDepth 65536 in
theorem w_c28 : (Jvm.Cond.code ({ cls := "com/example/config_into_context/configintocontext/XmlElement$Attribute", name := "value", desc := "()Ljava/lang/String;" } : Jvm.MethodName) prog_62_method_8_code (1 : Nat) (Option.some (Jvm.ClassFile.FieldType.object "java/lang/String"))).before args0 about1 = true := code_word (m := ⟨20, 2⟩) (meth := k20m2) (c := k20c2) (by decide +kernel) rfl rfl rfl (by decide +kernel)
set_option maxRecDepth 65536 in
theorem w_c29 : (Jvm.Cond.code ({ cls := "java/lang/StringUTF16", name := "compress", desc := "([CII)[B" } : Jvm.MethodName) jdk_52_method_16_code (6 : Nat) (Option.some (Jvm.ClassFile.FieldType.array Jvm.ClassFile.FieldType.byte))).before args0 about1 = true := code_word (m := ⟨25, 2⟩) (meth := k25m2) (c := k25c2) (by decide +kernel) rfl rfl rfl (by decide +kernel)
set_option maxRecDepth 65536 in
theorem w_c30 : (Jvm.Cond.code ({ cls := "java/lang/StringUTF16", name := "compress", desc := "([CI[BII)I" } : Jvm.MethodName) jdk_52_method_21_code (7 : Nat) (Option.some Jvm.ClassFile.FieldType.int)).before args0 about1 = true := code_word (m := ⟨25, 3⟩) (meth := k25m3) (c := k25c3) (by decide +kernel) rfl rfl rfl (by decide +kernel)
set_option maxRecDepth 65536 in
theorem w_c31 : (Jvm.Cond.code ({ cls := "java/lang/StringUTF16", name := "coderFromArrayLen", desc := "([BI)B" } : Jvm.MethodName) jdk_52_method_15_code (2 : Nat) (Option.some Jvm.ClassFile.FieldType.byte)).before args0 about1 = true := code_word (m := ⟨25, 1⟩) (meth := k25m1) (c := k25c1) (by decide +kernel) rfl rfl rfl (by decide +kernel)
def codes1 : List Jvm.Cond := [Jvm.Cond.code x code maxLocals ret, Jvm.Cond.code ({ cls := "com/example/config_into_context/configintocontext/XmlElementGivenPinLaw", name := "mk", desc := "(I)Ljava/lang/String;" } : Jvm.MethodName) method_2_code (6 : Nat) (Option.some (Jvm.ClassFile.FieldType.object "java/lang/String")), Jvm.Cond.code ({ cls := "java/lang/String", name := "<init>", desc := "([C)V" } : Jvm.MethodName) jdk_42_method_3_code (2 : Nat) (Option.none : Option Jvm.ClassFile.FieldType), Jvm.Cond.code ({ cls := "java/lang/String", name := "<init>", desc := "([CIILjava/lang/Void;)V" } : Jvm.MethodName) jdk_42_method_149_code (6 : Nat) (Option.none : Option Jvm.ClassFile.FieldType), Jvm.Cond.code ({ cls := "java/lang/Object", name := "<init>", desc := "()V" } : Jvm.MethodName) object_method_1_code (1 : Nat) (Option.none : Option Jvm.ClassFile.FieldType), Jvm.Cond.code ({ cls := "java/util/ArrayList", name := "<init>", desc := "()V" } : Jvm.MethodName) jdk_38_method_2_code (1 : Nat) (Option.none : Option Jvm.ClassFile.FieldType), Jvm.Cond.code ({ cls := "java/util/AbstractList", name := "<init>", desc := "()V" } : Jvm.MethodName) jdk_39_method_1_code (1 : Nat) (Option.none : Option Jvm.ClassFile.FieldType), Jvm.Cond.code ({ cls := "java/util/AbstractCollection", name := "<init>", desc := "()V" } : Jvm.MethodName) jdk_22_method_1_code (1 : Nat) (Option.none : Option Jvm.ClassFile.FieldType), Jvm.Cond.code ({ cls := "com/example/config_into_context/configintocontext/XmlElement", name := "<init>", desc := "(Ljava/lang/String;Ljava/lang/String;Ljava/lang/String;Ljava/util/List;I)V" } : Jvm.MethodName) prog_61_method_1_code (6 : Nat) (Option.none : Option Jvm.ClassFile.FieldType), Jvm.Cond.code ({ cls := "java/util/List", name := "of", desc := "()Ljava/util/List;" } : Jvm.MethodName) jdk_40_method_36_code (0 : Nat) (Option.some (Jvm.ClassFile.FieldType.object "java/util/List")), Jvm.Cond.code ({ cls := "com/example/config_into_context/configintocontext/XmlElement", name := "given", desc := "(Ljava/lang/String;)Ljava/lang/String;" } : Jvm.MethodName) prog_61_method_9_code (4 : Nat) (Option.some (Jvm.ClassFile.FieldType.object "java/lang/String")), Jvm.Cond.code ({ cls := "java/util/ArrayList", name := "size", desc := "()I" } : Jvm.MethodName) jdk_38_method_8_code (1 : Nat) (Option.some Jvm.ClassFile.FieldType.int), Jvm.Cond.code ({ cls := "com/example/config_into_context/configintocontext/XmlElement$Attribute", name := "<init>", desc := "(Ljava/lang/String;Ljava/lang/String;Ljava/lang/String;Ljava/lang/String;)V" } : Jvm.MethodName) prog_62_method_1_code (5 : Nat) (Option.none : Option Jvm.ClassFile.FieldType), Jvm.Cond.code ({ cls := "java/lang/Record", name := "<init>", desc := "()V" } : Jvm.MethodName) jdk_30_method_1_code (1 : Nat) (Option.none : Option Jvm.ClassFile.FieldType), Jvm.Cond.code ({ cls := "java/util/ArrayList", name := "add", desc := "(Ljava/lang/Object;)Z" } : Jvm.MethodName) jdk_38_method_25_code (2 : Nat) (Option.some Jvm.ClassFile.FieldType.boolean), Jvm.Cond.code ({ cls := "java/util/ArrayList", name := "add", desc := "(Ljava/lang/Object;[Ljava/lang/Object;I)V" } : Jvm.MethodName) jdk_38_method_24_code (4 : Nat) (Option.none : Option Jvm.ClassFile.FieldType), Jvm.Cond.code ({ cls := "java/util/ArrayList", name := "grow", desc := "()[Ljava/lang/Object;" } : Jvm.MethodName) jdk_38_method_7_code (1 : Nat) (Option.some (Jvm.ClassFile.FieldType.array (Jvm.ClassFile.FieldType.object "java/lang/Object"))), Jvm.Cond.code ({ cls := "java/util/ArrayList", name := "grow", desc := "(I)[Ljava/lang/Object;" } : Jvm.MethodName) jdk_38_method_6_code (4 : Nat) (Option.some (Jvm.ClassFile.FieldType.array (Jvm.ClassFile.FieldType.object "java/lang/Object"))), Jvm.Cond.code ({ cls := "java/lang/Math", name := "max", desc := "(II)I" } : Jvm.MethodName) jdk_29_method_65_code (2 : Nat) (Option.some Jvm.ClassFile.FieldType.int), Jvm.Cond.code ({ cls := "java/util/ArrayList", name := "get", desc := "(I)Ljava/lang/Object;" } : Jvm.MethodName) jdk_38_method_20_code (2 : Nat) (Option.some (Jvm.ClassFile.FieldType.object "java/lang/Object")), Jvm.Cond.code ({ cls := "java/util/Objects", name := "checkIndex", desc := "(II)I" } : Jvm.MethodName) jdk_31_method_17_code (2 : Nat) (Option.some Jvm.ClassFile.FieldType.int), Jvm.Cond.code ({ cls := "jdk/internal/util/Preconditions", name := "checkIndex", desc := "(IILjava/util/function/BiFunction;)I" } : Jvm.MethodName) jdk_41_method_11_code (3 : Nat) (Option.some Jvm.ClassFile.FieldType.int), Jvm.Cond.code ({ cls := "java/util/ArrayList", name := "elementData", desc := "(I)Ljava/lang/Object;" } : Jvm.MethodName) jdk_38_method_18_code (2 : Nat) (Option.some (Jvm.ClassFile.FieldType.object "java/lang/Object")), Jvm.Cond.code ({ cls := "com/example/config_into_context/configintocontext/XmlElement$Attribute", name := "name", desc := "()Ljava/lang/String;" } : Jvm.MethodName) prog_62_method_7_code (1 : Nat) (Option.some (Jvm.ClassFile.FieldType.object "java/lang/String")), Jvm.Cond.code ({ cls := "java/lang/String", name := "length", desc := "()I" } : Jvm.MethodName) jdk_42_method_54_code (1 : Nat) (Option.some Jvm.ClassFile.FieldType.int), Jvm.Cond.code ({ cls := "java/lang/String", name := "coder", desc := "()B" } : Jvm.MethodName) jdk_42_method_152_code (1 : Nat) (Option.some Jvm.ClassFile.FieldType.byte), Jvm.Cond.code ({ cls := "java/lang/String", name := "equals", desc := "(Ljava/lang/Object;)Z" } : Jvm.MethodName) jdk_42_method_66_code (3 : Nat) (Option.some Jvm.ClassFile.FieldType.boolean), Jvm.Cond.code ({ cls := "java/lang/StringLatin1", name := "equals", desc := "([B[B)Z" } : Jvm.MethodName) jdk_43_method_13_code (3 : Nat) (Option.some Jvm.ClassFile.FieldType.boolean), Jvm.Cond.code ({ cls := "com/example/config_into_context/configintocontext/XmlElement$Attribute", name := "value", desc := "()Ljava/lang/String;" } : Jvm.MethodName) prog_62_method_8_code (1 : Nat) (Option.some (Jvm.ClassFile.FieldType.object "java/lang/String")), Jvm.Cond.code ({ cls := "java/lang/StringUTF16", name := "compress", desc := "([CII)[B" } : Jvm.MethodName) jdk_52_method_16_code (6 : Nat) (Option.some (Jvm.ClassFile.FieldType.array Jvm.ClassFile.FieldType.byte)), Jvm.Cond.code ({ cls := "java/lang/StringUTF16", name := "compress", desc := "([CI[BII)I" } : Jvm.MethodName) jdk_52_method_21_code (7 : Nat) (Option.some Jvm.ClassFile.FieldType.int), Jvm.Cond.code ({ cls := "java/lang/StringUTF16", name := "coderFromArrayLen", desc := "([BI)B" } : Jvm.MethodName) jdk_52_method_15_code (2 : Nat) (Option.some Jvm.ClassFile.FieldType.byte)]
set_option maxRecDepth 65536 in
theorem codes_eq : words1.filter isCode = codes1 := rfl
theorem w_codes : ∀ c ∈ words1.filter isCode, c.before args0 about1 = true := by
  rw [codes_eq]
  intro c hc
  simp only [codes1, List.mem_cons, List.not_mem_nil, or_false] at hc
  rcases hc with rfl | rfl | rfl | rfl | rfl | rfl | rfl | rfl | rfl | rfl | rfl | rfl | rfl | rfl | rfl | rfl | rfl | rfl | rfl | rfl | rfl | rfl | rfl | rfl | rfl | rfl | rfl | rfl | rfl | rfl | rfl | rfl
  · exact w_c0
  · exact w_c1
  · exact w_c2
  · exact w_c3
  · exact w_c4
  · exact w_c5
  · exact w_c6
  · exact w_c7
  · exact w_c8
  · exact w_c9
  · exact w_c10
  · exact w_c11
  · exact w_c12
  · exact w_c13
  · exact w_c14
  · exact w_c15
  · exact w_c16
  · exact w_c17
  · exact w_c18
  · exact w_c19
  · exact w_c20
  · exact w_c21
  · exact w_c22
  · exact w_c23
  · exact w_c24
  · exact w_c25
  · exact w_c26
  · exact w_c27
  · exact w_c28
  · exact w_c29
  · exact w_c30
  · exact w_c31
set_option maxRecDepth 65536 in
theorem w_t1 : (words1.take 24).all (fun c => isCode c || c.before args0 about1) = true := by decide +kernel
set_option maxRecDepth 65536 in
theorem w_t2 : ((words1.drop 24).take 24).all (fun c => isCode c || c.before args0 about1) = true := by decide +kernel
set_option maxRecDepth 65536 in
theorem w_t3 : (((words1.drop 24).drop 24).take 24).all (fun c => isCode c || c.before args0 about1) = true := by decide +kernel
set_option maxRecDepth 65536 in
theorem w_t4 : ((((words1.drop 24).drop 24).drop 24).take 24).all (fun c => isCode c || c.before args0 about1) = true := by decide +kernel
set_option maxRecDepth 65536 in
theorem w_t5 : (((((words1.drop 24).drop 24).drop 24).drop 24).take 24).all (fun c => isCode c || c.before args0 about1) = true := by decide +kernel
set_option maxRecDepth 65536 in
theorem w_t6 : ((((((words1.drop 24).drop 24).drop 24).drop 24).drop 24).take 24).all (fun c => isCode c || c.before args0 about1) = true := by decide +kernel
set_option maxRecDepth 65536 in
theorem w_t7 : (((((((words1.drop 24).drop 24).drop 24).drop 24).drop 24).drop 24).take 24).all (fun c => isCode c || c.before args0 about1) = true := by decide +kernel
set_option maxRecDepth 65536 in
theorem w_t8 : ((((((((words1.drop 24).drop 24).drop 24).drop 24).drop 24).drop 24).drop 24).take 24).all (fun c => isCode c || c.before args0 about1) = true := by decide +kernel
set_option maxRecDepth 65536 in
theorem w_t9 : ((((((((words1.drop 24).drop 24).drop 24).drop 24).drop 24).drop 24).drop 24).drop 24).all (fun c => isCode c || c.before args0 about1) = true := by decide +kernel
theorem w_tables : (allAtoms (Jvm.Cond.code x code maxLocals ret :: tables_1)).before args0 about1 = true := by
  rw [allAtoms_all]
  show words1.all (fun c => c.before args0 about1) = true
  refine all_split ?_ w_codes
  rw [← List.take_append_drop 24 words1, List.all_append, w_t1, ← List.take_append_drop 24 (words1.drop 24), List.all_append, w_t2, ← List.take_append_drop 24 ((words1.drop 24).drop 24), List.all_append, w_t3, ← List.take_append_drop 24 (((words1.drop 24).drop 24).drop 24), List.all_append, w_t4, ← List.take_append_drop 24 ((((words1.drop 24).drop 24).drop 24).drop 24), List.all_append, w_t5, ← List.take_append_drop 24 (((((words1.drop 24).drop 24).drop 24).drop 24).drop 24), List.all_append, w_t6, ← List.take_append_drop 24 ((((((words1.drop 24).drop 24).drop 24).drop 24).drop 24).drop 24), List.all_append, w_t7, ← List.take_append_drop 24 (((((((words1.drop 24).drop 24).drop 24).drop 24).drop 24).drop 24).drop 24), List.all_append, w_t8, w_t9]
  rfl
set_option maxRecDepth 65536 in
theorem w_rest : rest_1_c.before args0 about1 = true := by decide +kernel
set_option maxRecDepth 65536 in
theorem w_case : (Jvm.Cond.and given_1 narrow_1).before args0 about1 = true := by decide +kernel
set_option maxRecDepth 65536 in
theorem w_consts : constsHeld consts_1 about1 := Jvm.Lit.constsHeldB_iff.mp (by decide +kernel)
theorem w_applies : (headSpec (Jvm.Cond.code x code maxLocals ret :: tables_1) room_1).applies x e0.platform about1 = true :=
  (Spec.applies_iff w_frames).mpr ⟨w_running, w_runnable, w_alone, w_named, w_hears, w_ripe, w_room, w_tables⟩
theorem atStart : AtStart classFile x code maxLocals ret World_1 tables_1 room_1 Calls_1 rest_1 Pre_1 launch0 p0 e0 about1 theMethod args0 below0 :=
  ⟨lists_1, trivial, launch0.admits_env _ _ _, launch0.least_env, fairChoices_fair.cas, fairChoices_fair.clock, w_frames, w_args, w_heap, w_applies, ⟨w_consts, trivial⟩, w_rest, w_case⟩
end start1
theorem witness_1 : WitnessClaimed_1 := ⟨start1.p0, start1.e0, start1.about1, start1.theMethod, start1.args0, start1.below0, start1.atStart⟩
end Jvm.Pilot.@@N@@
