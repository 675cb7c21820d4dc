import JvmDerived
import JvmDerived.Pilot.@@N@@Statement
import JvmDerived.Pilot.@@N@@Code
set_option linter.unusedVariables false
set_option linter.unusedSimpArgs false
namespace Jvm.RoadKit
open Sem ClassFile Op Lib Jvm.Stand Jvm.Free Jvm.LawKit
theorem Arv.mv {Z : State} {h h' : Heap} {a : Addr} {k : ClassId} {ty : FieldType} {z : Int32} {vs : List Value} {dv : Value} (F : Arv Z h a k ty z vs dv) (K : Keep h h' []) : Arv Z h' a k ty z vs dv := F.keep K nin0
theorem Fld.mv {Z : State} {h h' : Heap} {a : Addr} {C n d : String} {v : Value} (F : Fld Z h a C n d v) (K : Keep h h' []) : Fld Z h' a C n d v := F.keep K nin0
theorem Exa.mv {Z : State} {h h' : Heap} {a : Addr} {C : String} (F : Exa Z h a C) (K : Keep h h' []) : Exa Z h' a C := F.keep K
theorem Ins.keepK {Z : State} {h h' : Heap} {a : Addr} {C : String} {b : Bool} {ws : List Addr} (F : Ins Z h a C b) (K : Keep h h' ws) : Ins Z h' a C b := by
  obtain ⟨cell, cT, q1, q2, q3⟩ := F
  obtain ⟨c', r1, r2, r3, -⟩ := K.2.2 _ _ q1
  exact ⟨c', cT, r1, q2, by rw [r2, r3]; exact q3⟩
end Jvm.RoadKit
/- laws to paste: Road.backV, Road.codOf, Road.empW, pair_says, narrow_ch, shr0 (cut by pick.py; bodies as the Statement names them) -/
namespace Jvm.Pilot.@@N@@
namespace StrChars
open Jvm Sem ClassFile Op Lib Jvm.Stand Jvm.Free.XT Jvm.Free.ALB Jvm.Free.JM Jvm.Free
open Jvm.Lib.Cold (StaticIs)
/-- a char array whose places are chars -/
def Ch (a : Addr) (A : Cell) (U : State) : Prop := Arr .char a A U ∧ Typed .char A
theorem Ch.mv {a : Addr} {A : Cell} {U U' : State} (h : Ch a A U) (hal : U.vm.Alike U'.vm) (hh : U'.heap = U.heap) : Ch a A U' := ⟨h.1.mv hal hh, h.2⟩
theorem Ch.keep {a : Addr} {A : Cell} {U U' : State} (h : Ch a A U) (hal : U.vm.Alike U'.vm) (hk : U'.heap[a]? = some A) : Ch a A U' := ⟨h.1.keep hal hk, h.2⟩
/-- what place i of a char[]'s cell holds -/
def cv (A : Cell) (i : Nat) : Int32 := match A.slots[i]? with | some (.int x) => x | _ => 0
theorem Ch.get {a : Addr} {A : Cell} {U : State} (h : Ch a A U) {i : Nat} (hi : i < A.slots.size) : A.slots[i]? = some (.int (cv A i)) := by
  have e := Array.getElem?_eq_getElem hi
  have f := h.2 i _ e
  unfold cv; rw [e]
  generalize A.slots[i] = v at f
  cases v <;> simp [fits] at f ⊢
/-- the byte that i2b leaves of a char -/
def lo8 (x : Int32) : Int32 := x.toInt8.toInt32
theorem fits_lo8 (y : Int32) : fits .byte (.int (lo8 y)) = true := by
  have h1 := y.toInt8.le_toInt
  have h2 := y.toInt8.toInt_lt
  simp only [lo8, fits, Bool.and_eq_true, decide_eq_true_eq, Int32.le_iff_toInt_le, Int8.toInt_toInt32, show (-128 : Int32).toInt = -128 from by decide, show (127 : Int32).toInt = 127 from by decide]
  omega
/-- A' is A but that each place j of lo .. hi - 1 holds f j -/
def Laid (A A' : Cell) (lo hi : Nat) (f : Nat → Value) : Prop := A'.cls = A.cls ∧ A'.vm = A.vm ∧ A'.slots.size = A.slots.size ∧ ∀ i, A'.slots[i]? = if lo ≤ i ∧ i < hi then some (f i) else A.slots[i]?
theorem Laid.zero (A : Cell) (lo : Nat) (f : Nat → Value) : Laid A A lo (lo + 0) f := ⟨rfl, rfl, rfl, fun i => by rw [if_neg (by omega)]⟩
theorem Laid.step {A Ak : Cell} {lo k : Nat} {f : Nat → Value} {v : Value} (h : Laid A Ak lo k f) (hlo : lo ≤ k) (hk : k < Ak.slots.size) (hv : v = f k) : Laid A (Ak.setSlot k v) lo (k + 1) f := by
  refine ⟨h.1, h.2.1, by simpa [Cell.setSlot] using h.2.2.1, fun i => ?_⟩
  by_cases e : k = i
  · subst e; rw [Cell.slots_setSlot_self v hk, if_pos (by omega), hv]
  · rw [Cell.slots_setSlot_ne v e, h.2.2.2 i]
    by_cases q : lo ≤ i ∧ i < k
    · rw [if_pos q, if_pos (by omega)]
    · rw [if_neg q, if_neg (by omega)]
def U16 : String := "java/lang/StringUTF16"
namespace Cmp5
def yN : MethodName := ⟨"java/lang/StringUTF16", "compress", "([CI[BII)I"⟩
abbrev yB : ByteArray := jdk_52_method_21_code
theorem d0 : decode yB 0 = .ok (.iconst 0, 1) := by decide +kernel
theorem d1 : decode yB 1 = .ok (.istore 5, 2) := by decide +kernel
theorem d3 : decode yB 3 = .ok (.iload 5, 2) := by decide +kernel
theorem d5 : decode yB 5 = .ok (.iload 4, 2) := by decide +kernel
theorem d7 : decode yB 7 = .ok (.if_icmp (.ge) 37, 3) := by decide +kernel
theorem d10 : decode yB 10 = .ok (.aload_n 0, 1) := by decide +kernel
theorem d11 : decode yB 11 = .ok (.iload_n 1, 1) := by decide +kernel
theorem d12 : decode yB 12 = .ok (.caload, 1) := by decide +kernel
theorem d13 : decode yB 13 = .ok (.istore 6, 2) := by decide +kernel
theorem d15 : decode yB 15 = .ok (.iload 6, 2) := by decide +kernel
theorem d17 : decode yB 17 = .ok (.sipush 255, 3) := by decide +kernel
theorem d20 : decode yB 20 = .ok (.if_icmp (.le) 6, 3) := by decide +kernel
theorem d26 : decode yB 26 = .ok (.aload_n 2, 1) := by decide +kernel
theorem d27 : decode yB 27 = .ok (.iload_n 3, 1) := by decide +kernel
theorem d28 : decode yB 28 = .ok (.iload 6, 2) := by decide +kernel
theorem d30 : decode yB 30 = .ok (.i2b, 1) := by decide +kernel
theorem d31 : decode yB 31 = .ok (.bastore, 1) := by decide +kernel
theorem d32 : decode yB 32 = .ok (.iinc 1 1, 3) := by decide +kernel
theorem d35 : decode yB 35 = .ok (.iinc 3 1, 3) := by decide +kernel
theorem d38 : decode yB 38 = .ok (.iinc 5 1, 3) := by decide +kernel
theorem d41 : decode yB 41 = .ok (.goto (-38), 3) := by decide +kernel
theorem d44 : decode yB 44 = .ok (.iload 4, 2) := by decide +kernel
theorem d46 : decode yB 46 = .ok (.ireturn, 1) := by decide +kernel
def site : List Cond := []
def tab : Cond := tabOf yN yB 7 (some .int) site
def P (b : Addr) (A : Cell) (d : Addr) (B : Cell) (o q len : Nat) (args : Array Value) (s : State) : Prop := args = #[.ref b, .int (Int32.ofNat o), .ref d, .int (Int32.ofNat q), .int (Int32.ofNat len)] ∧ Ch b A s ∧ Arr .byte d B s ∧ b ≠ d ∧ o + len ≤ A.slots.size ∧ q + len ≤ B.slots.size ∧ ∀ i, i < len → ¬ 255 < cv A (o + i)
def E (b : Addr) (A : Cell) (d : Addr) (B : Cell) (o q len : Nat) (r : Option Value) (s u : State) : Prop := r = some (.int (Int32.ofNat len)) ∧ ∃ B', Put d B' s u ∧ Laid B B' q (q + len) (fun j => Value.int (lo8 (cv A (o + (j - q)))))
/-- no char of the range above 255: len; the places written hold each char's low byte -/
theorem law (l : Launch) (b : Addr) (A : Cell) (d : Addr) (B : Cell) (o q len : Nat) : Law l yN 5 5 0 0 yB 7 (some .int) site (P b A d B o q len) (E b A d B o q len) (copyLocs d q len) 0 0 := by
  refine Law.of_walk (plainFor_of_name (by decide +kernel)) (by decide +kernel) (by decide +kernel) (by decide) (fun _ _ h => by rw [h.1]; rfl) (fun _ U U' hal hh h => ⟨h.1, h.2.1.mv hal hh, h.2.2.1.mv hal hh, h.2.2.2⟩) (fun r U U' V V' h1 hal h2 h => ⟨h.1, h.2.elim fun B' q => ⟨B', q.1.mv h1 h2, q.2⟩⟩) ?_
  intro p e s m args below meth c s₁ X0 hexec hbytes hml hret hlk hnm hown hh0 W hP
  obtain ⟨rfl, hA, hB, hne, l1, l2, hp⟩ := hP
  have c1 : Steps p.tables e below (s₁.setTop (entryFrame m #[.ref b, .int (Int32.ofNat o), .ref d, .int (Int32.ofNat q), .int (Int32.ofNat len)] 7)) (s₁.setTop (mkF m 0 #[.val (.ref b), .val (.int (Int32.ofNat o)), .val (.ref d), .val (.int (Int32.ofNat q)), .val (.int (Int32.ofNat len)), .unset, .unset] [])) := entry rfl
  have hA0 := hA.1.mv X0.warmed.alike hh0
  have hB0 := hB.mv X0.warmed.alike hh0
  have a31 := hA.1.2.2.2
  have c2 : Steps p.tables e below (s₁.setTop (entryFrame m #[.ref b, .int (Int32.ofNat o), .ref d, .int (Int32.ofNat q), .int (Int32.ofNat len)] 7)) (s₁.setTop (mkF m 3 #[.val (.ref b), .val (.int (Int32.ofNat o)), .val (.ref d), .val (.int (Int32.ofNat q)), .val (.int (Int32.ofNat len)), .val (.int 0), .unset] [])) := c1.trans (by
    refine iconstV X0.here hexec rfl 0 (hb hbytes d0) (by decide) ?_
    refine XS.istore X0.here hexec rfl (hb hbytes d1) rfl rfl ?_
    exact Steps.refl _)
  have loop : ∀ (r i : Nat), i + r = len → ∀ (z : Slot), (z = .unset ∨ ∃ w, z = .val w ∧ w.category = 1) → ∀ (Tl : State) (Bk : Cell), Stand p l e { frames := 0, locals := 0, cells := 0, slots := 0 } s m #[.ref b, .int (Int32.ofNat o), .ref d, .int (Int32.ofNat q), .int (Int32.ofNat len)] below meth c Tl ([] ++ copyLocs d q i) 0 0 → Put d Bk s₁ Tl → Laid B Bk q (q + i) (fun j => Value.int (lo8 (cv A (o + (j - q))))) →
      Steps p.tables e below (s₁.setTop (entryFrame m #[.ref b, .int (Int32.ofNat o), .ref d, .int (Int32.ofNat q), .int (Int32.ofNat len)] 7)) (Tl.setTop (mkF m 3 #[.val (.ref b), .val (.int (Int32.ofNat (o + i))), .val (.ref d), .val (.int (Int32.ofNat (q + i))), .val (.int (Int32.ofNat len)), .val (.int (Int32.ofNat i)), z] [])) → ∃ (T' : State) (B' : Cell) (z' : Slot), Stand p l e { frames := 0, locals := 0, cells := 0, slots := 0 } s m #[.ref b, .int (Int32.ofNat o), .ref d, .int (Int32.ofNat q), .int (Int32.ofNat len)] below meth c T' ([] ++ copyLocs d q len) 0 0 ∧ Put d B' s₁ T' ∧ Laid B B' q (q + len) (fun j => Value.int (lo8 (cv A (o + (j - q))))) ∧
      Steps p.tables e below (s₁.setTop (entryFrame m #[.ref b, .int (Int32.ofNat o), .ref d, .int (Int32.ofNat q), .int (Int32.ofNat len)] 7)) (T'.setTop (mkF m 3 #[.val (.ref b), .val (.int (Int32.ofNat (o + len))), .val (.ref d), .val (.int (Int32.ofNat (q + len))), .val (.int (Int32.ofNat len)), .val (.int (Int32.ofNat len)), z'] [])) := by
    intro r
    induction r with
    | zero =>
      intro i hi z hz Tl Bk Xl pl fl cl
      have hil : i = len := by omega
      rw [hil] at Xl fl cl
      exact ⟨Tl, Bk, z, Xl, pl, fl, cl⟩
    | succ r ih =>
      intro i hi z hz Tl Bk Xl pl fl cl
      have all := X0.warmed.alike.symm.trans Xl.warmed.alike
      have hAl := hA0.keep all (pl.other hne hA0.1)
      have hBk := hB0.like all pl.1 fl.1 fl.2.1 fl.2.2.1
      have hlt : q + i < Bk.slots.size := by rw [fl.2.2.1]; omega
      have c3 : Steps p.tables e below (s₁.setTop (entryFrame m #[.ref b, .int (Int32.ofNat o), .ref d, .int (Int32.ofNat q), .int (Int32.ofNat len)] 7)) (Tl.setTop (mkF m 12 #[.val (.ref b), .val (.int (Int32.ofNat (o + i))), .val (.ref d), .val (.int (Int32.ofNat (q + i))), .val (.int (Int32.ofNat len)), .val (.int (Int32.ofNat i)), z] [.int (Int32.ofNat (o + i)), .ref b])) := cl.trans (by
        refine XS.iload Xl.here hexec rfl (hb hbytes d3) rfl ?_
        refine XS.iload Xl.here hexec rfl (hb hbytes d5) rfl ?_
        refine XS.icmpNo Xl.here hexec rfl (hb hbytes d7) rfl (ii_ge_f (lt32 (by omega) (by omega))) ?_
        refine XS.aloadN Xl.here hexec rfl (hb hbytes d10) rfl rfl ?_
        refine XS.iloadN Xl.here hexec rfl (hb hbytes d11) rfl ?_
        exact Steps.refl _)
      have c4 : Steps p.tables e below (s₁.setTop (entryFrame m #[.ref b, .int (Int32.ofNat o), .ref d, .int (Int32.ofNat q), .int (Int32.ofNat len)] 7)) (Tl.setTop (mkF m 13 #[.val (.ref b), .val (.int (Int32.ofNat (o + i))), .val (.ref d), .val (.int (Int32.ofNat (q + i))), .val (.int (Int32.ofNat len)), .val (.int (Int32.ofNat i)), z] [.int (cv A (o + i))])) := c3.trans (by
        refine Xl.aget hexec hAl rfl (hA.get (i := o + i) (by omega)) rfl rfl (hb hbytes d12) ?_
        exact Steps.refl _)
      have c5 : Steps p.tables e below (s₁.setTop (entryFrame m #[.ref b, .int (Int32.ofNat o), .ref d, .int (Int32.ofNat q), .int (Int32.ofNat len)] 7)) (Tl.setTop (mkF m 15 #[.val (.ref b), .val (.int (Int32.ofNat (o + i))), .val (.ref d), .val (.int (Int32.ofNat (q + i))), .val (.int (Int32.ofNat len)), .val (.int (Int32.ofNat i)), .val (.int (cv A (o + i)))] [])) := c4.trans (by
        refine XS.istoreS Xl.here hexec rfl (hb hbytes d13) rfl rfl hz ?_
        exact Steps.refl _)
      have c6 : Steps p.tables e below (s₁.setTop (entryFrame m #[.ref b, .int (Int32.ofNat o), .ref d, .int (Int32.ofNat q), .int (Int32.ofNat len)] 7)) (Tl.setTop (mkF m 31 #[.val (.ref b), .val (.int (Int32.ofNat (o + i))), .val (.ref d), .val (.int (Int32.ofNat (q + i))), .val (.int (Int32.ofNat len)), .val (.int (Int32.ofNat i)), .val (.int (cv A (o + i)))] [.int (lo8 (cv A (o + i))), .int (Int32.ofNat (q + i)), .ref d])) := c5.trans (by
        refine XS.iload Xl.here hexec rfl (hb hbytes d15) rfl ?_
        refine sipushV Xl.here hexec rfl 255 (hb hbytes d17) (by decide) ?_
        refine XS.icmpYes Xl.here hexec rfl (pc0 := 20) rfl (hb hbytes d20) rfl (ii_le_t (hp i (by omega))) (by decide) rfl ?_
        refine XS.aloadN Xl.here hexec rfl (hb hbytes d26) rfl rfl ?_
        refine XS.iloadN Xl.here hexec rfl (hb hbytes d27) rfl ?_
        refine XS.iload Xl.here hexec rfl (hb hbytes d28) rfl ?_
        refine i2b Xl.here hexec rfl (hb hbytes d30) rfl ?_
        exact Steps.refl _)
      obtain ⟨T7, X7, p7, st7⟩ := Xl.aput hexec hBk rfl hlt rfl (fits_lo8 (cv A (o + i))) (g := (mkF m 31 #[.val (.ref b), .val (.int (Int32.ofNat (o + i))), .val (.ref d), .val (.int (Int32.ofNat (q + i))), .val (.int (Int32.ofNat len)), .val (.int (Int32.ofNat i)), .val (.int (cv A (o + i)))] [.int (lo8 (cv A (o + i))), .int (Int32.ofNat (q + i)), .ref d])) rfl (rest := []) rfl (hb hbytes d31)
      have c8 : Steps p.tables e below (s₁.setTop (entryFrame m #[.ref b, .int (Int32.ofNat o), .ref d, .int (Int32.ofNat q), .int (Int32.ofNat len)] 7)) (T7.setTop (mkF m 32 #[.val (.ref b), .val (.int (Int32.ofNat (o + i))), .val (.ref d), .val (.int (Int32.ofNat (q + i))), .val (.int (Int32.ofNat len)), .val (.int (Int32.ofNat i)), .val (.int (cv A (o + i)))] [])) := c6.trans (st7 _ (Steps.refl _))
      have c9 : Steps p.tables e below (s₁.setTop (entryFrame m #[.ref b, .int (Int32.ofNat o), .ref d, .int (Int32.ofNat q), .int (Int32.ofNat len)] 7)) (T7.setTop (mkF m 3 #[.val (.ref b), .val (.int (Int32.ofNat (o + i) + 1)), .val (.ref d), .val (.int (Int32.ofNat (q + i) + 1)), .val (.int (Int32.ofNat len)), .val (.int (Int32.ofNat i + 1)), .val (.int (cv A (o + i)))] [])) := c8.trans (by
        refine iincV X7.here hexec rfl 1 (hb hbytes d32) (by decide) rfl rfl ?_
        refine iincV X7.here hexec rfl 1 (hb hbytes d35) (by decide) rfl rfl ?_
        refine iincV X7.here hexec rfl 1 (hb hbytes d38) (by decide) rfl rfl ?_
        refine XS.goto X7.here hexec rfl (pc0 := 41) rfl (hb hbytes d41) (by decide) rfl ?_
        exact Steps.refl _)
      have c10 : Steps p.tables e below (s₁.setTop (entryFrame m #[.ref b, .int (Int32.ofNat o), .ref d, .int (Int32.ofNat q), .int (Int32.ofNat len)] 7)) (T7.setTop (mkF m 3 #[.val (.ref b), .val (.int (Int32.ofNat (o + (i + 1)))), .val (.ref d), .val (.int (Int32.ofNat (q + (i + 1)))), .val (.int (Int32.ofNat len)), .val (.int (Int32.ofNat (i + 1))), .val (.int (cv A (o + i)))] [])) := by
        have := c9
        rw [succ32, succ32, succ32] at this
        exact this
      exact ih (i + 1) (by omega) _ (Or.inr ⟨_, rfl, rfl⟩) T7 _ (by rw [copyLocs_step, ← List.append_assoc]; exact X7) (pl.trans p7) (fl.step (by omega) hlt (by simp)) c10
  obtain ⟨T9, B9, z9, X9, p9, f9, g9⟩ := loop len 0 (by omega) .unset (Or.inl rfl) s₁ B (by simpa [copyLocs] using X0) ⟨hB0.1, fun _ _ => rfl, rfl⟩ (Laid.zero _ _ _) c2
  have c11 : Steps p.tables e below (s₁.setTop (entryFrame m #[.ref b, .int (Int32.ofNat o), .ref d, .int (Int32.ofNat q), .int (Int32.ofNat len)] 7)) (T9.setTop (mkF m 46 #[.val (.ref b), .val (.int (Int32.ofNat (o + len))), .val (.ref d), .val (.int (Int32.ofNat (q + len))), .val (.int (Int32.ofNat len)), .val (.int (Int32.ofNat len)), z9] [.int (Int32.ofNat len)])) := g9.trans (by
    refine XS.iload X9.here hexec rfl (hb hbytes d3) rfl ?_
    refine XS.iload X9.here hexec rfl (hb hbytes d5) rfl ?_
    refine XS.icmpYes X9.here hexec rfl (pc0 := 7) rfl (hb hbytes d7) rfl (ii_ge_t (nlt32 (by omega) (Nat.le_refl _))) (by decide) rfl ?_
    refine XS.iload X9.here hexec rfl (hb hbytes d44) rfl ?_
    exact Steps.refl _)
  exact ⟨T9, some (.int (Int32.ofNat len)), _, _, _, X9, by simp, rfl, rfl, (fun h => by cases h), ⟨rfl, B9, p9.from hh0, f9⟩, fun fs hl => c11.trans (X9.ireturnOut hexec hret rfl (Or.inl rfl) (hb hbytes d46) hl)⟩
end Cmp5
namespace Cmp3
def yN : MethodName := ⟨"java/lang/StringUTF16", "compress", "([CII)[B"⟩
abbrev yB : ByteArray := jdk_52_method_16_code
theorem d0 : decode yB 0 = .ok (.iload_n 2, 1) := by decide +kernel
theorem d1 : decode yB 1 = .ok (.newarray .byte, 2) := by decide +kernel
theorem d3 : decode yB 3 = .ok (.astore_n 3, 1) := by decide +kernel
theorem d4 : decode yB 4 = .ok (.aload_n 0, 1) := by decide +kernel
theorem d5 : decode yB 5 = .ok (.iload_n 1, 1) := by decide +kernel
theorem d6 : decode yB 6 = .ok (.aload_n 3, 1) := by decide +kernel
theorem d7 : decode yB 7 = .ok (.iconst 0, 1) := by decide +kernel
theorem d8 : decode yB 8 = .ok (.iload_n 2, 1) := by decide +kernel
theorem d9 : decode yB 9 = .ok (.invokestatic 115, 3) := by decide +kernel
theorem d12 : decode yB 12 = .ok (.istore 4, 2) := by decide +kernel
theorem d14 : decode yB 14 = .ok (.iload 4, 2) := by decide +kernel
theorem d16 : decode yB 16 = .ok (.iload_n 2, 1) := by decide +kernel
theorem d17 : decode yB 17 = .ok (.if_icmp (.eq) 40, 3) := by decide +kernel
theorem d57 : decode yB 57 = .ok (.aload_n 3, 1) := by decide +kernel
theorem d58 : decode yB 58 = .ok (.areturn, 1) := by decide +kernel
def site : List Cond := [.arrayClass .byte, Cmp5.tab] ++ staticW U16 115 Cmp5.yN
def tab : Cond := tabOf yN yB 6 (some (.array .byte)) site
def P (b : Addr) (A : Cell) (o len : Nat) (args : Array Value) (s : State) : Prop := args = #[.ref b, .int (Int32.ofNat o), .int (Int32.ofNat len)] ∧ Ch b A s ∧ o + len ≤ A.slots.size ∧ len ≤ 536870912 ∧ ∀ i, i < len → ¬ 255 < cv A (o + i)
def E (b : Addr) (A : Cell) (o len : Nat) (r : Option Value) (s u : State) : Prop := NewArr .byte "[B" len (fun j => .int (lo8 (cv A (o + j)))) r s u ∧ u.heap.size = s.heap.size + 1
/-- no char of the range above 255: a new byte[] of their low bytes -/
theorem law (l : Launch) (b : Addr) (A : Cell) (o len : Nat) : Law l yN 3 3 1 18 yB 6 (some (.array .byte)) site (P b A o len) (E b A o len) [] 1 len := by
  refine Law.of_walk (plainFor_of_name (by decide +kernel)) (by decide +kernel) (by decide +kernel) (by decide) (fun _ _ h => by rw [h.1]; rfl) (fun _ U U' hal hh h => ⟨h.1, h.2.1.mv hal hh, h.2.2⟩) (fun r U U' V V' h1 hal h2 h => ⟨NewArr.mv r U U' V V' h1 hal h2 h.1, by rw [h1, h2]; exact h.2⟩) ?_
  intro p e s m args below meth c s₁ X0 hexec hbytes hml hret hlk hnm hown hh0 W hP
  obtain ⟨rfl, hA, l1, l2, hp⟩ := hP
  have a31 := hA.1.2.2.2
  have c1 : Steps p.tables e below (s₁.setTop (entryFrame m #[.ref b, .int (Int32.ofNat o), .int (Int32.ofNat len)] 6)) (s₁.setTop (mkF m 0 #[.val (.ref b), .val (.int (Int32.ofNat o)), .val (.int (Int32.ofNat len)), .unset, .unset, .unset] [])) := entry rfl
  have c2 : Steps p.tables e below (s₁.setTop (entryFrame m #[.ref b, .int (Int32.ofNat o), .int (Int32.ofNat len)] 6)) (s₁.setTop (mkF m 1 #[.val (.ref b), .val (.int (Int32.ofNat o)), .val (.int (Int32.ofNat len)), .unset, .unset, .unset] [.int (Int32.ofNat len)])) := c1.trans (by
    refine XS.iloadN X0.here hexec rfl (hb hbytes d0) rfl ?_
    exact Steps.refl _)
  obtain ⟨T3, B3, X3, ba3, bs3, bv3, bh3, bf3, st3⟩ := X0.anew hexec (atype := .byte) (wk W (.arrayClass .byte)) rfl (by show len * 1 ≤ _; omega) (by omega) (g := (mkF m 1 #[.val (.ref b), .val (.int (Int32.ofNat o)), .val (.int (Int32.ofNat len)), .unset, .unset, .unset] [.int (Int32.ofNat len)])) rfl (hb hbytes d1) (rest := []) rfl (Nat.le_refl _) (by show 0 + len ≤ len; omega)
  rw [hh0] at ba3 st3
  have kp3 : XT.Kept s T3 := (XT.Kept.of_eq hh0).push bh3
  have hA3 := hA.keep X3.warmed.alike (kp3 _ _ hA.1.1)
  have hne : b ≠ s.heap.size := hA.1.ne
  have c4 : Steps p.tables e below (s₁.setTop (entryFrame m #[.ref b, .int (Int32.ofNat o), .int (Int32.ofNat len)] 6)) (T3.setTop (mkF m 3 #[.val (.ref b), .val (.int (Int32.ofNat o)), .val (.int (Int32.ofNat len)), .unset, .unset, .unset] [.ref s.heap.size])) := c2.trans (st3 _ (Steps.refl _))
  have c5 : Steps p.tables e below (s₁.setTop (entryFrame m #[.ref b, .int (Int32.ofNat o), .int (Int32.ofNat len)] 6)) (T3.setTop (mkF m 9 #[.val (.ref b), .val (.int (Int32.ofNat o)), .val (.int (Int32.ofNat len)), .val (.ref s.heap.size), .unset, .unset] [.int (Int32.ofNat len), .int 0, .ref s.heap.size, .int (Int32.ofNat o), .ref b])) := c4.trans (by
    refine XS.astoreN X3.here hexec rfl (hb hbytes d3) rfl rfl rfl ?_
    refine XS.aloadN X3.here hexec rfl (hb hbytes d4) rfl rfl ?_
    refine XS.iloadN X3.here hexec rfl (hb hbytes d5) rfl ?_
    refine XS.aloadN X3.here hexec rfl (hb hbytes d6) rfl rfl ?_
    refine iconstV X3.here hexec rfl 0 (hb hbytes d7) (by decide) ?_
    refine XS.iloadN X3.here hexec rfl (hb hbytes d8) rfl ?_
    exact Steps.refl _)
  obtain ⟨v6, T6, X6, E6, g6⟩ := X3.callS hexec (Cmp5.law l b A s.heap.size B3 o 0 len) hown (wks W (staticW U16 115 Cmp5.yN)) (wk W Cmp5.tab) (W := 0) (Nat.le_of_ble_eq_true rfl) (Nat.le_of_ble_eq_true rfl) (Nat.le_refl _) (by show 0 + len + 0 ≤ len; omega) (g := (mkF m 9 #[.val (.ref b), .val (.int (Int32.ofNat o)), .val (.int (Int32.ofNat len)), .val (.ref s.heap.size), .unset, .unset] [.int (Int32.ofNat len), .int (Int32.ofNat 0), .ref s.heap.size, .int (Int32.ofNat o), .ref b])) rfl (by rw [hml]; rfl) c5 (argsL := [.ref b, .int (Int32.ofNat o), .ref s.heap.size, .int (Int32.ofNat 0), .int (Int32.ofNat len)]) (rest := []) rfl rfl (by show 2 * 0 + 0 ≤ _; decide) (hb hbytes d9) (⟨rfl, hA3, ba3, hne, l1, by rw [bs3]; simp, hp⟩)
  obtain ⟨rfl, B6, p6, f6⟩ := E6
  have c7 : Steps p.tables e below (s₁.setTop (entryFrame m #[.ref b, .int (Int32.ofNat o), .int (Int32.ofNat len)] 6)) (T6.setTop (mkF m 12 #[.val (.ref b), .val (.int (Int32.ofNat o)), .val (.int (Int32.ofNat len)), .val (.ref s.heap.size), .unset, .unset] [.int (Int32.ofNat len)])) := g6
  have c8 : Steps p.tables e below (s₁.setTop (entryFrame m #[.ref b, .int (Int32.ofNat o), .int (Int32.ofNat len)] 6)) (T6.setTop (mkF m 58 #[.val (.ref b), .val (.int (Int32.ofNat o)), .val (.int (Int32.ofNat len)), .val (.ref s.heap.size), .val (.int (Int32.ofNat len)), .unset] [.ref s.heap.size])) := c7.trans (by
    refine XS.istore X6.here hexec rfl (hb hbytes d12) rfl rfl ?_
    refine XS.iload X6.here hexec rfl (hb hbytes d14) rfl ?_
    refine XS.iloadN X6.here hexec rfl (hb hbytes d16) rfl ?_
    refine XS.icmpYes X6.here hexec rfl (pc0 := 17) rfl (hb hbytes d17) rfl (ii_eq_t rfl) (by decide) rfl ?_
    refine XS.aloadN X6.here hexec rfl (hb hbytes d57) rfl rfl ?_
    exact Steps.refl _)
  have X8 := X6.wide (L' := []) (cells' := 1) (slots' := len) (fun x hx hlt => by
    simp only [List.nil_append, copyLocs, List.mem_map, List.mem_range] at hx
    obtain ⟨i, -, rfl⟩ := hx
    exact absurd hlt (Nat.lt_irrefl _)) (Nat.le_refl _) (by omega)
  exact ⟨T6, some (.ref s.heap.size), _, _, _, X8, rfl, rfl, rfl, (fun h => by cases h), ⟨⟨rfl, B6, ba3.like (X3.warmed.alike.symm.trans X6.warmed.alike) p6.1 f6.1 f6.2.1 f6.2.2.1, f6.2.1.trans bv3, by rw [X6.warmed.alike.findClass, f6.1]; exact bf3, by rw [f6.2.2.1, bs3]; simp, fun j hj => by rw [f6.2.2.2 j, if_pos (by omega)]; rfl, kp3.put p6 (Nat.le_refl _)⟩, by rw [p6.2.2, bh3, hh0]; simp⟩, fun fs hl => c8.trans (X8.areturnOut hexec rfl hret rfl (hb hbytes d58) hl)⟩
end Cmp3
namespace CodL
def yN : MethodName := ⟨"java/lang/StringUTF16", "coderFromArrayLen", "([BI)B"⟩
abbrev yB : ByteArray := jdk_52_method_15_code
theorem d0 : decode yB 0 = .ok (.iload_n 1, 1) := by decide +kernel
theorem d1 : decode yB 1 = .ok (.aload_n 0, 1) := by decide +kernel
theorem d2 : decode yB 2 = .ok (.arraylength, 1) := by decide +kernel
theorem d3 : decode yB 3 = .ok (.isub, 1) := by decide +kernel
theorem d4 : decode yB 4 = .ok (.bipush 31, 2) := by decide +kernel
theorem d6 : decode yB 6 = .ok (.iushr, 1) := by decide +kernel
theorem d7 : decode yB 7 = .ok (.i2b, 1) := by decide +kernel
theorem d8 : decode yB 8 = .ok (.ireturn, 1) := by decide +kernel
def site : List Cond := []
def tab : Cond := tabOf yN yB 2 (some .byte) site
def P (d : Addr) (B : Cell) (args : Array Value) (s : State) : Prop := args = #[.ref d, .int (Int32.ofNat B.slots.size)] ∧ Arr .byte d B s
def E (r : Option Value) (s u : State) : Prop := XT.PureE (some (.int 0)) r s u
/-- an array as long as the number of chars: LATIN1 -/
theorem law (l : Launch) (d : Addr) (B : Cell) : Law l yN 2 2 0 0 yB 2 (some .byte) site (P d B) E [] 0 0 := by
  refine Law.of_walk (plainFor_of_name (by decide +kernel)) (by decide +kernel) (by decide +kernel) (by decide) (fun _ _ h => by rw [h.1]; rfl) (fun _ U U' hal hh h => ⟨h.1, h.2.mv hal hh⟩) (fun r U U' V V' h1 hal h2 h => XT.PureE.mv r U U' V V' h1 hal h2 h) ?_
  intro p e s m args below meth c s₁ X0 hexec hbytes hml hret hlk hnm hown hh0 W hP
  obtain ⟨rfl, hB⟩ := hP
  have hB0 := hB.mv X0.warmed.alike hh0
  have c1 : Steps p.tables e below (s₁.setTop (entryFrame m #[.ref d, .int (Int32.ofNat B.slots.size)] 2)) (s₁.setTop (mkF m 0 #[.val (.ref d), .val (.int (Int32.ofNat B.slots.size))] [])) := entry rfl
  have c2 : Steps p.tables e below (s₁.setTop (entryFrame m #[.ref d, .int (Int32.ofNat B.slots.size)] 2)) (s₁.setTop (mkF m 2 #[.val (.ref d), .val (.int (Int32.ofNat B.slots.size))] [.ref d, .int (Int32.ofNat B.slots.size)])) := c1.trans (by
    refine XS.iloadN X0.here hexec rfl (hb hbytes d0) rfl ?_
    refine XS.aloadN X0.here hexec rfl (hb hbytes d1) rfl rfl ?_
    exact Steps.refl _)
  have c3 : Steps p.tables e below (s₁.setTop (entryFrame m #[.ref d, .int (Int32.ofNat B.slots.size)] 2)) (s₁.setTop (mkF m 8 #[.val (.ref d), .val (.int (Int32.ofNat B.slots.size))] [.int (lo8 (ushr (Int32.ofNat B.slots.size - Int32.ofNat B.slots.size) 31))])) := c2.trans (by
    refine X0.alen hexec hB0 rfl rfl (hb hbytes d2) ?_
    refine XS.isub X0.here hexec rfl (hb hbytes d3) rfl ?_
    refine bipushV X0.here hexec rfl 31 (hb hbytes d4) (by decide) ?_
    refine iushr X0.here hexec rfl (hb hbytes d6) rfl ?_
    refine i2b X0.here hexec rfl (hb hbytes d7) rfl ?_
    exact Steps.refl _)
  have e0 : lo8 (ushr (Int32.ofNat B.slots.size - Int32.ofNat B.slots.size) 31) = 0 := by rw [Int32.sub_self]; decide
  rw [e0] at c3
  exact ⟨s₁, some (.int 0), _, _, _, X0, rfl, rfl, rfl, (fun h => by cases h), ⟨rfl, hh0⟩, fun fs hl => c3.trans (X0.ireturnOut hexec hret rfl (Or.inr (Or.inr (Or.inl rfl))) (hb hbytes d8) hl)⟩
end CodL
/-- the String at a is Latin-1 over a new byte[] (the heap's one new cell): the low bytes of the len chars of A from o on; every cell but a is kept -/
def Got (a : Addr) (D : Cell) (fV fC : Field) (A : Cell) (o len : Nat) (r : Option Value) (s u : State) : Prop := r = none ∧ ∃ D' V : Cell, Blank "java/lang/String" a D' u ∧ Same D D' [fV.slot, fC.slot] ∧ D'.slots[fV.slot]? = some (.ref s.heap.size) ∧ D'.slots[fC.slot]? = some (.int 0) ∧ Arr .byte s.heap.size V u ∧ V.vm = .none ∧ u.vm.findClass "[B" = some V.cls ∧ V.slots.size = len ∧ (∀ j, j < len → V.slots[j]? = some (.int (lo8 (cv A (o + j))))) ∧ (∀ (y : Addr) (c : Cell), y ≠ a → s.heap[y]? = some c → u.heap[y]? = some c) ∧ u.heap.size = s.heap.size + 1
theorem Got.mv {a : Addr} {D A : Cell} {fV fC : Field} {o len : Nat} : ∀ r (U U' V V' : State), U'.heap = U.heap → V.vm.Alike V'.vm → V'.heap = V.heap → Got a D fV fC A o len r U V → Got a D fV fC A o len r U' V' :=
  fun r U U' V V' h1 hal h2 ⟨e0, D', X, a1, a2, a3, a4, a5, a6, a7, a8, a9, a10, a11⟩ => ⟨e0, D', X, a1.mv hal h2, a2, by rw [h1]; exact a3, a4, by rw [h1]; exact a5.mv hal h2, a6, by rw [hal.findClass]; exact a7, a8, a9, by rw [h1, h2]; exact a10, by rw [h1, h2]; exact a11⟩
namespace New4
def yN : MethodName := ⟨"java/lang/String", "<init>", "([CIILjava/lang/Void;)V"⟩
abbrev yB : ByteArray := jdk_42_method_149_code
theorem d0 : decode yB 0 = .ok (.aload_n 0, 1) := by decide +kernel
theorem d1 : decode yB 1 = .ok (.invokespecial 1, 3) := by decide +kernel
theorem d4 : decode yB 4 = .ok (.iload_n 3, 1) := by decide +kernel
theorem d5 : decode yB 5 = .ok (.ifCond (.ne) 22, 3) := by decide +kernel
theorem d27 : decode yB 27 = .ok (.getstatic 38, 3) := by decide +kernel
theorem d30 : decode yB 30 = .ok (.ifCond (.eq) 28, 3) := by decide +kernel
theorem d33 : decode yB 33 = .ok (.aload_n 1, 1) := by decide +kernel
theorem d34 : decode yB 34 = .ok (.iload_n 2, 1) := by decide +kernel
theorem d35 : decode yB 35 = .ok (.iload_n 3, 1) := by decide +kernel
theorem d36 : decode yB 36 = .ok (.invokestatic 177, 3) := by decide +kernel
theorem d39 : decode yB 39 = .ok (.astore 5, 2) := by decide +kernel
theorem d41 : decode yB 41 = .ok (.aload_n 0, 1) := by decide +kernel
theorem d42 : decode yB 42 = .ok (.aload 5, 2) := by decide +kernel
theorem d44 : decode yB 44 = .ok (.iload_n 3, 1) := by decide +kernel
theorem d45 : decode yB 45 = .ok (.invokestatic 47, 3) := by decide +kernel
theorem d48 : decode yB 48 = .ok (.putfield 15, 3) := by decide +kernel
theorem d51 : decode yB 51 = .ok (.aload_n 0, 1) := by decide +kernel
theorem d52 : decode yB 52 = .ok (.aload 5, 2) := by decide +kernel
theorem d54 : decode yB 54 = .ok (.putfield 9, 3) := by decide +kernel
theorem d57 : decode yB 57 = .ok (.return_, 1) := by decide +kernel
def site : List Cond := [.fieldLink "java/lang/String" 38 "java/lang/String" "COMPACT_STRINGS" "Z", Cmp3.tab, CodL.tab, .laysFinal "java/lang/String" "java/lang/String" "value" "[B", .fieldLink "java/lang/String" 9 "java/lang/String" "value" "[B", .laysFinal "java/lang/String" "java/lang/String" "coder" "B", .fieldLink "java/lang/String" 15 "java/lang/String" "coder" "B"] ++ objW "java/lang/String" 1 ++ staticW "java/lang/String" 177 Cmp3.yN ++ staticW "java/lang/String" 47 CodL.yN
def tab : Cond := tabOf yN yB 6 none site
def P (a : Addr) (D : Cell) (fV fC : Field) (b : Addr) (A : Cell) (z : Int32) (o len : Nat) (args : Array Value) (s : State) : Prop := args = #[.ref a, .ref b, .int (Int32.ofNat o), .int (Int32.ofNat len), .null] ∧ Blank "java/lang/String" a D s ∧ Found "java/lang/String" "value" "[B" fV s ∧ Found "java/lang/String" "coder" "B" fC s ∧ Ch b A s ∧ StaticIs s "java/lang/String" "COMPACT_STRINGS" "Z" (.int z) ∧ ¬ z = 0 ∧ 0 < len ∧ o + len ≤ A.slots.size ∧ len ≤ 536870912 ∧ ∀ i, i < len → ¬ 255 < cv A (o + i)
def E (a : Addr) (D : Cell) (fV fC : Field) (A : Cell) (o len : Nat) (r : Option Value) (s u : State) : Prop := Got a D fV fC A o len r s u
/-- len > 0, no char of the range above 255: a Latin-1 String of their low bytes -/
theorem law (l : Launch) (a : Addr) (D : Cell) (fV fC : Field) (b : Addr) (A : Cell) (z : Int32) (o len : Nat) : Law l yN 5 4 2 35 yB 6 none site (P a D fV fC b A z o len) (E a D fV fC A o len) [⟨a, fC.slot⟩, ⟨a, fV.slot⟩] 1 len := by
  refine Law.of_walk (plainFor_of_name (by decide +kernel)) (by decide +kernel) (by decide +kernel) (by decide) (fun _ _ h => by rw [h.1]; rfl) (fun _ U U' hal hh h => ⟨h.1, h.2.1.mv hal hh, h.2.2.1.al hal, h.2.2.2.1.al hal, h.2.2.2.2.1.mv hal hh, h.2.2.2.2.2.1.there hal hh, h.2.2.2.2.2.2⟩) (fun r U U' V V' h1 hal h2 h => Got.mv r U U' V V' h1 hal h2 h) ?_
  intro p e s m args below meth c s₁ X0 hexec hbytes hml hret hlk hnm hown hh0 W hP
  obtain ⟨rfl, hB, f1, f2, hA, s1, hz, l0, l1, l2, hp⟩ := hP
  have a31 := hA.1.2.2.2
  have c1 : Steps p.tables e below (s₁.setTop (entryFrame m #[.ref a, .ref b, .int (Int32.ofNat o), .int (Int32.ofNat len), .null] 6)) (s₁.setTop (mkF m 0 #[.val (.ref a), .val (.ref b), .val (.int (Int32.ofNat o)), .val (.int (Int32.ofNat len)), .val .null, .unset] [])) := entry rfl
  have c2 : Steps p.tables e below (s₁.setTop (entryFrame m #[.ref a, .ref b, .int (Int32.ofNat o), .int (Int32.ofNat len), .null] 6)) (s₁.setTop (mkF m 1 #[.val (.ref a), .val (.ref b), .val (.int (Int32.ofNat o)), .val (.int (Int32.ofNat len)), .val .null, .unset] [.ref a])) := c1.trans (by
    refine XS.aloadN X0.here hexec rfl (hb hbytes d0) rfl rfl ?_
    exact Steps.refl _)
  obtain ⟨T3, X3, q3, st3⟩ := X0.oinit hexec hown (wks W (objW "java/lang/String" 1)) (g := (mkF m 1 #[.val (.ref a), .val (.ref b), .val (.int (Int32.ofNat o)), .val (.int (Int32.ofNat len)), .val .null, .unset] [.ref a])) rfl (by rw [hml]; rfl) (rest := []) rfl (hb hbytes d1) (W := 0) (by show 2 * 0 + 0 ≤ _; decide) (Nat.le_of_ble_eq_true rfl) (Nat.le_of_ble_eq_true rfl)
  have hh3 := q3.trans hh0
  have c4 : Steps p.tables e below (s₁.setTop (entryFrame m #[.ref a, .ref b, .int (Int32.ofNat o), .int (Int32.ofNat len), .null] 6)) (T3.setTop (mkF m 27 #[.val (.ref a), .val (.ref b), .val (.int (Int32.ofNat o)), .val (.int (Int32.ofNat len)), .val .null, .unset] [])) := (c2.trans (st3 _ (Steps.refl _))).trans (by
    refine XS.iloadN X3.here hexec rfl (hb hbytes d4) rfl ?_
    refine XS.ifYes X3.here hexec rfl (pc0 := 5) rfl (hb hbytes d5) rfl (i0_ne_t (nz32 (by omega) l0)) (by decide) rfl ?_
    exact Steps.refl _)
  obtain ⟨T5, X5, q5, st5⟩ := X3.sget hexec hown (wk W (.fieldLink "java/lang/String" 38 "java/lang/String" "COMPACT_STRINGS" "Z")) s1 (fun _ _ h => by rw [hh3]; exact h) (g := (mkF m 27 #[.val (.ref a), .val (.ref b), .val (.int (Int32.ofNat o)), .val (.int (Int32.ofNat len)), .val .null, .unset] [])) rfl (hb hbytes d27)
  have hh5 := q5.trans hh3
  have c6 : Steps p.tables e below (s₁.setTop (entryFrame m #[.ref a, .ref b, .int (Int32.ofNat o), .int (Int32.ofNat len), .null] 6)) (T5.setTop (mkF m 30 #[.val (.ref a), .val (.ref b), .val (.int (Int32.ofNat o)), .val (.int (Int32.ofNat len)), .val .null, .unset] [.int z])) := c4.trans (st5 _ (Steps.refl _))
  have c7 : Steps p.tables e below (s₁.setTop (entryFrame m #[.ref a, .ref b, .int (Int32.ofNat o), .int (Int32.ofNat len), .null] 6)) (T5.setTop (mkF m 36 #[.val (.ref a), .val (.ref b), .val (.int (Int32.ofNat o)), .val (.int (Int32.ofNat len)), .val .null, .unset] [.int (Int32.ofNat len), .int (Int32.ofNat o), .ref b])) := c6.trans (by
    refine XS.ifNo X5.here hexec rfl (hb hbytes d30) rfl (i0_eq_f hz) ?_
    refine XS.aloadN X5.here hexec rfl (hb hbytes d33) rfl rfl ?_
    refine XS.iloadN X5.here hexec rfl (hb hbytes d34) rfl ?_
    refine XS.iloadN X5.here hexec rfl (hb hbytes d35) rfl ?_
    exact Steps.refl _)
  obtain ⟨v8, T8, X8, E8, g8⟩ := X5.callS hexec (Cmp3.law l b A o len) hown (wks W (staticW "java/lang/String" 177 Cmp3.yN)) (wk W Cmp3.tab) (W := 0) (Nat.le_of_ble_eq_true rfl) (Nat.le_of_ble_eq_true rfl) (Nat.le_refl _) (by show 0 + len ≤ len; omega) (g := (mkF m 36 #[.val (.ref a), .val (.ref b), .val (.int (Int32.ofNat o)), .val (.int (Int32.ofNat len)), .val .null, .unset] [.int (Int32.ofNat len), .int (Int32.ofNat o), .ref b])) rfl (by rw [hml]; rfl) c7 (argsL := [.ref b, .int (Int32.ofNat o), .int (Int32.ofNat len)]) (rest := []) rfl rfl (by show 2 * 0 + 0 ≤ _; decide) (hb hbytes d36) (⟨rfl, hA.mv X5.warmed.alike hh5, l1, l2, hp⟩)
  obtain ⟨e8, z8⟩ := E8
  obtain ⟨rfl, N, n1, n2, n3, n4, n5, n6⟩ := NewArr.mv _ T5 s _ _ hh5.symm (Vm.Alike.refl _) rfl e8
  rw [hh5] at z8
  have hB1 := hB.keep X8.warmed.alike (n6 _ _ hB.1)
  have hne : s.heap.size ≠ a := (Nat.ne_of_lt (Array.getElem?_eq_some_iff.mp hB.1).1).symm
  have c9 : Steps p.tables e below (s₁.setTop (entryFrame m #[.ref a, .ref b, .int (Int32.ofNat o), .int (Int32.ofNat len), .null] 6)) (T8.setTop (mkF m 39 #[.val (.ref a), .val (.ref b), .val (.int (Int32.ofNat o)), .val (.int (Int32.ofNat len)), .val .null, .unset] [.ref s.heap.size])) := g8
  have c10 : Steps p.tables e below (s₁.setTop (entryFrame m #[.ref a, .ref b, .int (Int32.ofNat o), .int (Int32.ofNat len), .null] 6)) (T8.setTop (mkF m 45 #[.val (.ref a), .val (.ref b), .val (.int (Int32.ofNat o)), .val (.int (Int32.ofNat len)), .val .null, .val (.ref s.heap.size)] [.int (Int32.ofNat N.slots.size), .ref s.heap.size, .ref a])) := by
    have hc : Steps p.tables e below (s₁.setTop (entryFrame m #[.ref a, .ref b, .int (Int32.ofNat o), .int (Int32.ofNat len), .null] 6)) (T8.setTop (mkF m 45 #[.val (.ref a), .val (.ref b), .val (.int (Int32.ofNat o)), .val (.int (Int32.ofNat len)), .val .null, .val (.ref s.heap.size)] [.int (Int32.ofNat len), .ref s.heap.size, .ref a])) := c9.trans (by
      refine XS.astore X8.here hexec rfl (hb hbytes d39) rfl rfl rfl ?_
      refine XS.aloadN X8.here hexec rfl (hb hbytes d41) rfl rfl ?_
      refine XS.aload X8.here hexec rfl (hb hbytes d42) rfl rfl ?_
      refine XS.iloadN X8.here hexec rfl (hb hbytes d44) rfl ?_
      exact Steps.refl _)
    rw [n4]; exact hc
  obtain ⟨v11, T11, X11, E11, g11⟩ := X8.callS hexec (CodL.law l s.heap.size N) hown (wks W (staticW "java/lang/String" 47 CodL.yN)) (wk W CodL.tab) (W := 1) (Nat.le_of_ble_eq_true rfl) (Nat.le_of_ble_eq_true rfl) (Nat.le_refl _) (by show 0 + len + 0 ≤ len; omega) (g := (mkF m 45 #[.val (.ref a), .val (.ref b), .val (.int (Int32.ofNat o)), .val (.int (Int32.ofNat len)), .val .null, .val (.ref s.heap.size)] [.int (Int32.ofNat N.slots.size), .ref s.heap.size, .ref a])) rfl (by rw [hml]; rfl) c10 (argsL := [.ref s.heap.size, .int (Int32.ofNat N.slots.size)]) (rest := [.ref a]) rfl rfl (by show 2 * 0 + (1 + 0) ≤ _; decide) (hb hbytes d45) (⟨rfl, n1⟩)
  obtain ⟨rfl, q11⟩ := E11
  have hB11 := hB1.mv (X8.warmed.alike.symm.trans X11.warmed.alike) q11
  have c12 : Steps p.tables e below (s₁.setTop (entryFrame m #[.ref a, .ref b, .int (Int32.ofNat o), .int (Int32.ofNat len), .null] 6)) (T11.setTop (mkF m 48 #[.val (.ref a), .val (.ref b), .val (.int (Int32.ofNat o)), .val (.int (Int32.ofNat len)), .val .null, .val (.ref s.heap.size)] [.int 0, .ref a])) := g11
  obtain ⟨T13, X13, p13, bl13, sl13, st13⟩ := X11.finit hexec hown (wk W (.fieldLink "java/lang/String" 15 "java/lang/String" "coder" "B")) (Or.inr ⟨_, (wk W (.laysFinal "java/lang/String" "java/lang/String" "coder" "B"))⟩) (Or.inl ⟨rfl, hnm⟩) f2 (Or.inl rfl) hB11 (t := .byte) (by decide +kernel) rfl (g := (mkF m 48 #[.val (.ref a), .val (.ref b), .val (.int (Int32.ofNat o)), .val (.int (Int32.ofNat len)), .val .null, .val (.ref s.heap.size)] [.int 0, .ref a])) rfl (rest := []) rfl (hb hbytes d48)
  have c14 : Steps p.tables e below (s₁.setTop (entryFrame m #[.ref a, .ref b, .int (Int32.ofNat o), .int (Int32.ofNat len), .null] 6)) (T13.setTop (mkF m 54 #[.val (.ref a), .val (.ref b), .val (.int (Int32.ofNat o)), .val (.int (Int32.ofNat len)), .val .null, .val (.ref s.heap.size)] [.ref s.heap.size, .ref a])) := (c12.trans (st13 _ (Steps.refl _))).trans (by
    refine XS.aloadN X13.here hexec rfl (hb hbytes d51) rfl rfl ?_
    refine XS.aload X13.here hexec rfl (hb hbytes d52) rfl rfl ?_
    exact Steps.refl _)
  obtain ⟨T15, X15, p15, bl15, sl15, st15⟩ := X13.finit hexec hown (wk W (.fieldLink "java/lang/String" 9 "java/lang/String" "value" "[B")) (Or.inr ⟨_, (wk W (.laysFinal "java/lang/String" "java/lang/String" "value" "[B"))⟩) (Or.inl ⟨rfl, hnm⟩) f1 (Or.inl rfl) bl13 (t := (.array .byte)) (by decide +kernel) rfl (g := (mkF m 54 #[.val (.ref a), .val (.ref b), .val (.int (Int32.ofNat o)), .val (.int (Int32.ofNat len)), .val .null, .val (.ref s.heap.size)] [.ref s.heap.size, .ref a])) rfl (rest := []) rfl (hb hbytes d54)
  have c16 : Steps p.tables e below (s₁.setTop (entryFrame m #[.ref a, .ref b, .int (Int32.ofNat o), .int (Int32.ofNat len), .null] 6)) (T15.setTop (mkF m 57 #[.val (.ref a), .val (.ref b), .val (.int (Int32.ofNat o)), .val (.int (Int32.ofNat len)), .val .null, .val (.ref s.heap.size)] [])) := c14.trans (st15 _ (Steps.refl _))
  have ap := apart (Or.inr ⟨_, (wk W (.laysFinal "java/lang/String" "java/lang/String" "value" "[B"))⟩) (Or.inr ⟨_, (wk W (.laysFinal "java/lang/String" "java/lang/String" "coder" "B"))⟩) f1 f2 (t₁ := .array .byte) (t₂ := .byte) (by decide +kernel) (by decide +kernel) (by decide)
  have al := X8.warmed.alike.symm.trans X15.warmed.alike
  have n7 : T11.heap[s.heap.size]? = some N := by rw [q11]; exact n1.1
  exact ⟨T15, none, _, _, _, X15, by simp, rfl, by omega, (fun _ => rfl), ⟨rfl, _, N, bl15, ((Same.refl D _).set _ (by simp)).set _ (by simp), sl15, (Cell.slots_setSlot_ne _ ap).trans sl13, n1.keep al (p15.other hne (p13.other hne n7)), n2, by rw [al.findClass]; exact n3, n4, n5, fun y c h1 h2 => p15.other h1 (p13.other h1 (by rw [q11]; exact n6 y c h2)), by rw [p15.2.2, p13.2.2, q11]; exact z8⟩, fun fs hl => c16.trans (X15.returnOut hexec hret (hb hbytes d57) hl)⟩
end New4
namespace New1
def yN : MethodName := ⟨"java/lang/String", "<init>", "([C)V"⟩
abbrev yB : ByteArray := jdk_42_method_3_code
theorem d0 : decode yB 0 = .ok (.aload_n 0, 1) := by decide +kernel
theorem d1 : decode yB 1 = .ok (.aload_n 1, 1) := by decide +kernel
theorem d2 : decode yB 2 = .ok (.iconst 0, 1) := by decide +kernel
theorem d3 : decode yB 3 = .ok (.aload_n 1, 1) := by decide +kernel
theorem d4 : decode yB 4 = .ok (.arraylength, 1) := by decide +kernel
theorem d5 : decode yB 5 = .ok (.aconst_null, 1) := by decide +kernel
theorem d6 : decode yB 6 = .ok (.invokespecial 27, 3) := by decide +kernel
theorem d9 : decode yB 9 = .ok (.return_, 1) := by decide +kernel
def site : List Cond := [New4.tab] ++ initW "java/lang/String" 27 New4.yN
def tab : Cond := tabOf yN yB 2 none site
def P (a : Addr) (D : Cell) (fV fC : Field) (b : Addr) (A : Cell) (z : Int32) (args : Array Value) (s : State) : Prop := args = #[.ref a, .ref b] ∧ Blank "java/lang/String" a D s ∧ Found "java/lang/String" "value" "[B" fV s ∧ Found "java/lang/String" "coder" "B" fC s ∧ Ch b A s ∧ StaticIs s "java/lang/String" "COMPACT_STRINGS" "Z" (.int z) ∧ ¬ z = 0 ∧ 0 < A.slots.size ∧ A.slots.size ≤ 536870912 ∧ ∀ i, i < A.slots.size → ¬ 255 < cv A i
def E (a : Addr) (D : Cell) (fV fC : Field) (A : Cell) (r : Option Value) (s u : State) : Prop := Got a D fV fC A 0 A.slots.size r s u
/-- new String(chars), not empty, no char above 255: a Latin-1 String of their low bytes -/
theorem law (l : Launch) (a : Addr) (D : Cell) (fV fC : Field) (b : Addr) (A : Cell) (z : Int32) : Law l yN 2 1 3 52 yB 2 none site (P a D fV fC b A z) (E a D fV fC A) [⟨a, fC.slot⟩, ⟨a, fV.slot⟩] 1 A.slots.size := by
  refine Law.of_walk (plainFor_of_name (by decide +kernel)) (by decide +kernel) (by decide +kernel) (by decide) (fun _ _ h => by rw [h.1]; rfl) (fun _ U U' hal hh h => ⟨h.1, h.2.1.mv hal hh, h.2.2.1.al hal, h.2.2.2.1.al hal, h.2.2.2.2.1.mv hal hh, h.2.2.2.2.2.1.there hal hh, h.2.2.2.2.2.2⟩) (fun r U U' V V' h1 hal h2 h => Got.mv r U U' V V' h1 hal h2 h) ?_
  intro p e s m args below meth c s₁ X0 hexec hbytes hml hret hlk hnm hown hh0 W hP
  obtain ⟨rfl, hB, f1, f2, hA, s1, hz, l0, l2, hp⟩ := hP
  have c1 : Steps p.tables e below (s₁.setTop (entryFrame m #[.ref a, .ref b] 2)) (s₁.setTop (mkF m 0 #[.val (.ref a), .val (.ref b)] [])) := entry rfl
  have c2 : Steps p.tables e below (s₁.setTop (entryFrame m #[.ref a, .ref b] 2)) (s₁.setTop (mkF m 6 #[.val (.ref a), .val (.ref b)] [.null, .int (Int32.ofNat A.slots.size), .int 0, .ref b, .ref a])) := c1.trans (by
    refine XS.aloadN X0.here hexec rfl (hb hbytes d0) rfl rfl ?_
    refine XS.aloadN X0.here hexec rfl (hb hbytes d1) rfl rfl ?_
    refine iconstV X0.here hexec rfl 0 (hb hbytes d2) (by decide) ?_
    refine XS.aloadN X0.here hexec rfl (hb hbytes d3) rfl rfl ?_
    refine X0.alen hexec (hA.1.mv X0.warmed.alike hh0) rfl rfl (hb hbytes d4) ?_
    refine XS.aconstNull X0.here hexec rfl (hb hbytes d5) ?_
    exact Steps.refl _)
  obtain ⟨v3, T3, X3, E3, g3⟩ := X0.callN hexec (New4.law l a D fV fC b A z 0 A.slots.size) rfl hown (wks W (initW "java/lang/String" 27 New4.yN)) (W New4.tab (by simp only [site, List.mem_cons, List.mem_append, true_or, or_true])) (W := 0) (Nat.le_of_ble_eq_true rfl) (Nat.le_of_ble_eq_true rfl) (Nat.le_refl _) (by show 0 + A.slots.size ≤ A.slots.size; omega) (g := (mkF m 6 #[.val (.ref a), .val (.ref b)] [.null, .int (Int32.ofNat A.slots.size), .int (Int32.ofNat 0), .ref b, .ref a])) rfl (by rw [hml]; rfl) c2 (argsL := [.ref b, .int (Int32.ofNat 0), .int (Int32.ofNat A.slots.size), .null]) (rest := []) rfl rfl (by show 2 * 0 + 0 ≤ _; decide) (hb hbytes d6) (⟨rfl, hB.mv X0.warmed.alike hh0, f1.al X0.warmed.alike, f2.al X0.warmed.alike, hA.mv X0.warmed.alike hh0, s1.there X0.warmed.alike hh0, hz, l0, by omega, l2, fun i hi => by rw [Nat.zero_add]; exact hp i hi⟩)
  have e0 := Got.mv _ s₁ s _ _ hh0.symm (Vm.Alike.refl _) rfl E3
  obtain rfl := e0.1
  have c4 : Steps p.tables e below (s₁.setTop (entryFrame m #[.ref a, .ref b] 2)) (T3.setTop (mkF m 9 #[.val (.ref a), .val (.ref b)] [])) := g3
  exact ⟨T3, none, _, _, _, X3, by simp, rfl, by omega, (fun _ => rfl), e0, fun fs hl => c4.trans (X3.returnOut hexec hret (hb hbytes d9) hl)⟩
theorem pays {l : Launch} {R : Room} {p : Program} {e : Env} {below : List Frame} {s : State} {sargs : Array Value} {len W : Nat} (a : Addr) (D : Cell) (fV fC : Field) (b : Addr) (A : Cell) (z : Int32) (htab : tab.before sargs s = true) (hfr : 4 ≤ R.frames) (hlo : W + 65 ≤ R.locals) :
    Back l R p e below s sargs yN len W (fun A₁ a₁ => A₁.cells + 1 ≤ R.cells ∧ A₁.slots + A.slots.size ≤ R.slots ∧ P a D fV fC b A z a₁ A₁.U) (fun A₁ _ v₁ B₁ => E a D fV fC A v₁ A₁.U B₁.U ∧ B₁.locs = A₁.locs ++ [⟨a, fC.slot⟩, ⟨a, fV.slot⟩] ∧ B₁.cells = A₁.cells + 1 ∧ B₁.slots = A₁.slots + A.slots.size) :=
  (law l a D fV fC b A z).pays htab hfr (by omega)
end New1
end StrChars
namespace StrChars.Road
open Jvm Sem ClassFile Op Lib Jvm.Stand Jvm.Free Jvm.Free.XT
open Jvm.Lib.Cold (StaticIs)
abbrev ST : String := "java/lang/String"
/-- every table word that New1's law asks, flat -/
abbrev words : List Jvm.Cond := [.code New1.yN New1.yB 2 none, .initialized ST, .methodLink ST 27 New4.yN, .instanceMethod New4.yN,
  .code New4.yN New4.yB 6 none, .fieldLink ST 38 ST "COMPACT_STRINGS" "Z", .laysFinal ST ST "value" "[B", .fieldLink ST 9 ST "value" "[B", .laysFinal ST ST "coder" "B", .fieldLink ST 15 ST "coder" "B",
  .methodLink ST 1 Lib.objectInit, .instanceMethod Lib.objectInit, .code Lib.objectInit ⟨#[0xb1]⟩ 1 none, .methodLink ST 177 Cmp3.yN, .static Cmp3.yN, .methodLink ST 47 CodL.yN, .static CodL.yN,
  .code Cmp3.yN Cmp3.yB 6 (some (.array .byte)), .initialized U16, .arrayClass .byte, .methodLink U16 115 Cmp5.yN, .static Cmp5.yN, .code Cmp5.yN Cmp5.yB 7 (some .int), .code CodL.yN CodL.yB 2 (some .byte)]
theorem tab_of {a : Array Value} {s : State} (h : ∀ w ∈ words, w.before a s = true) : New1.tab.before a s = true := by
  have h5 : Cmp5.tab.before a s = true := unparts (wk h (.code Cmp5.yN Cmp5.yB 7 (some .int))) (wks h (.initialized Cmp5.yN.cls :: Cmp5.site))
  have hc : CodL.tab.before a s = true := unparts (wk h (.code CodL.yN CodL.yB 2 (some .byte))) (wks h (.initialized CodL.yN.cls :: CodL.site))
  have q5 : ∀ w ∈ Cmp5.tab :: words, w.before a s = true := fun w hw => (List.mem_cons.mp hw).elim (fun e => e ▸ h5) (h w)
  have h3 : Cmp3.tab.before a s = true := unparts (wk q5 (.code Cmp3.yN Cmp3.yB 6 (some (.array .byte)))) (wks q5 (.initialized Cmp3.yN.cls :: Cmp3.site))
  have q3 : ∀ w ∈ Cmp3.tab :: CodL.tab :: words, w.before a s = true := fun w hw => (List.mem_cons.mp hw).elim (fun e => e ▸ h3) fun hw => (List.mem_cons.mp hw).elim (fun e => e ▸ hc) (h w)
  have h4 : New4.tab.before a s = true := unparts (wk q3 (.code New4.yN New4.yB 6 none)) (wks q3 (.initialized New4.yN.cls :: New4.site))
  have q4 : ∀ w ∈ New4.tab :: words, w.before a s = true := fun w hw => (List.mem_cons.mp hw).elim (fun e => e ▸ h4) (h w)
  exact unparts (wk q4 (.code New1.yN New1.yB 2 none)) (wks q4 (.initialized New1.yN.cls :: New1.site))
/-- the words ride from the start Z to the walk's own state -/
theorem moved {Z s : State} {a0 args : Array Value} (hZ : Z.Warmed39 s.vm) (hw : ∀ d ∈ words, d.before a0 Z = true) : ∀ d ∈ words, d.before args s = true := fun d hd => by
  have q := hw d hd
  have t : ∀ d ∈ words, d = .arrayClass .byte ∨ (d.onTables && d.keepsFace) = true := by decide +kernel
  rcases t d hd with rfl | t
  · exact RoadKit.mvA hZ q
  · exact RoadKit.mv hZ q t
/-- WHAT COMES BACK, over the tables of the start Z: h the heap at the call, h' behind it -/
def Q (Z : State) (x : Addr) (A : Cell) (h : Heap) (v : Option Value) (h' : Heap) (L : List Loc) : Prop := v = none ∧ (∀ y ∈ L, y.base = x) ∧ RoadKit.Keep h h' [x] ∧ h'.size = h.size + 1 ∧ RoadKit.Exa Z h' x ST ∧ RoadKit.Fld Z h' x ST "value" "[B" (.ref h.size) ∧ RoadKit.Fld Z h' x ST "coder" "B" (.int 0) ∧
  (∃ V : Cell, RoadKit.Arr Z h' h.size V .byte ∧ V.vm = .none ∧ Z.vm.findClass "[B" = some V.cls ∧ V.slots.size = A.slots.size ∧ ∀ j, j < A.slots.size → V.slots[j]? = some (.int (lo8 (cv A j)))) ∧
  ∀ (O n d : String) (w : Value), RoadKit.Fld Z h x O n d w → RoadKit.slotOf Z O n d ≠ RoadKit.slotOf Z ST "value" "[B" → RoadKit.slotOf Z O n d ≠ RoadKit.slotOf Z ST "coder" "B" → RoadKit.Fld Z h' x O n d w
/-- **new String(chars) AT A CALL, IN THE ROAD'S FORM**: for specialBack behind newO: x the fresh String, b the char[] with the cell A -/
theorem back {p : Program} {l : Launch} {e : Env} {R : Room} {s : State} {args : Array Value} {below : List Frame} {len W : Nat} {Z : State} {a0 : Array Value} {h : Heap} (hZ : Z.Warmed39 s.vm) (hw : ∀ d ∈ words, d.before a0 Z = true) {kI : Nat} (wi : (Jvm.Cond.instantiable ST kI).before a0 Z = true)
    {x b : Addr} {A : Cell} {z : Int32} {v0 c0 : Value} (E : RoadKit.Exa Z h x ST) (V : RoadKit.Fld Z h x ST "value" "[B" v0) (C : RoadKit.Fld Z h x ST "coder" "B" c0) (K : RoadKit.Arr Z h b A .char) (hty : Typed .char A) (S : RoadKit.Sta Z h ST "COMPACT_STRINGS" "Z" (.int z)) (hz : ¬ z = 0)
    (l0 : 0 < A.slots.size) (l2 : A.slots.size ≤ 536870912) (hp : ∀ i, i < A.slots.size → ¬ 255 < cv A i) (hfr : 4 ≤ R.frames) (hlo : W + 65 ≤ R.locals) :
    Back l R p e below s args New1.yN len W (fun P a => a = #[.ref x, .ref b] ∧ P.U.heap = h ∧ P.cells + 1 ≤ R.cells ∧ P.slots + A.slots.size ≤ R.slots)
      (fun P _ v B => ∃ L, Q Z x A h v B.U.heap L ∧ B.locs = P.locs ++ L ∧ B.cells = P.cells + 1 ∧ B.slots = P.slots + A.slots.size) := by
  intro m meth c P g ig mk a X hg hsize hdg hW hn hp'
  obtain ⟨rfl, rfl, r1, r2⟩ := hp'
  have al : Z.vm.Alike P.U.vm := hZ.alike.trans X.warmed.alike
  obtain ⟨D, cfV, kV, iV, fV, hD, gV, stV, knV, obV, asV, slV⟩ := id V
  obtain ⟨D', cfC, kC, iC, fC, hD', gC, stC, -, -, asC, slC⟩ := id C
  cases hD.symm.trans hD'
  obtain ⟨D2, kD, e1, e2, e3, e4, e5⟩ := id E
  cases hD.symm.trans e1
  obtain ⟨c2, k2, i1, i2, i3, -⟩ := Cond.instantiable_spec wi
  cases e2.symm.trans i1
  cases e3.symm.trans i2
  obtain ⟨kU, u1, u2⟩ := al.2.2 _ _ e3
  have hB : Blank ST x D P.U := ⟨hD, ⟨knV, fun q hq => by rw [hq] at obV; cases obV⟩, by rw [al.findClass]; exact e2, kU, u1, by rw [u2]; exact i3, by rw [u2]; exact e5 i3⟩
  have F1 : Found ST "value" "[B" fV P.U := ⟨SBG.found_only al ⟨cfV, kV, iV, gV⟩, stV⟩
  have F2 : Found ST "coder" "B" fC P.U := ⟨SBG.found_only al ⟨cfC, kC, iC, gC⟩, stC⟩
  have hA : Ch b A P.U := ⟨⟨K.1, State.isArrayOf_alike al K.2.1, K.2.2, by omega⟩, hty⟩
  have hS : StaticIs P.U ST "COMPACT_STRINGS" "Z" (.int z) := by
    obtain ⟨cfS, iS, kS, fS, st, cS, t1, t2, t3, t4, t5, t6, t7⟩ := S
    exact StaticIs.there (s := { Z with heap := P.U.heap }) ⟨cfS, iS, kS, fS, st, cS, t1, t2, t3, t4, t5, (fun q => by rw [q] at t6; cases t6), t7⟩ al rfl
  obtain ⟨v, B, X', ⟨⟨hv, E', V', q1, q2, q3, q4, q5, q6, q7, q8, q9, q10, q11⟩, hl, hc, hs⟩, st⟩ := New1.pays x D fV fC b A z (tab_of (moved hZ hw)) hfr hlo m meth c P g ig mk _ X hg hsize hdg hW hn ⟨r1, r2, rfl, hB, F1, F2, hA, hS, hz, l0, l2, hp⟩
  have al' : Z.vm.Alike B.U.vm := hZ.alike.trans X'.warmed.alike
  have hsz : E'.slots.size = D.slots.size := by
    obtain ⟨-, -, -, kB, w1, w2, w3⟩ := q1
    obtain ⟨kB', y1, y2⟩ := al'.2.2 _ _ e3
    rw [q2.2.1] at w1
    cases w1.symm.trans y1
    rw [w3, e5 i3, y2]
  refine ⟨v, B, X', ⟨_, ⟨hv, ?_, ⟨by omega, fun y cy hy hn' => q10 y cy (by simpa using hn') hy, fun y cy hy => ?_⟩, q11, ⟨E', _, q1.1, by rw [q2.2.1]; exact e2, by rw [q2.2.1]; exact e3, by rw [q2.1]; exact obV, fun _ => by rw [hsz]; exact e5 i3⟩,
    ⟨E', cfV, kV, iV, fV, q1.1, gV, stV, by rw [q2.1]; exact knV, by rw [q2.1]; exact obV, by rw [q2.2.1]; exact asV, q3⟩, ⟨E', cfC, kC, iC, fC, q1.1, gC, stC, by rw [q2.1]; exact knV, by rw [q2.1]; exact obV, by rw [q2.2.1]; exact asC, q4⟩,
    ⟨V', ⟨q5.1, State.isArrayOf_alike al'.symm q5.2.1, q5.2.2.1⟩, q6, by rw [← al'.findClass]; exact q7, q8, fun j hj => by have := q9 j hj; rwa [Nat.zero_add] at this⟩, fun O n d w F n1 n2 => ?_⟩, hl, hc, hs⟩, st⟩
  · intro y hy
    simp only [List.mem_cons, List.not_mem_nil, or_false] at hy
    rcases hy with rfl | rfl <;> rfl
  · by_cases q : y = x
    · subst q
      cases hD.symm.trans hy
      exact ⟨E', q1.1, q2.2.1, q2.1, hsz⟩
    · exact ⟨cy, q10 y cy q hy, rfl, rfl, rfl⟩
  · obtain ⟨D3, cf, k, i, f, g1, g2, g3, g4, g5, g6, g7⟩ := F
    cases hD.symm.trans g1
    simp only [RoadKit.slotOf, g2, gV, gC, Option.map_some, Option.getD_some] at n1 n2
    exact ⟨E', cf, k, i, f, q1.1, g2, g3, by rw [q2.1]; exact g4, by rw [q2.1]; exact g5, by rw [q2.2.1]; exact g6, by rw [q2.2.2 f.slot (by simp [n1, n2])]; exact g7⟩
end StrChars.Road
namespace StrChars.Road
open Jvm Sem ClassFile Op Lib Jvm.Stand Jvm.Free Jvm.Free.XT
/-- WHAT COMES BACK, the byte[] as a list of values -/
def QA (Z : State) (x : Addr) (zn : Int32) (cs : List Int32) (h : Heap) (v : Option Value) (h' : Heap) (L : List Loc) : Prop := v = none ∧ (∀ y ∈ L, y.base = x) ∧ RoadKit.Keep h h' [x] ∧ h'.size = h.size + 1 ∧ RoadKit.Exa Z h' x ST ∧ RoadKit.Fld Z h' x ST "value" "[B" (.ref h.size) ∧ RoadKit.Fld Z h' x ST "coder" "B" (.int 0) ∧
  (∃ kb, Z.vm.findClass "[B" = some kb ∧ RoadKit.Arv Z h' h.size kb .byte zn (cs.map fun c => .int (lo8 c)) (.int 0)) ∧
  ∀ (O n d : String) (w : Value), RoadKit.Fld Z h x O n d w → RoadKit.slotOf Z O n d ≠ RoadKit.slotOf Z ST "value" "[B" → RoadKit.slotOf Z O n d ≠ RoadKit.slotOf Z ST "coder" "B" → RoadKit.Fld Z h' x O n d w
/-- **new String(chars) AT A CALL, THE ARRAYS AS LISTS**: the char[] at b holds cs, not empty, no char above 255 -/
theorem backArv {p : Program} {l : Launch} {e : Env} {R : Room} {s : State} {args : Array Value} {below : List Frame} {len W : Nat} {Z : State} {a0 : Array Value} {h : Heap} (hZ : Z.Warmed39 s.vm) (hw : ∀ d ∈ words, d.before a0 Z = true) {kI : Nat} (wi : (Jvm.Cond.instantiable ST kI).before a0 Z = true)
    {x b : Addr} {k : ClassId} {zn z : Int32} {cs : List Int32} {dv v0 c0 : Value} (E : RoadKit.Exa Z h x ST) (V : RoadKit.Fld Z h x ST "value" "[B" v0) (C : RoadKit.Fld Z h x ST "coder" "B" c0) (K : RoadKit.Arv Z h b k .char zn (cs.map Value.int) dv) (S : RoadKit.Sta Z h ST "COMPACT_STRINGS" "Z" (.int z)) (hz : ¬ z = 0)
    (hlen : zn.toNatClampNeg = cs.length) (h0 : 0 < cs.length) (hbig : cs.length ≤ 536870912) (hall : ∀ c ∈ cs, ¬ 255 < c) (hfr : 4 ≤ R.frames) (hlo : W + 65 ≤ R.locals) :
    Back l R p e below s args New1.yN len W (fun P a => a = #[.ref x, .ref b] ∧ P.U.heap = h ∧ P.cells + 1 ≤ R.cells ∧ P.slots + cs.length ≤ R.slots)
      (fun P _ v B => ∃ L, QA Z x zn cs h v B.U.heap L ∧ B.locs = P.locs ++ L ∧ B.cells = P.cells + 1 ∧ B.slots = P.slots + cs.length) := by
  obtain ⟨A, K1, K2, K3, K4, K5, K6⟩ := K
  have e : A.slots.size = cs.length := K3.trans hlen
  have hat : ∀ (i : Nat) (hi : i < cs.length), A.slots[i]? = some (.int cs[i]) := fun i hi => by rw [K5 i (by omega)]; simp [List.getD_eq_getElem?_getD, hi]
  have hcv : ∀ (i : Nat) (hi : i < cs.length), cv A i = cs[i] := fun i hi => by unfold cv; rw [hat i hi]
  have hty : Typed .char A := fun i v hv => by
    have hi : i < A.slots.size := (Array.getElem?_eq_some_iff.mp hv).1
    have q := K5 i hi
    rw [hv] at q
    rw [Option.some.inj q]
    exact K6 i hi
  refine Back.mono (back hZ hw wi E V C K1 hty S hz (by omega) (by omega) (fun i hi => by rw [hcv i (by omega)]; exact hall _ (List.getElem_mem _)) hfr hlo) (fun P a hp => ⟨hp.1, hp.2.1, hp.2.2.1, by rw [e]; exact hp.2.2.2⟩) (fun P a v B hp hq => ?_)
  obtain ⟨L, ⟨q1, q2, q3, q4, q5, q6, q7, ⟨V', v1, v2, v3, v4, v5⟩, q9⟩, hl, hc, hs⟩ := hq
  refine ⟨L, ⟨q1, q2, q3, q4, q5, q6, q7, ⟨V'.cls, v3, V', v1, rfl, by rw [v4, e, hlen], K4, fun i hi => ?_, fun i hi => ?_⟩, q9⟩, hl, hc, by rw [hs, e]⟩
  · have hi' : i < cs.length := by omega
    rw [v5 i (by omega), hcv i hi']; simp [List.getD_eq_getElem?_getD, hi']
  · have hi' : i < cs.length := by omega
    simp only [List.getD_eq_getElem?_getD, List.getElem?_map, List.getElem?_eq_getElem hi', Option.map_some, Option.getD_some]
    exact fits_lo8 _
end StrChars.Road
namespace StrChars.Road
open Jvm Sem ClassFile Op Lib Jvm.Stand Jvm.Free Jvm.Free.XT
/-- WHAT COMES BACK, in the writer's own shape -/
def QV (Z : State) (x : Addr) (N : Int32) (bs : List Int32) (h : Heap) (n0 : Nat) (v : Option Value) (h' : Heap) (L : List Loc) : Prop := v = none ∧ RoadKit.Fr n0 L ∧ RoadKit.Keep h h' [x] ∧ RoadKit.Exa Z h' x ST ∧ RoadKit.Fld Z h' x ST "coder" "B" (.int 0) ∧
  ∃ (t : Addr) (kb : ClassId), n0 ≤ t ∧ h.size ≤ t ∧ ¬ t = x ∧ RoadKit.Fld Z h' x ST "value" "[B" (.ref t) ∧ RoadKit.Arv Z h' t kb .byte N (bs.map Value.int) (.int 0)
/-- **new String(chars) AT A CALL, FOR THE WRITER**: a char[] of n known ints, each 0 to 255 -/
theorem backV {p : Program} {l : Launch} {e : Env} {R : Room} {s : State} {args : Array Value} {below : List Frame} {len W : Nat} {Z : State} {a0 : Array Value} {h : Heap} (hZ : Z.Warmed39 s.vm) (hw : ∀ d ∈ words, d.before a0 Z = true) {kI : Nat} (wi : (Jvm.Cond.instantiable ST kI).before a0 Z = true)
    {x b : Addr} {kC : ClassId} {cs bs : List Int32} {d v0 c0 : Value} {z N : Int32} {n n0 : Nat} (hx0 : n0 ≤ x) (hh0 : n0 ≤ h.size) (E : RoadKit.Exa Z h x ST) (V : RoadKit.Fld Z h x ST "value" "[B" v0) (C : RoadKit.Fld Z h x ST "coder" "B" c0) (K : RoadKit.Arv Z h b kC .char N (cs.map Value.int) d) (S : RoadKit.Sta Z h ST "COMPACT_STRINGS" "Z" (.int z)) (hz : ¬ z = 0)
    (hn : cs.length = n) (hN : N = Int32.ofNat n) (l0 : 0 < n) (l2 : n ≤ 4000) (hp : ∀ c ∈ cs, ¬ c < 0 ∧ ¬ (255 : Int32) < c) (hb : bs = cs.map (fun c => c.toInt8.toInt32)) (hfr : 4 ≤ R.frames) (hlo : W + 65 ≤ R.locals) :
    Back l R p e below s args (⟨"java/lang/String", "<init>", "([C)V"⟩ : MethodName) len W (fun P a => a = #[.ref x, .ref b] ∧ P.U.heap = h ∧ P.cells + 1 ≤ R.cells ∧ P.slots + n ≤ R.slots)
      (fun P _ v B => ∃ L, QV Z x N bs h n0 v B.U.heap L ∧ B.locs = P.locs ++ L ∧ B.cells = P.cells + 1 ∧ B.slots = P.slots + n) := by
  subst hn hN hb
  refine Back.mono (backArv hZ hw wi E V C K S hz (n32 (by omega)) l0 (by omega) (fun c hc => (hp c hc).2) hfr hlo) (fun P a hp => hp) (fun P a v B hp hq => ?_)
  obtain ⟨L, ⟨q1, q2, q3, q4, q5, q6, q7, ⟨kb, v1, v2⟩, q9⟩, hl, hc, hs⟩ := hq
  exact ⟨L, ⟨q1, fun y hy => by rw [q2 y hy]; exact hx0, q3, q5, q7, h.size, kb, hh0, Nat.le_refl _, Nat.ne_of_gt E.lt, q6, by rw [List.map_map]; exact v2⟩, hl, hc, hs⟩
end StrChars.Road
namespace StrChars
open Jvm Sem ClassFile Op Lib Jvm.Stand Jvm.Free.XT Jvm.Free.ALB Jvm.Free.JM Jvm.Free
open Jvm.Lib.Cold (StaticIs)
def hi8 (x : Int32) : Int32 := lo8 (x >>> ((8 : Int32) &&& 31))
/-- what StringUTF16.getChar makes of two bytes -/
def pairCh (u v : Int32) : Int32 := (((u &&& 255) <<< ((0 : Int32) &&& 31)) ||| ((v &&& 255) <<< ((8 : Int32) &&& 31))).toUInt32.toUInt16.toUInt32.toInt32
theorem shr0 (c : Int32) : c >>> ((0 : Int32) &&& 31) = c := by
  have e : ((0 : Int32) &&& 31) = 0 := by decide
  rw [e]
  apply Int32.toBitVec_inj.mp
  rw [Int32.toBitVec_shiftRight]
  have e1 : ((0 : Int32).toBitVec.smod 32) = 0#32 := by decide
  rw [e1, BitVec.sshiftRight_eq']
  exact BitVec.sshiftRight_zero
theorem lo8_and (x : Int32) : (lo8 x &&& 255).toBitVec.toNat = x.toBitVec.toNat % 256 := by
  have h : (lo8 x).toBitVec = (x.toBitVec.signExtend 8).signExtend 32 := by rw [lo8, Int8.toBitVec_toInt32, Int32.toBitVec_toInt8]
  rw [Int32.toBitVec_and, BitVec.toNat_and, h]
  have e : ((x.toBitVec.signExtend 8).signExtend 32).toNat % 256 = x.toBitVec.toNat % 256 := by
    rw [BitVec.toNat_signExtend]
    have hlt := x.toBitVec.isLt
    simp only [BitVec.toNat_setWidth, BitVec.toNat_signExtend]
    split <;> split <;> omega
  rw [← e]
  exact Nat.and_two_pow_sub_one_eq_mod _ 8
theorem pair_says {c : Int32} (h0 : ¬ c < 0) (h1 : ¬ 65535 < c) : pairCh (lo8 c) (hi8 c) = c := by
  rw [Int32.lt_iff_toInt_lt] at h0 h1
  have e0 : (0 : Int32).toInt = 0 := rfl
  have e1 : (65535 : Int32).toInt = 65535 := rfl
  have hc : c.toInt = c.toBitVec.toNat := by
    have := c.toBitVec.isLt
    have e : c.toInt = c.toBitVec.toInt := rfl
    rw [e] at h0 h1
    rw [e]
    rw [BitVec.toInt_eq_toNat_cond] at h0 h1 ⊢
    split at h0 <;> split <;> omega
  have hn : c.toBitVec.toNat < 65536 := by omega
  have a1 := lo8_and c
  have a2 : (hi8 c &&& 255).toBitVec.toNat = c.toBitVec.toNat / 256 := by
    rw [hi8, lo8_and]
    have e : ((8 : Int32) &&& 31) = 8 := by decide
    rw [e, Int32.toBitVec_shiftRight]
    have e2 : ((8 : Int32).toBitVec.smod 32) = 8#32 := by decide
    rw [e2, BitVec.sshiftRight_eq', BitVec.toNat_sshiftRight_of_msb_false (by rw [BitVec.msb_eq_false_iff_two_mul_lt]; omega)]
    show c.toBitVec.toNat >>> 8 % 256 = _
    rw [Nat.shiftRight_eq_div_pow]
    omega
  unfold pairCh
  apply Int32.toBitVec_inj.mp
  apply BitVec.eq_of_toNat_eq
  have f0 : ((0 : Int32) &&& 31) = 0 := by decide
  have f8 : ((8 : Int32) &&& 31) = 8 := by decide
  rw [f0, f8]
  have g : (((lo8 c &&& 255) <<< (0 : Int32)) ||| ((hi8 c &&& 255) <<< (8 : Int32))).toBitVec.toNat = c.toBitVec.toNat := by
    rw [Int32.toBitVec_or, Int32.toBitVec_shiftLeft, Int32.toBitVec_shiftLeft]
    have s0 : ((0 : Int32).toBitVec.smod 32) = 0#32 := by decide
    have s8 : ((8 : Int32).toBitVec.smod 32) = 8#32 := by decide
    rw [s0, s8, BitVec.toNat_or]
    simp only [BitVec.shiftLeft_eq', BitVec.toNat_shiftLeft, a1, a2]
    show (c.toBitVec.toNat % 256) <<< 0 % 2 ^ 32 ||| (c.toBitVec.toNat / 256) <<< 8 % 2 ^ 32 = _
    rw [Nat.shiftLeft_zero, Nat.mod_eq_of_lt (show c.toBitVec.toNat % 256 < 2 ^ 32 by omega), Nat.mod_eq_of_lt (show (c.toBitVec.toNat / 256) <<< 8 < 2 ^ 32 by rw [Nat.shiftLeft_eq]; omega), Nat.or_comm, ← Nat.shiftLeft_add_eq_or_of_lt (by omega), Nat.shiftLeft_eq]
    omega
  show BitVec.toNat (((((lo8 c &&& 255) <<< (0 : Int32)) ||| ((hi8 c &&& 255) <<< (8 : Int32))).toBitVec.setWidth 16).setWidth 32) = _
  rw [BitVec.toNat_setWidth, BitVec.toNat_setWidth, g]
  omega
end StrChars
namespace StrChars
open Jvm Sem ClassFile Op Lib Jvm.Stand Jvm.Free.XT Jvm.Free.ALB Jvm.Free.JM Jvm.Free
open Jvm.Lib.Cold (StaticIs)
theorem narrow_ch {c : Int32} (h0 : ¬ c < 0) (h1 : ¬ 65535 < c) : narrow .char (.int c) = .int c := by
  have q : narrow .char (.int (pairCh (lo8 c) (hi8 c))) = .int (pairCh (lo8 c) (hi8 c)) := narrow_c _
  rwa [pair_says h0 h1] at q
/-- the array's cell V codes the n chars f 0 .. f (n - 1) by the coder cd, as the JDK does: coder 1 just where some char is above 255 -/
def Cod (cd : Int32) (n : Nat) (f : Nat → Int32) (V : Cell) : Prop := (cd = 0 ∧ V.slots.size = n ∧ ∀ j, j < n → V.slots[j]? = some (.int (lo8 (f j))) ∧ ¬ 255 < f j) ∨ (cd = 1 ∧ V.slots.size = 2 * n ∧ (∀ j, j < n → V.slots[2 * j]? = some (.int (lo8 (f j))) ∧ V.slots[2 * j + 1]? = some (.int (hi8 (f j)))) ∧ ∃ j, j < n ∧ 255 < f j)
/-- **x is a String of the n chars f 0 .. f (n - 1)**, Latin-1 or UTF-16; its array at t has the cell V -/
def Txt (x t : Addr) (V : Cell) (cd : Int32) (n : Nat) (f : Nat → Int32) (U : State) : Prop := Exact "java/lang/String" x U ∧ Has x "java/lang/String" "value" "[B" (.ref t) U ∧ Has x "java/lang/String" "coder" "B" (.int cd) U ∧ XT.Arr .byte t V U ∧ Cod cd n f V ∧ ∀ j, j < n → ¬ f j < 0 ∧ ¬ 65535 < f j
theorem Txt.mv {x t : Addr} {V : Cell} {cd : Int32} {n : Nat} {f : Nat → Int32} {U U' : State} (h : Txt x t V cd n f U) (hal : U.vm.Alike U'.vm) (hh : U'.heap = U.heap) : Txt x t V cd n f U' := ⟨h.1.mv hal hh, h.2.1.mv hal hh, h.2.2.1.mv hal hh, h.2.2.2.1.mv hal hh, h.2.2.2.2⟩
end StrChars
namespace StrChars.Road
open Jvm Sem ClassFile Op Lib Jvm.Stand Jvm.Free Jvm.Free.XT
open Jvm.Lib.Cold (StaticIs)
/-- the bytes of the chars cs, low before high -/
def wideBytes : List Int32 → List Value
  | [] => []
  | c :: cs => .int (lo8 c) :: .int (hi8 c) :: wideBytes cs
theorem wide_lo (d : Value) : ∀ (cs : List Int32) (j : Nat), j < cs.length → (wideBytes cs).getD (2 * j) d = .int (lo8 (cs.getD j 0))
  | [], j, h => absurd h (Nat.not_lt_zero j)
  | c :: cs, 0, _ => rfl
  | c :: cs, j + 1, h => by
    have q := wide_lo d cs j (by simpa using h)
    rw [show 2 * (j + 1) = 2 * j + 1 + 1 from by omega]
    simpa [wideBytes] using q
theorem wide_hi (d : Value) : ∀ (cs : List Int32) (j : Nat), j < cs.length → (wideBytes cs).getD (2 * j + 1) d = .int (hi8 (cs.getD j 0))
  | [], j, h => absurd h (Nat.not_lt_zero j)
  | c :: cs, 0, _ => rfl
  | c :: cs, j + 1, h => by
    have q := wide_hi d cs j (by simpa using h)
    rw [show 2 * (j + 1) + 1 = 2 * j + 1 + 1 + 1 from by omega]
    simpa [wideBytes] using q
theorem low_at (d : Value) (cs : List Int32) (j : Nat) (h : j < cs.length) : (cs.map fun c => Value.int (lo8 c)).getD j d = .int (lo8 (cs.getD j 0)) := by
  simp [List.getD_eq_getElem?_getD, h]
/-- an array of N2 bytes vs codes the chars cs by the coder cd -/
def CodA (cs : List Int32) (cd N2 : Int32) (vs : List Value) : Prop := (cd = 0 ∧ N2 = Int32.ofNat cs.length ∧ vs = (cs.map fun c => Value.int (lo8 c)) ∧ ∀ c ∈ cs, ¬ 255 < c) ∨ (cd = 1 ∧ N2 = Int32.ofNat (2 * cs.length) ∧ vs = wideBytes cs ∧ ∃ c ∈ cs, 255 < c)
theorem CodA.cod {cs : List Int32} {cd N2 : Int32} {vs : List Value} {V : Cell} (h : CodA cs cd N2 vs) (hn : 2 * cs.length < 2 ^ 31) (hs : V.slots.size = N2.toNatClampNeg) (hv : RoadKit.Has V vs (.int 0)) : Cod cd cs.length (fun j => cs.getD j 0) V := by
  rcases h with ⟨rfl, rfl, rfl, h⟩ | ⟨rfl, rfl, rfl, c, hc, hw⟩
  · rw [n32 (by omega)] at hs
    exact Or.inl ⟨rfl, hs, fun j hj => ⟨by rw [hv j (by omega), low_at _ _ _ hj], by
      have e : cs.getD j 0 = cs[j] := by simp [List.getD_eq_getElem?_getD, hj]
      show ¬ 255 < cs.getD j 0
      rw [e]; exact h _ (List.getElem_mem _)⟩⟩
  · rw [n32 (by omega)] at hs
    obtain ⟨j, hj, rfl⟩ := List.getElem_of_mem hc
    exact Or.inr ⟨rfl, hs, fun j hj => ⟨by rw [hv _ (by omega), wide_lo _ _ _ hj], by rw [hv _ (by omega), wide_hi _ _ _ hj]⟩, j, hj, by
      have e : cs.getD j 0 = cs[j] := by simp [List.getD_eq_getElem?_getD, hj]
      show 255 < cs.getD j 0
      rw [e]; exact hw⟩
/-- an object of exactly java/lang/String, its two fields found: as the laws ask it -/
theorem strObj {Z U : State} {a0 : Array Value} {kI : Nat} (wi : (Jvm.Cond.instantiable ST kI).before a0 Z = true) (al : Z.vm.Alike U.vm) {x : Addr} {v0 c0 : Value} (E : RoadKit.Exa Z U.heap x ST) (V : RoadKit.Fld Z U.heap x ST "value" "[B" v0) (C : RoadKit.Fld Z U.heap x ST "coder" "B" c0) :
    ∃ (D : Cell) (fV fC : Field), Blank ST x D U ∧ Found ST "value" "[B" fV U ∧ Found ST "coder" "B" fC U ∧ D.slots[fV.slot]? = some v0 ∧ D.slots[fC.slot]? = some c0 ∧ RoadKit.slotOf Z ST "value" "[B" = fV.slot ∧ RoadKit.slotOf Z ST "coder" "B" = fC.slot := by
  obtain ⟨D, cfV, kV, iV, fV, hD, gV, stV, knV, obV, asV, slV⟩ := V
  obtain ⟨D', cfC, kC, iC, fC, hD', gC, stC, -, -, asC, slC⟩ := C
  cases hD.symm.trans hD'
  obtain ⟨D2, kD, e1, e2, e3, e4, e5⟩ := E
  cases hD.symm.trans e1
  obtain ⟨c2, k2, i1, i2, i3, -⟩ := Cond.instantiable_spec wi
  cases e2.symm.trans i1
  cases e3.symm.trans i2
  obtain ⟨kU, u1, u2⟩ := al.2.2 _ _ e3
  exact ⟨D, fV, fC, ⟨hD, ⟨knV, fun q hq => by rw [hq] at obV; cases obV⟩, by rw [al.findClass]; exact e2, kU, u1, by rw [u2]; exact i3, by rw [u2]; exact e5 i3⟩, ⟨SBG.found_only al ⟨cfV, kV, iV, gV⟩, stV⟩, ⟨SBG.found_only al ⟨cfC, kC, iC, gC⟩, stC⟩, slV, slC, by simp [RoadKit.slotOf, gV], by simp [RoadKit.slotOf, gC]⟩
end StrChars.Road
namespace StrChars
open Jvm Sem ClassFile Op Lib Jvm.Stand Jvm.Free.XT Jvm.Free.ALB Jvm.Free.JM Jvm.Free
open Jvm.Lib.Cold (StaticIs)
namespace Emp
def yN : MethodName := ⟨"java/lang/String", "isEmpty", "()Z"⟩
abbrev yB : ByteArray := jdk_42_method_55_code
theorem d0 : decode yB 0 = .ok (.aload_n 0, 1) := by decide +kernel
theorem d1 : decode yB 1 = .ok (.getfield 9, 3) := by decide +kernel
theorem d4 : decode yB 4 = .ok (.arraylength, 1) := by decide +kernel
theorem d5 : decode yB 5 = .ok (.ifCond (.ne) 7, 3) := by decide +kernel
theorem d8 : decode yB 8 = .ok (.iconst 1, 1) := by decide +kernel
theorem d9 : decode yB 9 = .ok (.goto 4, 3) := by decide +kernel
theorem d12 : decode yB 12 = .ok (.iconst 0, 1) := by decide +kernel
theorem d13 : decode yB 13 = .ok (.ireturn, 1) := by decide +kernel
def site : List Cond := [.fieldLink "java/lang/String" 9 "java/lang/String" "value" "[B"]
def tab : Cond := tabOf yN yB 1 (some .boolean) site
def P (x t : Addr) (V : Cell) (cd : Int32) (n : Nat) (f : Nat → Int32) (args : Array Value) (s : State) : Prop := args = #[.ref x] ∧ Txt x t V cd n f s
def E (n : Nat) (r : Option Value) (s u : State) : Prop := XT.PureE (some (.int (if n = 0 then 1 else 0))) r s u
/-- isEmpty() of a String of n chars -/
theorem law (l : Launch) (x t : Addr) (V : Cell) (cd : Int32) (n : Nat) (f : Nat → Int32) : Law l yN 1 0 0 0 yB 1 (some .boolean) site (P x t V cd n f) (E n) [] 0 0 := by
  refine Law.of_walk (plainFor_of_name (by decide +kernel)) (by decide +kernel) (by decide +kernel) (by decide) (fun _ _ h => by rw [h.1]; rfl) (fun _ U U' hal hh h => ⟨h.1, h.2.mv hal hh⟩) (fun r U U' V V' h1 hal h2 h => XT.PureE.mv r U U' V V' h1 hal h2 h) ?_
  intro p e s m args below meth c s₁ X0 hexec hbytes hml hret hlk hnm hown hh0 W hP
  obtain ⟨rfl, hx⟩ := hP
  have v31 := hx.2.2.2.1.2.2.2
  have c1 : Steps p.tables e below (s₁.setTop (entryFrame m #[.ref x] 1)) (s₁.setTop (mkF m 1 #[.val (.ref x)] [.ref x])) := Steps.trans (entry rfl) (by
    show Steps p.tables e below (s₁.setTop (mkF m 0 #[.val (.ref x)] [])) _
    refine XS.aloadN X0.here hexec rfl (hb hbytes d0) rfl rfl ?_
    exact Steps.refl _)
  obtain ⟨T2, X2, q2, st2⟩ := X0.hget hexec hown (wk W (.fieldLink "java/lang/String" 9 "java/lang/String" "value" "[B")) (hx.mv X0.warmed.alike hh0).2.1 (g := (mkF m 1 #[.val (.ref x)] [.ref x])) rfl (rest := []) rfl (hb hbytes d1)
  have hh2 := q2.trans hh0
  have hx2 := hx.mv X2.warmed.alike hh2
  have c3 : Steps p.tables e below (s₁.setTop (entryFrame m #[.ref x] 1)) (T2.setTop (mkF m 5 #[.val (.ref x)] [.int (Int32.ofNat V.slots.size)])) := (c1.trans (st2 _ (Steps.refl _))).trans (by
    refine X2.alen hexec hx2.2.2.2.1 rfl rfl (hb hbytes d4) ?_
    exact Steps.refl _)
  have hz : V.slots.size = 0 ↔ n = 0 := by
    rcases hx.2.2.2.2.1 with ⟨-, q, -⟩ | ⟨-, q, -⟩ <;> omega
  by_cases h0 : n = 0
  · have c4 : Steps p.tables e below (s₁.setTop (entryFrame m #[.ref x] 1)) (T2.setTop (mkF m 13 #[.val (.ref x)] [.int 1])) := c3.trans (by
      refine XS.ifNo X2.here hexec rfl (hb hbytes d5) rfl (i0_ne_f (by rw [hz.mpr h0]; rfl)) ?_
      refine iconstV X2.here hexec rfl 1 (hb hbytes d8) (by decide) ?_
      refine XS.goto X2.here hexec rfl (pc0 := 9) rfl (hb hbytes d9) (by decide) rfl ?_
      exact Steps.refl _)
    exact ⟨T2, some (.int 1), _, _, _, X2, rfl, rfl, rfl, (fun h => by cases h), ⟨by rw [if_pos h0], hh2⟩, fun fs hl => c4.trans (X2.ireturnOut hexec hret rfl (Or.inr (Or.inl rfl)) (hb hbytes d13) hl)⟩
  · have c4 : Steps p.tables e below (s₁.setTop (entryFrame m #[.ref x] 1)) (T2.setTop (mkF m 13 #[.val (.ref x)] [.int 0])) := c3.trans (by
      refine XS.ifYes X2.here hexec rfl (pc0 := 5) rfl (hb hbytes d5) rfl (i0_ne_t (nz32 v31 (by omega))) (by decide) rfl ?_
      refine iconstV X2.here hexec rfl 0 (hb hbytes d12) (by decide) ?_
      exact Steps.refl _)
    exact ⟨T2, some (.int 0), _, _, _, X2, rfl, rfl, rfl, (fun h => by cases h), ⟨by rw [if_neg h0], hh2⟩, fun fs hl => c4.trans (X2.ireturnOut hexec hret rfl (Or.inr (Or.inl rfl)) (hb hbytes d13) hl)⟩
theorem pays {l : Launch} {R : Room} {p : Program} {e : Env} {below : List Frame} {s : State} {sargs : Array Value} {len W : Nat} (x t : Addr) (V : Cell) (cd : Int32) (n : Nat) (f : Nat → Int32) (htab : tab.before sargs s = true) (hfr : 1 ≤ R.frames) (hlo : W + 12 ≤ R.locals) :
    Back l R p e below s sargs yN len W (fun A₁ a₁ => A₁.cells + 0 ≤ R.cells ∧ A₁.slots + 0 ≤ R.slots ∧ P x t V cd n f a₁ A₁.U) (fun A₁ _ v₁ B₁ => E n v₁ A₁.U B₁.U ∧ B₁.locs = A₁.locs ++ [] ∧ B₁.cells = A₁.cells + 0 ∧ B₁.slots = A₁.slots + 0) :=
  (law l x t V cd n f).pays htab hfr (by omega)
end Emp
end StrChars
namespace StrChars.Road
open Jvm Sem ClassFile Op Lib Jvm.Stand Jvm.Free Jvm.Free.XT
open Jvm.Lib.Cold (StaticIs)
/-- the words of String.isEmpty() -/
abbrev wordsEmp : List Jvm.Cond := [.code Emp.yN Emp.yB 1 (some .boolean), .initialized ST, .fieldLink ST 9 ST "value" "[B"]
theorem tabEmp_of {a : Array Value} {s : State} (h : ∀ w ∈ wordsEmp, w.before a s = true) : Emp.tab.before a s = true := unparts (wk h (.code Emp.yN Emp.yB 1 (some .boolean))) (wks h (.initialized Emp.yN.cls :: Emp.site))
theorem movedEmp {Z s : State} {a0 args : Array Value} (hZ : Z.Warmed39 s.vm) (hw : ∀ d ∈ wordsEmp, d.before a0 Z = true) : ∀ d ∈ wordsEmp, d.before args s = true := fun d hd => by
  have t : ∀ d ∈ wordsEmp, (d.onTables && d.keepsFace) = true := by decide +kernel
  exact RoadKit.mv hZ (hw d hd) (t d hd)
/-- the road's facts of a String, as the laws ask it -/
theorem txt_of {Z U : State} {a0 : Array Value} {kI : Nat} (wi : (Jvm.Cond.instantiable ST kI).before a0 Z = true) (al : Z.vm.Alike U.vm) {x t : Addr} {kb : ClassId} {cs : List Int32} {cd N2 : Int32} {vs : List Value} (E : RoadKit.Exa Z U.heap x ST) (V : RoadKit.Fld Z U.heap x ST "value" "[B" (.ref t)) (C : RoadKit.Fld Z U.heap x ST "coder" "B" (.int cd)) (K : RoadKit.Arv Z U.heap t kb .byte N2 vs (.int 0)) (hc : CodA cs cd N2 vs) (hb : ∀ c ∈ cs, ¬ c < 0 ∧ ¬ (65535 : Int32) < c) (l2 : cs.length ≤ 4000) :
    ∃ A, Txt x t A cd cs.length (fun j => cs.getD j 0) U := by
  obtain ⟨A, K1, K2, K3, K4, K5, K6⟩ := K
  have hcod := hc.cod (by omega) K3 K5
  obtain ⟨D, fV, fC, hB, F1, F2, g1, g2, -, -⟩ := strObj wi al E V C
  exact ⟨A, ⟨_, hB.2.2.1, D, hB.1, rfl, by cases q : D.vm <;> first | rfl | exact absurd q (hB.2.1.2 _)⟩, Has.of hB F1 g1, Has.of hB F2 g2, ⟨K1.1, State.isArrayOf_alike al K1.2.1, K1.2.2, by rcases hcod with ⟨-, q, -⟩ | ⟨-, q, -⟩ <;> omega⟩, hcod, fun j hj => by
    have e : cs.getD j 0 = cs[j] := by simp [List.getD_eq_getElem?_getD, hj]
    show ¬ cs.getD j 0 < 0 ∧ ¬ 65535 < cs.getD j 0
    rw [e]; exact hb _ (List.getElem_mem _)⟩
/-- **isEmpty() OF SUCH A STRING** -/
theorem empW {p : Program} {l : Launch} {e : Env} {R : Room} {s : State} {args : Array Value} {below : List Frame} {len W : Nat} {Z : State} {a0 : Array Value} {h : Heap} (hZ : Z.Warmed39 s.vm) (hw : ∀ d ∈ wordsEmp, d.before a0 Z = true) {kI : Nat} (wi : (Jvm.Cond.instantiable ST kI).before a0 Z = true)
    {x t : Addr} {kb : ClassId} {cs : List Int32} {cd N2 : Int32} {vs : List Value} (E : RoadKit.Exa Z h x ST) (V : RoadKit.Fld Z h x ST "value" "[B" (.ref t)) (C : RoadKit.Fld Z h x ST "coder" "B" (.int cd)) (K : RoadKit.Arv Z h t kb .byte N2 vs (.int 0)) (hc : CodA cs cd N2 vs) (hb : ∀ c ∈ cs, ¬ c < 0 ∧ ¬ (65535 : Int32) < c) (l2 : cs.length ≤ 4000) (hfr : 1 ≤ R.frames) (hlo : W + 12 ≤ R.locals) :
    Back l R p e below s args (⟨"java/lang/String", "isEmpty", "()Z"⟩ : MethodName) len W (fun P a => a = #[.ref x] ∧ P.U.heap = h ∧ P.cells + 0 ≤ R.cells ∧ P.slots + 0 ≤ R.slots)
      (fun P _ v B => ∃ L, (v = some (.int (if cs.length = 0 then 1 else 0)) ∧ L = [] ∧ B.U.heap = h) ∧ B.locs = P.locs ++ L ∧ B.cells = P.cells + 0 ∧ B.slots = P.slots + 0) := by
  intro m meth c P g ig mk a X hg hsize hdg hW hn hp'
  obtain ⟨rfl, rfl, r1, r2⟩ := hp'
  have al : Z.vm.Alike P.U.vm := hZ.alike.trans X.warmed.alike
  obtain ⟨A, hx⟩ := txt_of wi al E V C K hc hb l2
  obtain ⟨v, B, X', ⟨⟨hv, hh⟩, hl, hk, hs⟩, st⟩ := Emp.pays x t A cd cs.length (fun j => cs.getD j 0) (tabEmp_of (movedEmp hZ hw)) hfr hlo m meth c P g ig mk _ X hg hsize hdg hW hn ⟨r1, r2, rfl, hx⟩
  exact ⟨v, B, X', ⟨[], ⟨hv, rfl, hh⟩, hl, hk, hs⟩, st⟩
end StrChars.Road
namespace StrChars.Road
open Jvm Sem ClassFile Op Lib Jvm.Stand Jvm.Free Jvm.Free.XT
open Jvm.Lib.Cold (StaticIs)
/-- what backV says of its String, as the contracts of this text ask it: cs's low bytes, coder 0 -/
theorem codOf {cs : List Int32} {n : Nat} (hn : cs.length = n) (hb : ∀ c ∈ cs, ¬ 255 < c) : CodA cs 0 (Int32.ofNat n) ((cs.map lo8).map Value.int) := Or.inl ⟨rfl, by rw [hn], by simp [List.map_map, Function.comp_def], hb⟩
end StrChars.Road
end Jvm.Pilot.@@N@@

namespace Jvm.Pilot.@@N@@
open Jvm Jvm.ClassFile Sem Op Lib Jvm.Free Jvm.Stand Jvm.LawKit Jvm.RoadKit Bundle
namespace Own
section K1
variable {p : Program} {l : Launch} {e : Env} {R : Room} {s : State} {m : MethodId} {args : Array Value} {below : List Frame} {meth : Method} {c : Code} {y : MethodName} {bc : ByteArray} {mL : Nat} {rt : Option FieldType} {Z : State} {a0 : Array Value} {EL : List (String × Nat)} {nw : Bool} {h0 h h' : Heap} {T T' : State} {fr fr' fr0 : List Addr} {ce sl : Nat} {rm : Room} {Q : Option Value → Heap → Prop}
/-- where a walk stands: tables, heap, places freed, what may be written, what the frame's method is -/
def Wk (p : Program) (l : Launch) (e : Env) (R : Room) (s : State) (m : MethodId) (args : Array Value) (below : List Frame) (meth : Method) (c : Code) (y : MethodName) (bc : ByteArray) (mL : Nat) (rt : Option FieldType) (Z : State) (a0 : Array Value) (EL : List (String × Nat)) (nw : Bool) (h0 : Heap) (T : State) (h : Heap) (fr : List Addr) (ce sl : Nat) : Prop :=
  ∃ (vm : Vm) (k : Nat) (locs : List Loc), Stand p l e R (s.setVm vm) m args below meth c T locs ce sl ∧ T.heap = h ∧ (s.Since vm k ∧ k ≤ h.size ∧ Z.Warmed39 vm ∧ vm.findClass y.cls = some m.cls ∧ (nw = true → s.WarmedH vm)) ∧
    (EW Z a0 EL ∧ CHr Z EL s.vm h0 vm h) ∧ (Fr Z.heap.size locs ∧ Ext Z.heap h ∧ ∀ x ∈ fr, Z.heap.size ≤ x ∧ x < h.size ∧ Safe Z EL vm h x) ∧ p.tables.exec = Jvm.exec ∧ c.code = bc ∧ c.maxLocals = mL ∧ meth.sig.returnType = rt ∧ meth.locks = false ∧ meth.name = y.name
/-- how a call ends -/
def Post (Z : State) (EL : List (String × Nat)) (nw : Bool) (s : State) (h0 : Heap) (fr0 : List Addr) (Q : Option Value → Heap → Prop) (rm : Room) (o : Outcome) (U : State) : Prop :=
  ∃ v L, o = .returned v ∧ (Keep h0 U.heap fr0 ∧ Q v U.heap ∧ Fr Z.heap.size L) ∧ CHr Z EL s.vm h0 U.vm U.heap ∧ (nw = true → s.WarmedH U.vm) ∧ ReturnedEndW s o U L rm.cells rm.slots
/-- from here the body comes to its end -/
def Goes (p : Program) (e : Env) (below : List Frame) (s : State) (Z : State) (EL : List (String × Nat)) (nw : Bool) (h0 : Heap) (fr0 : List Addr) (Q : Option Value → Heap → Prop) (rm : Room) (T : State) (g : JFrame) : Prop :=
  ∃ s₂ o, Steps p.tables e below (T.setTop g) s₂ ∧ s₂.status = .running ∧ Ended s₂ below o ∧ Post Z EL nw s h0 fr0 Q rm o s₂
/-- a method's contract -/
def Met (l : Launch) (Z : State) (EL : List (String × Nat)) (nw : Bool) (y : MethodName) (bc : ByteArray) (mL : Nat) (rt : Option FieldType) (ws : List Jvm.Cond) (rm : Room) (as : Array Value) (h : Heap) (fr : List Addr) (Q : Option Value → Heap → Prop) : Prop :=
  MetFree l y (head1 (Jvm.Cond.code y bc mL rt :: ws) rm) (fun a U => a = as ∧ Z.Warmed39 U.vm ∧ U.heap = h ∧ CHv Z EL U.vm h ∧ ∀ x ∈ fr, Safe Z EL U.vm h x) (fun _ _ _ _ _ => True) (fun _ U o U' => Post Z EL nw U h fr Q rm o U')
theorem Wk.here (W : Wk p l e R s m args below meth c y bc mL rt Z a0 EL nw h0 T h fr ce sl) : At T m c below := by obtain ⟨vm, k, locs, X, -⟩ := W; exact X.here
theorem Wk.hx (W : Wk p l e R s m args below meth c y bc mL rt Z a0 EL nw h0 T h fr ce sl) : p.tables.exec = Jvm.exec := by obtain ⟨vm, k, locs, -, -, -, -, -, hx, -⟩ := W; exact hx
theorem Wk.hby (W : Wk p l e R s m args below meth c y bc mL rt Z a0 EL nw h0 T h fr ce sl) : c.code = bc := by obtain ⟨vm, k, locs, -, -, -, -, -, -, hb, -⟩ := W; exact hb
theorem Wk.hml (W : Wk p l e R s m args below meth c y bc mL rt Z a0 EL nw h0 T h fr ce sl) : c.maxLocals = mL := by obtain ⟨vm, k, locs, -, -, -, -, -, -, -, hb, -⟩ := W; exact hb
theorem Wk.ext (W : Wk p l e R s m args below meth c y bc mL rt Z a0 EL nw h0 T h fr ce sl) : Ext Z.heap h := by obtain ⟨vm, k, locs, -, -, -, -, ⟨-, q, -⟩, -⟩ := W; exact q
theorem Wk.frs (W : Wk p l e R s m args below meth c y bc mL rt Z a0 EL nw h0 T h fr ce sl) : ∀ x ∈ fr, Z.heap.size ≤ x ∧ x < h.size := by obtain ⟨vm, k, locs, -, -, -, -, ⟨-, -, q⟩, -⟩ := W; exact fun x hx => ⟨(q x hx).1, (q x hx).2.1⟩
theorem Wk.ew (W : Wk p l e R s m args below meth c y bc mL rt Z a0 EL nw h0 T h fr ce sl) : EW Z a0 EL := by obtain ⟨vm, k, locs, -, -, -, ⟨q, -⟩, -⟩ := W; exact q
theorem Wk.less (W : Wk p l e R s m args below meth c y bc mL rt Z a0 EL nw h0 T h fr ce sl) (q : ∀ x ∈ fr', x ∈ fr) : Wk p l e R s m args below meth c y bc mL rt Z a0 EL nw h0 T h fr' ce sl := by
  obtain ⟨vm, k, locs, X, w1, w2, w3, ⟨w4, w5, w6⟩, w7⟩ := W
  exact ⟨vm, k, locs, X, w1, w2, w3, ⟨w4, w5, fun x hx => w6 x (q x hx)⟩, w7⟩
theorem Wk.more {ce' sl' : Nat} (W : Wk p l e R s m args below meth c y bc mL rt Z a0 EL nw h0 T h fr ce sl) (q1 : ce ≤ ce') (q2 : sl ≤ sl') : Wk p l e R s m args below meth c y bc mL rt Z a0 EL nw h0 T h fr ce' sl' := by
  obtain ⟨vm, k, locs, X, w1⟩ := W
  exact ⟨vm, k, locs, X.more q1 q2, w1⟩
theorem Goes.step {g g' : JFrame} (st : ∀ t, Steps p.tables e below (T'.setTop g') t → Steps p.tables e below (T.setTop g) t) (K : Goes p e below s Z EL nw h0 fr0 Q rm T' g') : Goes p e below s Z EL nw h0 fr0 Q rm T g := by
  obtain ⟨s2, o, q1, q2⟩ := K; exact ⟨s2, o, st _ q1, q2⟩
theorem Goes.cast {g g' : JFrame} (q : g = g') (K : Goes p e below s Z EL nw h0 fr0 Q rm T g') : Goes p e below s Z EL nw h0 fr0 Q rm T g := q ▸ K
theorem Met.intro {ws : List Jvm.Cond} {as : Array Value} (hn : plainFor y = true) (hEL : EW Z a0 EL) (hX : Ext Z.heap h) (hfr : ∀ x ∈ fr, Z.heap.size ≤ x ∧ x < h.size)
    (body : ∀ p e s m below meth c T, Wk p l e rm s m as below meth c y bc mL rt Z a0 EL nw h T h fr 0 0 → Goes p e below s Z EL nw h fr Q rm T (entryFrame m as mL)) : Met l Z EL nw y bc mL rt ws rm as h fr Q := by
  refine MetFree.of_bodySF hn hisR ?_
  intro p e s m args below meth c s₁ Bd hml hP hK
  obtain ⟨rfl, hZ, hh, hC, hS⟩ := hP
  have e0 : s₁.heap = h := by rw [← hh, Bd.state]; rfl
  have hX0 : Stand p l e rm s m args below meth c s₁ [] 0 0 := Stand.of_body Bd
  exact body p e s m below meth c s₁ ⟨s.vm, 0, [], hX0, e0, ⟨(State.WarmedH.refl s).since 0, Nat.zero_le _, hZ, findClass_of_methodNamed Bd.named, fun _ => State.WarmedH.refl s⟩, ⟨hEL, CHr.refl hC⟩, ⟨Fr.nil _, hX, fun x hx => ⟨(hfr x hx).1, (hfr x hx).2, hS x hx⟩⟩, Bd.exec, Bd.bytes, hml, Bd.returns, Bd.notSynchronized, (name_of_methodNamed Bd.named Bd.method).1⟩
/-- the end -/
theorem fin {pc : Nat} {L : Array Slot} {S : List Value} {v : Option Value} (W : Wk p l e R s m args below meth c y bc mL rt Z a0 EL nw h0 T h fr ce sl) (hv : rt = none → v = none) (hK : Keep h0 h fr0) (hQ : Q v h) (hc : ce ≤ rm.cells) (hs : sl ≤ rm.slots)
    (st : ∀ locs vm, Stand p l e R (s.setVm vm) m args below meth c T locs ce sl → meth.sig.returnType = rt → ∀ fs : List Frame, (∀ (f : JFrame) (acts : List Action), f.method = m → f.locked = none → f.entered = [] → (doReturn e (T.setTop f) acts v).1 = T.setFrames fs) → Steps p.tables e below (T.setTop (mkF m pc L S)) (T.setFrames fs)) :
    Goes p e below s Z EL nw h0 fr0 Q rm T (mkF m pc L S) := by
  obtain ⟨vm, k, locs, X, eT, ⟨a1, a2, a3, a4, a5⟩, ⟨b1, b2⟩, ⟨d1, d2, d3⟩, hx, hby, hml, hrt, hlk, hnm⟩ := W
  subst eT
  obtain ⟨fs, q1, q2, q3, q4⟩ := X.leaveW a1 a2 (v := v) (fun z => hv (hrt.symm.trans z)) hlk
  refine ⟨_, _, st locs vm X hrt fs q1, q2, q3, v, locs, rfl, ⟨hK, hQ, d1⟩, ?_, fun z => ?_, q4.1, q4.2.1, q4.2.2.1, q4.2.2.2.mono hc hs⟩
  · show CHr Z EL s.vm h0 T.vm T.heap
    exact b2.trans (CHv.at X a3 b1 b2.1)
  · show s.WarmedH T.vm
    exact State.WarmedH.trans (t := s.setVm vm) (a5 z) X.warmed
theorem g_return {pc : Nat} {L : Array Slot} (W : Wk p l e R s m args below meth c y bc mL none Z a0 EL nw h0 T h fr ce sl) (hd : decode bc pc = .ok (.return_, 1)) (hK : Keep h0 h fr0) (hQ : Q none h) (hc : ce ≤ rm.cells) (hs : sl ≤ rm.slots) : Goes p e below s Z EL nw h0 fr0 Q rm T (mkF m pc L []) :=
  fin W (fun _ => rfl) hK hQ hc hs fun locs vm X hrt fs q => X.returnOut W.hx hrt (hb W.hby hd) q
theorem g_areturn {pc : Nat} {L : Array Slot} {S : List Value} {w : Value} {t : FieldType} (W : Wk p l e R s m args below meth c y bc mL (some t) Z a0 EL nw h0 T h fr ce sl) (hd : decode bc pc = .ok (.areturn, 1)) (ht : t.isReference = true) (hw : w.isRef = true) (hn : narrow t w = w) (hK : Keep h0 h fr0) (hQ : Q (some w) h) (hc : ce ≤ rm.cells) (hs : sl ≤ rm.slots) : Goes p e below s Z EL nw h0 fr0 Q rm T (mkF m pc L (w :: S)) :=
  fin W (fun z => nomatch z) hK hQ hc hs fun locs vm X hrt fs q => retOut X W.hx hrt hn (Or.inr (Or.inr (Or.inr (Or.inr ⟨rfl, ht, hw⟩)))) (hb W.hby hd) q
theorem g_ireturn {pc : Nat} {L : Array Slot} {S : List Value} {z : Int32} {t : FieldType} (W : Wk p l e R s m args below meth c y bc mL (some t) Z a0 EL nw h0 T h fr ce sl) (hd : decode bc pc = .ok (.ireturn, 1)) (ht : t = .int ∨ t = .boolean ∨ t = .byte ∨ t = .char ∨ t = .short) (hn : narrow t (.int z) = .int z) (hK : Keep h0 h fr0) (hQ : Q (some (.int z)) h) (hc : ce ≤ rm.cells) (hs : sl ≤ rm.slots) : Goes p e below s Z EL nw h0 fr0 Q rm T (mkF m pc L (.int z :: S)) :=
  fin W (fun z => nomatch z) hK hQ hc hs fun locs vm X hrt fs q => retOut X W.hx hrt hn (Or.inl ⟨rfl, ht, z, rfl⟩) (hb W.hby hd) q
theorem g_ireturnN {pc : Nat} {L : Array Slot} {S : List Value} {z : Int32} {t : FieldType} (W : Wk p l e R s m args below meth c y bc mL (some t) Z a0 EL nw h0 T h fr ce sl) (hd : decode bc pc = .ok (.ireturn, 1)) (ht : t = .boolean ∨ t = .byte ∨ t = .char ∨ t = .short) (hK : Keep h0 h fr0) (hQ : Q (some (.int (RoadKit.nar t z))) h) (hc : ce ≤ rm.cells) (hs : sl ≤ rm.slots) : Goes p e below s Z EL nw h0 fr0 Q rm T (mkF m pc L (.int z :: S)) :=
  fin W (fun z => nomatch z) hK hQ hc hs fun locs vm X hrt fs q => retN X W.hx hrt ht (hb W.hby hd) q
/-- a step that writes nothing of the heap: a new Stand at the same heap -/
theorem Wk.same {T' : State} (W : Wk p l e R s m args below meth c y bc mL rt Z a0 EL nw h0 T h fr ce sl) (q : ∀ vm locs, Z.Warmed39 vm → vm.findClass y.cls = some m.cls → Stand p l e R (s.setVm vm) m args below meth c T locs ce sl → Stand p l e R (s.setVm vm) m args below meth c T' locs ce sl) (e' : T'.heap = h) : Wk p l e R s m args below meth c y bc mL rt Z a0 EL nw h0 T' h fr ce sl := by
  obtain ⟨vm, k, locs, X, eT, w2, w3, w4, w5⟩ := W
  exact ⟨vm, k, locs, q vm locs w2.2.2.1 w2.2.2.2.1 X, e', w2, w3, w4, w5⟩
theorem g_getfield (W : Wk p l e R s m args below meth c y bc mL rt Z a0 EL nw h0 T h fr ce sl) {R0 O n d host : String} {index pc pc' : Nat} {L : Array Slot} {S : List Value} {a : Addr} {v : Value} (hd : decode bc pc = .ok (.getfield index, 3)) (hp : pc + 3 = pc') (w : (Jvm.Cond.fieldLink y.cls index R0 n d).before a0 Z = true ∨ (Jvm.Cond.fieldLinkNest y.cls index R0 n d host).before a0 Z = true) (via : Via Z R0 O n d) (F : Fld Z h a O n d v)
    (K : ∀ T', Wk p l e R s m args below meth c y bc mL rt Z a0 EL nw h0 T' h fr ce sl → Goes p e below s Z EL nw h0 fr0 Q rm T' (mkF m pc' L (v :: S))) : Goes p e below s Z EL nw h0 fr0 Q rm T (mkF m pc L (.ref a :: S)) := by
  have hx := W.hx
  have hby := W.hby
  obtain ⟨vm, k, locs, X, eT, w2, w3, w4, w5⟩ := W
  subst hp
  obtain ⟨T', X', e', st⟩ := getF X hx w2.2.2.1 (own := y.cls) w2.2.2.2.1 w via eT F (g := mkF m pc L (.ref a :: S)) rfl rfl (hb hby hd)
  exact Goes.step st (K T' ⟨vm, k, locs, X', e', w2, w3, w4, w5⟩)
theorem g_getstatic (W : Wk p l e R s m args below meth c y bc mL rt Z a0 EL nw h0 T h fr ce sl) {R0 O n d : String} {index pc pc' : Nat} {L : Array Slot} {S : List Value} {v : Value} (hd : decode bc pc = .ok (.getstatic index, 3)) (hp : pc + 3 = pc') (w : (Jvm.Cond.fieldLink y.cls index R0 n d).before a0 Z = true) (via : Via Z R0 O n d) (F : Sta Z Z.heap O n d v)
    (K : ∀ T', Wk p l e R s m args below meth c y bc mL rt Z a0 EL nw h0 T' h fr ce sl → Goes p e below s Z EL nw h0 fr0 Q rm T' (mkF m pc' L (v :: S))) : Goes p e below s Z EL nw h0 fr0 Q rm T (mkF m pc L S) := by
  have hx := W.hx
  have hby := W.hby
  have hE := W.ext
  obtain ⟨vm, k, locs, X, eT, w2, w3, w4, w5⟩ := W
  subst hp
  obtain ⟨T', X', e', st⟩ := getS X hx w2.2.2.1 (own := y.cls) (host := "") w2.2.2.2.1 w via eT (F.ext hE) (g := mkF m pc L S) rfl (hb hby hd)
  exact Goes.step st (K T' ⟨vm, k, locs, X', e', w2, w3, w4, w5⟩)
theorem g_checkcast (W : Wk p l e R s m args below meth c y bc mL rt Z a0 EL nw h0 T h fr ce sl) {K0 : String} {index pc pc' : Nat} {L : Array Slot} {S : List Value} {a : Addr} (hd : decode bc pc = .ok (.checkcast index, 3)) (hp : pc + 3 = pc') (w : (Jvm.Cond.classLink y.cls index K0).before a0 Z = true) (F : Ins Z h a K0 true)
    (K : ∀ T', Wk p l e R s m args below meth c y bc mL rt Z a0 EL nw h0 T' h fr ce sl → Goes p e below s Z EL nw h0 fr0 Q rm T' (mkF m pc' L (.ref a :: S))) : Goes p e below s Z EL nw h0 fr0 Q rm T (mkF m pc L (.ref a :: S)) := by
  have hx := W.hx
  have hby := W.hby
  obtain ⟨vm, k, locs, X, eT, w2, w3, w4, w5⟩ := W
  subst hp
  obtain ⟨T', X', e', st⟩ := castY X hx w2.2.2.1 (own := y.cls) w2.2.2.2.1 w eT F (g := mkF m pc L (.ref a :: S)) rfl rfl (hb hby hd)
  exact Goes.step st (K T' ⟨vm, k, locs, X', e', w2, w3, w4, w5⟩)
theorem g_instY (W : Wk p l e R s m args below meth c y bc mL rt Z a0 EL nw h0 T h fr ce sl) {K0 : String} {index pc pc' : Nat} {L : Array Slot} {S : List Value} {a : Addr} (hd : decode bc pc = .ok (.instanceof index, 3)) (hp : pc + 3 = pc') (w : (Jvm.Cond.classLink y.cls index K0).before a0 Z = true) (F : Ins Z h a K0 true)
    (K : ∀ T', Wk p l e R s m args below meth c y bc mL rt Z a0 EL nw h0 T' h fr ce sl → Goes p e below s Z EL nw h0 fr0 Q rm T' (mkF m pc' L (.int 1 :: S))) : Goes p e below s Z EL nw h0 fr0 Q rm T (mkF m pc L (.ref a :: S)) := by
  have hx := W.hx
  have hby := W.hby
  obtain ⟨vm, k, locs, X, eT, w2, w3, w4, w5⟩ := W
  subst hp
  obtain ⟨T', X', e', st⟩ := instY X hx w2.2.2.1 (own := y.cls) w2.2.2.2.1 w eT F (g := mkF m pc L (.ref a :: S)) rfl rfl (hb hby hd)
  exact Goes.step st (K T' ⟨vm, k, locs, X', e', w2, w3, w4, w5⟩)
theorem g_initO (W : Wk p l e R s m args below meth c y bc mL rt Z a0 EL nw h0 T h fr ce sl) {idx pc pc' Wd : Nat} {L : Array Slot} {S : List Value} {a : Addr} (hd : decode bc pc = .ok (.invokespecial idx, 3)) (hp : pc + 3 = pc') (w1 : (Jvm.Cond.methodLink y.cls idx Lib.objectInit).before a0 Z = true) (w2 : (Jvm.Cond.instanceMethod Lib.objectInit).before a0 Z = true) (w3 : (Jvm.Cond.code Lib.objectInit ⟨#[0xb1]⟩ 1 none).before a0 Z = true)
    (hL : L.size = mL) (hW : (S.map fun v => v.category).sum = Wd) (hf : 1 ≤ R.frames) (hl : Wd + 12 ≤ R.locals)
    (K : ∀ T', Wk p l e R s m args below meth c y bc mL rt Z a0 EL nw h0 T' h fr ce sl → Goes p e below s Z EL nw h0 fr0 Q rm T' (mkF m pc' L S)) : Goes p e below s Z EL nw h0 fr0 Q rm T (mkF m pc L (.ref a :: S)) := by
  have hx := W.hx
  have hby := W.hby
  have hml := W.hml
  obtain ⟨vm, k, locs, X, eT, q2, q3, q4, q5⟩ := W
  subst hp
  obtain ⟨T', X', e', st⟩ := initO X hx q2.2.2.1 (own := y.cls) q2.2.2.2.1 w1 w2 w3 eT (g := mkF m pc L (.ref a :: S)) rfl (by rw [hml]; exact hL) rfl (hb hby hd) hf (W := Wd) (by show 2 * 0 + _ ≤ _; rw [hW]; exact Nat.le_of_eq (Nat.zero_add _)) hl
  exact Goes.step st (K T' ⟨vm, k, locs, X', e', q2, q3, q4, q5⟩)
/-- a fresh place may be written -/
theorem g_new (W : Wk p l e R s m args below meth c y bc mL rt Z a0 EL nw h0 T h fr ce sl) {C : String} {index n pc pc' : Nat} {L : Array Slot} {S : List Value} (hd : decode bc pc = .ok (.new index, 3)) (hp : pc + 3 = pc') (w : (Jvm.Cond.classLink y.cls index C).before a0 Z = true) (wi : (Jvm.Cond.instantiable C n).before a0 Z = true) (wz : (Jvm.Cond.initialized C).before a0 Z = true) (hc : ce + 1 ≤ R.cells) (hs : sl + n ≤ R.slots)
    (K : ∀ T' h' a, a = h.size → Wk p l e R s m args below meth c y bc mL rt Z a0 EL nw h0 T' h' (a :: fr) (ce + 1) (sl + n) → Ext h h' → Exa Z h' a C → (∀ {O nm d : String} {ty : FieldType}, Laid Z a0 C O nm d → parseFieldDescriptor d = some ty → Fld Z h' a O nm d (defaultValue ty)) → Goes p e below s Z EL nw h0 fr0 Q rm T' (mkF m pc' L (.ref a :: S))) : Goes p e below s Z EL nw h0 fr0 Q rm T (mkF m pc L S) := by
  have hx := W.hx
  have hby := W.hby
  have hE := W.ext
  obtain ⟨vm, k, locs, X, eT, q2, q3, q4, q5⟩ := W
  subst hp
  obtain ⟨T', h', X', e', E, A, D, -, st⟩ := newO X hx q2.2.2.1 (own := y.cls) q2.2.2.2.1 w wi wz eT (g := mkF m pc L S) rfl (hb hby hd) hc hs
  refine Goes.step st (K T' h' _ rfl ⟨vm, k, locs, X', e', ⟨q2.1, Nat.le_trans q2.2.1 E.1, q2.2.2⟩, ⟨q3.1, q3.2.trans (CHr.ext E q3.2.1)⟩, ⟨q4.1, ⟨Nat.le_trans hE.1 E.1, fun a c q => E.2 a c (hE.2 a c q)⟩, fun x hx => ?_⟩, q5⟩ E A D)
  rcases List.mem_cons.mp hx with rfl | hx
  · exact ⟨hE.1, A.lt, (Safe.new (Nat.le_refl _)).ext E q3.2.1⟩
  · exact ⟨(q4.2.2 x hx).1, Nat.lt_of_lt_of_le (q4.2.2 x hx).2.1 E.1, (q4.2.2 x hx).2.2.ext E q3.2.1⟩
theorem g_newarray (W : Wk p l e R s m args below meth c y bc mL rt Z a0 EL nw h0 T h fr ce sl) {aty : ArrayType} {pc pc' cap : Nat} {L : Array Slot} {S : List Value} {n : Int32} (hd : decode bc pc = .ok (.newarray aty, 2)) (hp : pc + 2 = pc') (w : (Jvm.Cond.arrayClass (newarray.typeOf aty)).before a0 Z = true) (hn : ¬ n < 0) (hcap : n.toNatClampNeg ≤ cap) (hbig : cap * 8 ≤ 536870912) (hc : ce + 1 ≤ R.cells) (hs : sl + cap ≤ R.slots)
    (K : ∀ T' h' a kA, a = h.size → Wk p l e R s m args below meth c y bc mL rt Z a0 EL nw h0 T' h' (a :: fr) (ce + 1) (sl + cap) → Ext h h' → Arv Z h' a kA (newarray.typeOf aty) n [] (defaultValue (newarray.typeOf aty)) → Goes p e below s Z EL nw h0 fr0 Q rm T' (mkF m pc' L (.ref a :: S))) : Goes p e below s Z EL nw h0 fr0 Q rm T (mkF m pc L (.int n :: S)) := by
  have hx := W.hx
  have hby := W.hby
  have hE := W.ext
  obtain ⟨vm, k, locs, X, eT, q2, q3, q4, q5⟩ := W
  subst hp
  obtain ⟨T', h', kA, X', e', E, A, st⟩ := newP X hx q2.2.2.1 w eT (g := mkF m pc L (.int n :: S)) rfl (hb hby hd) rfl hn hcap hbig hc hs
  refine Goes.step st (K T' h' _ kA rfl ⟨vm, k, locs, X', e', ⟨q2.1, Nat.le_trans q2.2.1 E.1, q2.2.2⟩, ⟨q3.1, q3.2.trans (CHr.ext E q3.2.1)⟩, ⟨q4.1, ⟨Nat.le_trans hE.1 E.1, fun a c q => E.2 a c (hE.2 a c q)⟩, fun x hx => ?_⟩, q5⟩ E (Arv.new A hn))
  rcases List.mem_cons.mp hx with rfl | hx
  · exact ⟨hE.1, A.lt, (Safe.new (Nat.le_refl _)).ext E q3.2.1⟩
  · exact ⟨(q4.2.2 x hx).1, Nat.lt_of_lt_of_le (q4.2.2 x hx).2.1 E.1, (q4.2.2 x hx).2.2.ext E q3.2.1⟩
/-- behind one write -/
theorem Wk.wrote {vm : Vm} {k : Nat} {locs : List Loc} {a : Addr} {j : Nat} {v : Value} (hm : a ∈ fr) (Wr0 : Wr h h' a j v)
    (X' : Stand p l e R (s.setVm vm) m args below meth c T' (locs ++ [⟨a, j⟩]) ce sl) (e' : T'.heap = h') (q2 : s.Since vm k ∧ k ≤ h.size ∧ Z.Warmed39 vm ∧ vm.findClass y.cls = some m.cls ∧ (nw = true → s.WarmedH vm)) (q3 : EW Z a0 EL ∧ CHr Z EL s.vm h0 vm h) (q4 : Fr Z.heap.size locs ∧ Ext Z.heap h ∧ ∀ x ∈ fr, Z.heap.size ≤ x ∧ x < h.size ∧ Safe Z EL vm h x) (q5 : p.tables.exec = Jvm.exec ∧ c.code = bc ∧ c.maxLocals = mL ∧ meth.sig.returnType = rt ∧ meth.locks = false ∧ meth.name = y.name) :
    Wk p l e R s m args below meth c y bc mL rt Z a0 EL nw h0 T' h' fr ce sl := by
  have hS := (q4.2.2 a hm).2.2
  have K0 := Keep.of_wr Wr0
  exact ⟨vm, k, _, X', e', ⟨q2.1, Nat.le_trans q2.2.1 K0.1, q2.2.2⟩, ⟨q3.1, q3.2.trans (CHr.wr Wr0 hS q3.2.1)⟩, ⟨Fr.snoc X' q4.1 (q4.2.2 a hm).1, ((show Old Z Z.heap.size h from ⟨rfl, q4.2.1⟩).wr Wr0 (q4.2.2 a hm).1).2, fun x hx => ⟨(q4.2.2 x hx).1, Nat.lt_of_lt_of_le (q4.2.2 x hx).2.1 K0.1, Safe.wr Wr0 hS q3.2.1 (q4.2.2 x hx).2.2⟩⟩, q5⟩
theorem g_putfield (W : Wk p l e R s m args below meth c y bc mL rt Z a0 EL nw h0 T h fr ce sl) {R0 O n d host C : String} {index kk pc pc' : Nat} {ty : FieldType} {L : Array Slot} {S : List Value} {a : Addr} {v old : Value} (hd : decode bc pc = .ok (.putfield index, 3)) (hp : pc + 3 = pc') (w : (Jvm.Cond.fieldLink y.cls index R0 n d).before a0 Z = true ∨ (Jvm.Cond.fieldLinkNest y.cls index R0 n d host).before a0 Z = true) (via : Via Z R0 O n d) (F : Fld Z h a O n d old) (E : Exa Z h a C)
    (Lw : (Jvm.Cond.lays C O n d).before a0 Z = true ∨ ((Jvm.Cond.laysFinal C O n d).before a0 Z = true ∧ y.cls = O ∧ y.name = "<init>")) (wi : (Jvm.Cond.instantiable C kk).before a0 Z = true) (hty : parseFieldDescriptor d = some ty) (hn : narrow ty v = v) (hf : fits ty v = true) (hm : a ∈ fr)
    (K : ∀ T' h', Wk p l e R s m args below meth c y bc mL rt Z a0 EL nw h0 T' h' fr ce sl → Wr h h' a (RoadKit.slotOf Z O n d) v → Goes p e below s Z EL nw h0 fr0 Q rm T' (mkF m pc' L S)) : Goes p e below s Z EL nw h0 fr0 Q rm T (mkF m pc L (v :: .ref a :: S)) := by
  have hx := W.hx
  have hby := W.hby
  obtain ⟨vm, k, locs, X, eT, q2, q3, q4, q5⟩ := W
  subst hp
  obtain ⟨T', h', X', e', W', st⟩ := putF X hx q2.2.2.1 (own := y.cls) q2.2.2.2.1 w via eT F E (Lw.imp id fun z => ⟨z.1, z.2.1, q5.2.2.2.2.2.trans z.2.2⟩) wi hty hn hf (g := mkF m pc L (v :: .ref a :: S)) rfl rfl (hb hby hd)
  exact Goes.step st (K T' h' (Wk.wrote hm W' X' e' q2 q3 q4 q5) W')
theorem g_castore (W : Wk p l e R s m args below meth c y bc mL rt Z a0 EL nw h0 T h fr ce sl) {pc pc' i : Nat} {kA : ClassId} {L : Array Slot} {S : List Value} {a : Addr} {j x x' n : Int32} {vs : List Value} {dv : Value} (hd : decode bc pc = .ok (.castore, 1)) (hp : pc + 1 = pc') (hx' : RoadKit.nar .char x = x') (A : Arv Z h a kA .char n vs dv) (hj : ¬ j < 0 ∧ j < n) (hi : j.toNatClampNeg = i) (hl : i < vs.length) (hm : a ∈ fr)
    (K : ∀ T' h', Wk p l e R s m args below meth c y bc mL rt Z a0 EL nw h0 T' h' fr ce sl → Wr h h' a j.toNatClampNeg (.int x') → Arv Z h' a kA .char n (vs.set i (.int x')) dv → Goes p e below s Z EL nw h0 fr0 Q rm T' (mkF m pc' L S)) : Goes p e below s Z EL nw h0 fr0 Q rm T (mkF m pc L (.int x :: .int j :: .ref a :: S)) := by
  have hx := W.hx
  have hby := W.hby
  obtain ⟨vm, k, locs, X, eT, q2, q3, q4, q5⟩ := W
  subst hp hx'
  obtain ⟨cl, A1, A2, A3, A4, A5, A6⟩ := A
  obtain ⟨T', h', X', e', W', st⟩ := stC X hx q2.2.2.1 eT A1 (j := j) (x := x) (inb_of A3 hj) (g := mkF m pc L (.int x :: .int j :: .ref a :: S)) rfl rfl (hb hby hd)
  exact Goes.step st (K T' h' (Wk.wrote hm W' X' e' q2 q3 q4 q5) W' (Arv.set A1 A2 A3 A4 A5 A6 (fits_nar_char _) W' i hi hl))
theorem g_bastore (W : Wk p l e R s m args below meth c y bc mL rt Z a0 EL nw h0 T h fr ce sl) {pc pc' i : Nat} {kA : ClassId} {L : Array Slot} {S : List Value} {a : Addr} {j x x' n : Int32} {vs : List Value} {dv : Value} (hd : decode bc pc = .ok (.bastore, 1)) (hp : pc + 1 = pc') (hx' : RoadKit.nar .byte x = x') (A : Arv Z h a kA .byte n vs dv) (hj : ¬ j < 0 ∧ j < n) (hi : j.toNatClampNeg = i) (hl : i < vs.length) (hm : a ∈ fr)
    (K : ∀ T' h', Wk p l e R s m args below meth c y bc mL rt Z a0 EL nw h0 T' h' fr ce sl → Wr h h' a j.toNatClampNeg (.int x') → Arv Z h' a kA .byte n (vs.set i (.int x')) dv → Goes p e below s Z EL nw h0 fr0 Q rm T' (mkF m pc' L S)) : Goes p e below s Z EL nw h0 fr0 Q rm T (mkF m pc L (.int x :: .int j :: .ref a :: S)) := by
  have hx := W.hx
  have hby := W.hby
  obtain ⟨vm, k, locs, X, eT, q2, q3, q4, q5⟩ := W
  subst hp hx'
  obtain ⟨cl, A1, A2, A3, A4, A5, A6⟩ := A
  obtain ⟨T', h', X', e', W', st⟩ := stB X hx q2.2.2.1 eT A1 (j := j) (x := x) (inb_of A3 hj) (g := mkF m pc L (.int x :: .int j :: .ref a :: S)) rfl rfl (hb hby hd)
  exact Goes.step st (K T' h' (Wk.wrote hm W' X' e' q2 q3 q4 q5) W' (Arv.set A1 A2 A3 A4 A5 A6 (fits_nar_byte _) W' i hi hl))
theorem g_arraylength (W : Wk p l e R s m args below meth c y bc mL rt Z a0 EL nw h0 T h fr ce sl) {pc pc' : Nat} {kA : ClassId} {ty : FieldType} {L : Array Slot} {S vs : List Value} {a : Addr} {n : Int32} {dv : Value} (hd : decode bc pc = .ok (.arraylength, 1)) (hp : pc + 1 = pc') (A : Arv Z h a kA ty n vs dv) (K : Goes p e below s Z EL nw h0 fr0 Q rm T (mkF m pc' L (.int n :: S))) : Goes p e below s Z EL nw h0 fr0 Q rm T (mkF m pc L (.ref a :: S)) := by
  have hx := W.hx
  have hby := W.hby
  obtain ⟨vm, k, locs, X, eT, q2, q3, q4, q5⟩ := W
  subst hp
  obtain ⟨cl, A1, A2, A3, A4, A5, A6⟩ := A
  refine Goes.step (fun t q => X.arraylength hx (by rw [eT]; exact A1.1) (State.isArrayOf_alike q2.2.2.1.alike A1.2.1) (g := mkF m pc L (.ref a :: S)) rfl rfl (hb hby hd) t ?_) K
  rw [len_of A3 A4]; exact q
theorem g_caload (W : Wk p l e R s m args below meth c y bc mL rt Z a0 EL nw h0 T h fr ce sl) {pc pc' : Nat} {kA : ClassId} {L : Array Slot} {S vs : List Value} {a : Addr} {n j : Int32} {dv v : Value} (hd : decode bc pc = .ok (.caload, 1)) (hp : pc + 1 = pc') (A : Arv Z h a kA .char n vs dv) (hj : ¬ j < 0 ∧ j < n) (hv : vs.getD j.toNatClampNeg dv = v) (K : Goes p e below s Z EL nw h0 fr0 Q rm T (mkF m pc' L (v :: S))) : Goes p e below s Z EL nw h0 fr0 Q rm T (mkF m pc L (.int j :: .ref a :: S)) := by
  have hx := W.hx
  have hby := W.hby
  obtain ⟨vm, k, locs, X, eT, q2, q3, q4, q5⟩ := W
  subst hp
  obtain ⟨cl, A1, A2, A3, A4, A5, A6⟩ := A
  exact Goes.step (fun t q => X.caload hx (j := j) (v := v) (by rw [eT]; exact A1.1) (State.isArrayOf_alike q2.2.2.1.alike A1.2.1) A1.2.2 (inb_of A3 hj) (A5.at (inb_of A3 hj) hv) (g := mkF m pc L (.int j :: .ref a :: S)) rfl rfl (hb hby hd) t q) K
theorem g_baload (W : Wk p l e R s m args below meth c y bc mL rt Z a0 EL nw h0 T h fr ce sl) {pc pc' : Nat} {kA : ClassId} {L : Array Slot} {S vs : List Value} {a : Addr} {n j : Int32} {dv v : Value} (hd : decode bc pc = .ok (.baload, 1)) (hp : pc + 1 = pc') (A : Arv Z h a kA .byte n vs dv) (hj : ¬ j < 0 ∧ j < n) (hv : vs.getD j.toNatClampNeg dv = v) (K : Goes p e below s Z EL nw h0 fr0 Q rm T (mkF m pc' L (v :: S))) : Goes p e below s Z EL nw h0 fr0 Q rm T (mkF m pc L (.int j :: .ref a :: S)) := by
  have hx := W.hx
  have hby := W.hby
  obtain ⟨vm, k, locs, X, eT, q2, q3, q4, q5⟩ := W
  subst hp
  obtain ⟨cl, A1, A2, A3, A4, A5, A6⟩ := A
  exact Goes.step (fun t q => X.baloadBytes hx (j := j) (v := v) (by rw [eT]; exact A1.1) (State.isArrayOf_alike q2.2.2.1.alike A1.2.1) A1.2.2 (inb_of A3 hj) (A5.at (inb_of A3 hj) hv) (g := mkF m pc L (.int j :: .ref a :: S)) rfl rfl (hb hby hd) t q) K
theorem g_aaload (W : Wk p l e R s m args below meth c y bc mL rt Z a0 EL nw h0 T h fr ce sl) {pc pc' : Nat} {kA : ClassId} {ty : FieldType} {L : Array Slot} {S vs : List Value} {a : Addr} {n j : Int32} {dv v : Value} (hd : decode bc pc = .ok (.aaload, 1)) (hp : pc + 1 = pc') (A : Arv Z h a kA ty n vs dv) (hty : ty.isReference = true) (hj : ¬ j < 0 ∧ j < n) (hv : vs.getD j.toNatClampNeg dv = v) (K : Goes p e below s Z EL nw h0 fr0 Q rm T (mkF m pc' L (v :: S))) : Goes p e below s Z EL nw h0 fr0 Q rm T (mkF m pc L (.int j :: .ref a :: S)) := by
  have hx := W.hx
  have hby := W.hby
  obtain ⟨vm, k, locs, X, eT, q2, q3, q4, q5⟩ := W
  subst hp
  obtain ⟨cl, A1, A2, A3, A4, A5, A6⟩ := A
  exact Goes.step (fun t q => X.aaload hx (j := j) (v := v) (by rw [eT]; exact A1.1) (State.isArrayOf_alike q2.2.2.1.alike A1.2.1) hty A1.2.2 (inb_of A3 hj) (A5.at (inb_of A3 hj) hv) (g := mkF m pc L (.int j :: .ref a :: S)) rfl rfl (hb hby hd) t q) K
theorem g_irem (W : Wk p l e R s m args below meth c y bc mL rt Z a0 EL nw h0 T h fr ce sl) {pc pc' : Nat} {L : Array Slot} {S : List Value} {x z : Int32} (hd : decode bc pc = .ok (.irem, 1)) (hp : pc + 1 = pc') (hz : z ≠ 0) (K : Goes p e below s Z EL nw h0 fr0 Q rm T (mkF m pc' L (.int (x % z) :: S))) : Goes p e below s Z EL nw h0 fr0 Q rm T (mkF m pc L (.int z :: .int x :: S)) := by
  have hx := W.hx
  have hby := W.hby
  obtain ⟨vm, k, locs, X, -⟩ := W
  subst hp
  exact Goes.step (fun t q => iremM X hx (g := mkF m pc L (.int z :: .int x :: S)) rfl (hb hby hd) rfl hz q) K
theorem g_ldcI (W : Wk p l e R s m args below meth c y bc mL rt Z a0 EL nw h0 T h fr ce sl) {pc pc' index : Nat} {L : Array Slot} {S : List Value} {v : Int32} (hd : decode bc pc = .ok (.ldc index, 2)) (hp : pc + 2 = pc') (w : (Jvm.Cond.constant y.cls index v).before a0 Z = true) (K : Goes p e below s Z EL nw h0 fr0 Q rm T (mkF m pc' L (.int v :: S))) : Goes p e below s Z EL nw h0 fr0 Q rm T (mkF m pc L S) := by
  have hx := W.hx
  have hby := W.hby
  obtain ⟨vm, k, locs, X, eT, q2, q3, q4, q5⟩ := W
  subst hp
  exact Goes.step (fun t q => X.ldcI hx (own := y.cls) q2.2.2.2.1 (mvT q2.2.2.1 w) (g := mkF m pc L S) rfl (hb hby hd) q) K
end K1
section K2
variable {p : Program} {l : Launch} {e : Env} {R : Room} {s : State} {m : MethodId} {args : Array Value} {below : List Frame} {meth : Method} {c : Code} {y z : MethodName} {bc bc' : ByteArray} {mL mL' : Nat} {rt rt' : Option FieldType} {Z : State} {a0 : Array Value} {EL : List (String × Nat)} {nw : Bool} {h0 h h' : Heap} {T T' U : State} {fr fr' fr0 : List Addr} {ce sl kc ks len Wd : Nat} {rm rm' : Room} {Q Q' : Option Value → Heap → Prop} {as : Array Value}
theorem safe_at {vm vm1 : Vm} {x : Addr} (A : CHr Z EL vm h vm1 h) (S : Safe Z EL vm h x) : Safe Z EL vm1 h x := fun B => by
  rcases A.2.2 x B with q | q
  · exact S q
  · obtain ⟨cell, hc⟩ := Bk.there B
    exact absurd (Array.getElem?_eq_some_iff.mp hc).1 (Nat.not_lt.mpr q)
/-- who pays a call -/
def Pays (l : Launch) (R : Room) (p : Program) (e : Env) (below : List Frame) (s : State) (args : Array Value) (Z : State) (EL : List (String × Nat)) (nw : Bool) (y : MethodName) (len Wd : Nat) (as : Array Value) (h : Heap) (fr' : List Addr) (Q : Option Value → Heap → Prop) (kc ks : Nat) : Prop :=
  ∀ vm : Vm, Z.Warmed39 vm → CHv Z EL vm h → (∀ x ∈ fr', Safe Z EL vm h x) → BackS l R p e below (s.setVm vm) args y len Wd (fun A a => a = as ∧ A.U.heap = h ∧ A.cells + kc ≤ R.cells ∧ A.slots + ks ≤ R.slots)
    (fun A _ v B => ∃ L, (Keep h B.U.heap fr' ∧ Q v B.U.heap ∧ Fr Z.heap.size L) ∧ B.locs = A.locs ++ L ∧ B.cells = A.cells + kc ∧ B.slots = A.slots + ks ∧ CHr Z EL vm h B.U.vm B.U.heap ∧ (nw = true → (s.setVm vm).WarmedH B.U.vm))
theorem Met.pays (M : Met l Z EL nw y bc mL rt [] rm as h fr' Q) (wc : (Jvm.Cond.code y bc mL rt).before a0 Z = true) (wz : (Jvm.Cond.initialized y.cls).before a0 Z = true) (hEL : EW Z a0 EL) (hf : rm.frames + 1 ≤ R.frames) (hl : Wd + (mL + 11) + rm.locals ≤ R.locals) :
    Pays l R p e below s args Z EL nw y len Wd as h fr' Q rm.cells rm.slots := fun vm hZ H hS =>
  BackS.of_freeW (bytes := bc) (maxL := mL) (ret := rt) (E := fun _ first o t L k n => k = rm.cells ∧ n = rm.slots ∧ ∃ v, o = .returned v ∧ (Keep h t.heap fr' ∧ Q v t.heap ∧ Fr Z.heap.size L) ∧ CHr Z EL first.vm h t.vm t.heap ∧ (nw = true → first.WarmedH t.vm)) M hf hl
    (fun m meth c A a Y hp => have hU : Z.Warmed39 A.U.vm := wtrans (s := s.setVm vm) hZ Y.warmed
      ⟨by show (Jvm.Cond.and _ .tt).before a A.U = true; rw [Cond.before_and, mv hU wc]; rfl, mv hU wc, mv hU wz, hp.2.2.1, hp.2.2.2⟩)
    (fun m meth c A a g mk Y hp => by
      have C0 := CHv.at Y hZ hEL H
      exact ⟨hp.1, wtrans (s := s.setVm vm) hZ Y.warmed, hp.2.1, C0.1, fun x hx => safe_at C0 (hS x hx)⟩) (fun _ _ _ _ _ _ _ _ _ => trivial)
    (fun _ _ _ _ ⟨v, L, g1, g2, g3, g4, g5⟩ => ⟨L, _, _, g5, rfl, rfl, v, g1, g2, g3, g4⟩)
    (fun m meth c A a g mk v t L k n Y hp _ _ ⟨e1, e2, v', e3, e4, e5, e6⟩ => by
      cases e3; subst e1 e2
      exact ⟨L, e4, rfl, rfl, rfl, (CHv.at Y hZ hEL H).trans e5, fun q => State.WarmedH.trans (s := s.setVm vm) Y.warmed (e6 q)⟩)
theorem pays_back {Q0 : Option Value → Heap → List Loc → Prop} (hEL : EW Z a0 EL)
    (K : ∀ vm : Vm, Z.Warmed39 vm → Back l R p e below (s.setVm vm) args y len Wd (fun P a => a = as ∧ P.U.heap = h ∧ P.cells + kc ≤ R.cells ∧ P.slots + ks ≤ R.slots) (fun P _ v B => ∃ L, Q0 v B.U.heap L ∧ B.locs = P.locs ++ L ∧ B.cells = P.cells + kc ∧ B.slots = P.slots + ks))
    (q : ∀ v h' L, Q0 v h' L → Keep h h' fr' ∧ Q v h' ∧ Fr Z.heap.size L) : Pays l R p e below s args Z EL nw y len Wd as h fr' Q kc ks := fun vm hZ H hS m meth c A g ig mk a X hg hsize hdg hW hn hp => by
  obtain ⟨v, B, X', ⟨L, hq, e1, e2, e3⟩, st⟩ := K vm hZ m meth c A g ig mk a X hg hsize hdg hW hn hp
  obtain ⟨k1, k2, k3⟩ := q _ _ _ hq
  refine ⟨v, B, X'.retabled X'.warmed.wide, X'.warmed.since _, ?_, ⟨L, ⟨k1, k2, k3⟩, e1, e2, e3, ?_, fun _ => X'.warmed⟩, st⟩
  · rw [hp.2.1]; exact k1.1
  · exact (CHr.keep k1 hS H).trans (CHv.at X' hZ hEL (CHv.keep k1 hS H))
theorem Wk.back {vm : Vm} {k : Nat} {locs L' : List Loc} (eT : T.heap = h) (q2 : s.Since vm k ∧ k ≤ h.size ∧ Z.Warmed39 vm ∧ vm.findClass y.cls = some m.cls ∧ (nw = true → s.WarmedH vm)) (q3 : EW Z a0 EL ∧ CHr Z EL s.vm h0 vm h) (q4 : Fr Z.heap.size locs ∧ Ext Z.heap h ∧ ∀ x ∈ fr, Z.heap.size ≤ x ∧ x < h.size ∧ Safe Z EL vm h x) (q5 : p.tables.exec = Jvm.exec ∧ c.code = bc ∧ c.maxLocals = mL ∧ meth.sig.returnType = rt ∧ meth.locks = false ∧ meth.name = y.name)
    (hm : ∀ x ∈ fr', x ∈ fr) (X' : Stand p l e R ((s.setVm vm).setVm U.vm) m args below meth c U (locs ++ L') (ce + kc) (sl + ks)) (hS' : (s.setVm vm).Since U.vm U.heap.size) (hg : T.heap.size ≤ U.heap.size) (k1 : Keep h U.heap fr') (k3 : Fr Z.heap.size L') (hC : CHr Z EL vm h U.vm U.heap) (hN : nw = true → (s.setVm vm).WarmedH U.vm) :
    Wk p l e R s m args below meth c y bc mL rt Z a0 EL nw h0 U U.heap fr (ce + kc) (sl + ks) :=
  ⟨U.vm, U.heap.size, locs ++ L', X', rfl, ⟨q2.1.trans hS' (Nat.le_trans q2.2.1 (eT ▸ hg)), Nat.le_refl _, State.Warmed39.trans (t := s.setVm vm) q2.2.2.1 hS'.1, (hS'.1.alike.findClass _ _).trans q2.2.2.2.1, fun w => State.WarmedH.trans (t := s.setVm vm) (q2.2.2.2.2 w) (hN w)⟩,
    ⟨q3.1, q3.2.trans hC⟩, ⟨q4.1.app k3, ((show Old Z Z.heap.size h from ⟨rfl, q4.2.1⟩).keep k1 fun x hx => (q4.2.2 x (hm x hx)).1).2, fun x hx => ⟨(q4.2.2 x hx).1, Nat.lt_of_lt_of_le (q4.2.2 x hx).2.1 k1.1, hC.safe (q4.2.2 x hx).2.1 (q4.2.2 x hx).2.2⟩⟩, q5⟩
theorem g_static (W : Wk p l e R s m args below meth c y bc mL rt Z a0 EL nw h0 T h fr ce sl) {index pc pc' : Nat} {L : Array Slot} {S argsL rest : List Value} (hd : decode bc pc = .ok (.invokestatic index, 3)) (hp : pc + 3 = pc')
    (wl : (Jvm.Cond.methodLink y.cls index z).before a0 Z = true) (ws : (Jvm.Cond.static z).before a0 Z = true) (wz : (Jvm.Cond.initialized z.cls).before a0 Z = true) (wc : (Jvm.Cond.code z bc' mL' rt').before a0 Z = true) (hy : z.cls ≠ "java/lang/invoke/MethodHandle" ∧ z.cls ≠ "java/lang/invoke/VarHandle")
    (hL : L.size = mL) (hSt : S = argsL.reverse ++ rest) (hlen : ∀ sig, parseMethodDescriptor z.desc = some sig → argsL.length = sig.parameters.length) (hW : (rest.map fun v => v.category).sum = Wd) (hm : ∀ x ∈ fr', x ∈ fr) (hc : ce + kc ≤ R.cells) (hs : sl + ks ≤ R.slots)
    (P : Pays l R p e below s args Z EL nw z 3 Wd argsL.toArray h fr' Q' kc ks)
    (K : ∀ v T' h', Wk p l e R s m args below meth c y bc mL rt Z a0 EL nw h0 T' h' fr (ce + kc) (sl + ks) → Keep h h' fr' → Q' v h' → Goes p e below s Z EL nw h0 fr0 Q rm T' (mkF m pc' L (v.toList ++ rest))) : Goes p e below s Z EL nw h0 fr0 Q rm T (mkF m pc L S) := by
  have hx := W.hx
  have hby := W.hby
  have hml := W.hml
  obtain ⟨vm, k, locs, X, eT, q2, q3, q4, q5⟩ := W
  subst hp
  obtain ⟨v, vm1, ⟨U, Lc, kc', ks'⟩, hv1, X', hS', hg, ⟨L', ⟨k1, k2, k3⟩, e1, e2, e3, hC, hN⟩, st⟩ := callSS X hx (own := y.cls) q2.2.2.2.1 (mvT q2.2.2.1 wl) (mvT q2.2.2.1 ws) (mvT q2.2.2.1 wz) (mvT q2.2.2.1 wc) hy (P vm q2.2.2.1 q3.2.1 fun x hx => (q4.2.2 x (hm x hx)).2.2) (g := mkF m pc L S) rfl (by rw [hml]; exact hL) (argsL := argsL) (rest := rest) hlen hSt (by show 2 * 0 + _ ≤ _; rw [hW]; exact Nat.le_of_eq (Nat.zero_add _)) (hb hby hd) (fun _ _ => ⟨rfl, eT, hc, hs⟩)
  dsimp only [Pt.U, Pt.locs, Pt.cells, Pt.slots] at X' hS' hg k1 k2 e1 e2 e3 hC hN st
  subst e1 e2 e3
  exact Goes.step (fun t q => st.trans q) (K v U U.heap (Wk.back eT q2 q3 q4 q5 hm X' hS' hg k1 k3 hC hN) k1 k2)
theorem g_special (W : Wk p l e R s m args below meth c y bc mL rt Z a0 EL nw h0 T h fr ce sl) {index pc pc' : Nat} {L : Array Slot} {S argsL rest : List Value} {a : Addr} (hd : decode bc pc = .ok (.invokespecial index, 3)) (hp : pc + 3 = pc') (hi : z.name = "<init>")
    (wl : (Jvm.Cond.methodLink y.cls index z).before a0 Z = true) (wi : (Jvm.Cond.instanceMethod z).before a0 Z = true) (wc : (Jvm.Cond.code z bc' mL' none).before a0 Z = true) (hy : z.cls ≠ "java/lang/invoke/MethodHandle" ∧ z.cls ≠ "java/lang/invoke/VarHandle")
    (hL : L.size = mL) (hSt : S = argsL.reverse ++ .ref a :: rest) (hlen : ∀ sig, parseMethodDescriptor z.desc = some sig → argsL.length = sig.parameters.length) (hW : (rest.map fun v => v.category).sum = Wd) (hm : ∀ x ∈ fr', x ∈ fr) (hc : ce + kc ≤ R.cells) (hs : sl + ks ≤ R.slots)
    (P : Pays l R p e below s args Z EL nw z 3 Wd (.ref a :: argsL).toArray h fr' Q' kc ks)
    (K : ∀ v T' h', Wk p l e R s m args below meth c y bc mL rt Z a0 EL nw h0 T' h' fr (ce + kc) (sl + ks) → Keep h h' fr' → Q' v h' → Goes p e below s Z EL nw h0 fr0 Q rm T' (mkF m pc' L (v.toList ++ rest))) : Goes p e below s Z EL nw h0 fr0 Q rm T (mkF m pc L S) := by
  have hx := W.hx
  have hby := W.hby
  have hml := W.hml
  obtain ⟨vm, k, locs, X, eT, q2, q3, q4, q5⟩ := W
  subst hp
  obtain ⟨v, vm1, ⟨U, Lc, kc', ks'⟩, hv1, X', hS', hg, ⟨L', ⟨k1, k2, k3⟩, e1, e2, e3, hC, hN⟩, st⟩ := X.specialBackS hx hi (own := y.cls) q2.2.2.2.1 (mvT q2.2.2.1 wl) (mvT q2.2.2.1 wi) (mvT q2.2.2.1 wc) hy (P vm q2.2.2.1 q3.2.1 fun x hx => (q4.2.2 x (hm x hx)).2.2) (g := mkF m pc L S) rfl (by rw [hml]; exact hL) (Steps.refl _) (a := a) (argsL := argsL) (rest := rest) hlen hSt (by show 2 * 0 + _ ≤ _; rw [hW]; exact Nat.le_of_eq (Nat.zero_add _)) (hb hby hd) (fun _ _ => ⟨rfl, eT, hc, hs⟩)
  dsimp only [Pt.U, Pt.locs, Pt.cells, Pt.slots] at X' hS' hg k1 k2 e1 e2 e3 hC hN st
  subst e1 e2 e3
  exact Goes.step (fun t q => st.trans q) (K v U U.heap (Wk.back eT q2 q3 q4 q5 hm X' hS' hg k1 k3 hC hN) k1 k2)
theorem g_virtual (W : Wk p l e R s m args below meth c y bc mL rt Z a0 EL nw h0 T h fr ce sl) {y' : MethodName} {C : String} {index pc pc' : Nat} {L : Array Slot} {S argsL rest : List Value} {a : Addr} (hd : decode bc pc = .ok (.invokevirtual index, 3)) (hp : pc + 3 = pc')
    (wl : (Jvm.Cond.methodLink y.cls index y').before a0 Z = true) (wd : (Jvm.Cond.declares y').before a0 Z = true) (ws : (Jvm.Cond.selects C y' y').before a0 Z = true) (wi : (Jvm.Cond.instanceMethod y').before a0 Z = true) (hy : y'.cls ≠ "java/lang/invoke/MethodHandle" ∧ y'.cls ≠ "java/lang/invoke/VarHandle") (E : Exa Z h a C)
    (hL : L.size = mL) (hSt : S = argsL.reverse ++ .ref a :: rest) (hlen : ∀ sig, parseMethodDescriptor y'.desc = some sig → argsL.length = sig.parameters.length) (hW : (rest.map fun v => v.category).sum = Wd) (hm : ∀ x ∈ fr', x ∈ fr) (hc : ce + kc ≤ R.cells) (hs : sl + ks ≤ R.slots)
    (P : Pays l R p e below s args Z EL nw y' 3 Wd (.ref a :: argsL).toArray h fr' Q' kc ks)
    (K : ∀ v T' h', Wk p l e R s m args below meth c y bc mL rt Z a0 EL nw h0 T' h' fr (ce + kc) (sl + ks) → Keep h h' fr' → Q' v h' → Goes p e below s Z EL nw h0 fr0 Q rm T' (mkF m pc' L (v.toList ++ rest))) : Goes p e below s Z EL nw h0 fr0 Q rm T (mkF m pc L S) := by
  have hx := W.hx
  have hby := W.hby
  have hml := W.hml
  obtain ⟨vm, k, locs, X, eT, q2, q3, q4, q5⟩ := W
  subst hp
  obtain ⟨cB, kB, r1, r2, r3⟩ := isOf (s := s.setVm vm) q2.2.2.1 eT E
  obtain ⟨v, vm1, ⟨U, Lc, kc', ks'⟩, hv1, X', hS', hg, ⟨L', ⟨k1, k2, k3⟩, e1, e2, e3, hC, hN⟩, st⟩ := X.virtualBackS hx (own := y.cls) q2.2.2.2.1 (mvT q2.2.2.1 wl) (mvT q2.2.2.1 wd) (notFace_of_selects (args := #[]) (mvT q2.2.2.1 ws)) (mvT q2.2.2.1 ws) (mvT q2.2.2.1 wi) hy (P vm q2.2.2.1 q3.2.1 fun x hx => (q4.2.2 x (hm x hx)).2.2) r1 r3 (g := mkF m pc L S) rfl (by rw [hml]; exact hL) (Steps.refl _) (argsL := argsL) (rest := rest) hlen hSt (by show 2 * 0 + _ ≤ _; rw [hW]; exact Nat.le_of_eq (Nat.zero_add _)) (hb hby hd) (fun _ _ => ⟨rfl, eT, hc, hs⟩)
  dsimp only [Pt.U, Pt.locs, Pt.cells, Pt.slots] at X' hS' hg k1 k2 e1 e2 e3 hC hN st
  subst e1 e2 e3
  exact Goes.step (fun t q => st.trans q) (K v U U.heap (Wk.back eT q2 q3 q4 q5 hm X' hS' hg k1 k3 hC hN) k1 k2)
/-- ldc of a String constant -/
theorem g_ldc (W : Wk p l e R s m args below meth c y bc mL rt Z a0 EL false h0 T h fr ce sl) {text : String} {index pc pc' n : Nat} {L : Array Slot} {S vs : List Value} {zz : Int32} (hd : decode bc pc = .ok (.ldc index, 2)) (hp : pc + 2 = pc') (w : (Jvm.Cond.stringLink y.cls index text).before a0 Z = true) (wS : ∀ a ∈ Bundle.stringAtoms, a.before a0 Z = true) (hmem : (y.cls, index) ∈ EL)
    (ht : (∀ c ∈ text.toList, c.toNat < 256) ∧ text.toList.map (fun c => Value.int (Jvm.Lit.byteI c.toNat.toUInt16)) = vs) (hz : ¬ zz < 0) (hl : zz.toNatClampNeg = vs.length) (hn : 4 * text.toList.length ≤ n) (hbig : n ≤ 536870912) (hc : ce + 2 ≤ R.cells) (hs : sl + (n + 4) ≤ R.slots)
    (K : ∀ T' h' a b k, Wk p l e R s m args below meth c y bc mL rt Z a0 EL false h0 T' h' fr (ce + 2) (sl + (n + 4)) → Ext h h' → Exa Z h' a "java/lang/String" → Fld Z h' a "java/lang/String" "coder" "B" (.int 0) → Fld Z h' a "java/lang/String" "value" "[B" (.ref b) → Arv Z h' b k .byte zz vs (.int 0) → (∀ x ∈ fr, x ≠ a ∧ x ≠ b) → Goes p e below s Z EL false h0 fr0 Q rm T' (mkF m pc' L (.ref a :: S))) : Goes p e below s Z EL false h0 fr0 Q rm T (mkF m pc L S) := by
  have hx := W.hx
  have hby := W.hby
  obtain ⟨vm, k, locs, X, eT, q2, q3, q4, q5⟩ := W
  subst hp
  obtain ⟨a, T', h', k1, b, kb, X', e', E, hS, hk, hZ, hf, x1, x2, x3, x4, x5, x6, hC, -, hne, st⟩ := ldcCH X hx q2.2.2.1 (own := y.cls) q2.2.2.2.1 w wS eT q2.1 q2.2.1 q3.1 hmem q3.2.1 ht hz hl (g := mkF m pc L S) rfl (hb hby hd) hn hbig hc hs
  have hfr : ∀ x ∈ fr, Safe Z EL T'.vm h' x := fun x hx => hC.safe (q4.2.2 x hx).2.1 (q4.2.2 x hx).2.2
  exact Goes.step st (K T' h' a b kb ⟨T'.vm, k1, locs, X', e', ⟨hS, hk, hZ, hf, fun w => nomatch w⟩, ⟨q3.1, q3.2.trans hC⟩, ⟨q4.1, ⟨Nat.le_trans q4.2.1.1 E.1, fun a c q => E.2 a c (q4.2.1.2 a c q)⟩, fun x hx => ⟨(q4.2.2 x hx).1, Nat.lt_of_lt_of_le (q4.2.2 x hx).2.1 E.1, hfr x hx⟩⟩, q5⟩ E x1 x2 x3 x4 fun x hx => hne x (hfr x hx))
/-- ldc of a String constant of which nothing is known -/
theorem g_ldcO (W : Wk p l e R s m args below meth c y bc mL rt Z a0 EL false h0 T h fr ce sl) {text : String} {index pc pc' n : Nat} {L : Array Slot} {S : List Value} (hd : decode bc pc = .ok (.ldc index, 2)) (hp : pc + 2 = pc') (w : (Jvm.Cond.stringLink y.cls index text).before a0 Z = true) (wS : ∀ a ∈ Bundle.stringAtoms, a.before a0 Z = true)
    (hn : 4 * text.toList.length ≤ n) (hbig : n ≤ 536870912) (hc : ce + 2 ≤ R.cells) (hs : sl + (n + 4) ≤ R.slots)
    (K : ∀ T' h' a, Wk p l e R s m args below meth c y bc mL rt Z a0 EL false h0 T' h' fr (ce + 2) (sl + (n + 4)) → Ext h h' → Goes p e below s Z EL false h0 fr0 Q rm T' (mkF m pc' L (.ref a :: S))) : Goes p e below s Z EL false h0 fr0 Q rm T (mkF m pc L S) := by
  have hx := W.hx
  have hby := W.hby
  obtain ⟨vm, k, locs, X, eT, q2, q3, q4, q5⟩ := W
  subst hp
  obtain ⟨a, T', h', k1, X', e', E, hS, hk, hZ, hf, hC, -, st⟩ := ldcOH X hx q2.2.2.1 (own := y.cls) q2.2.2.2.1 w wS eT q2.1 q2.2.1 q3.1 q3.2.1 (g := mkF m pc L S) rfl (hb hby hd) hn hbig hc hs
  have hfr : ∀ x ∈ fr, Safe Z EL T'.vm h' x := fun x hx => hC.safe (q4.2.2 x hx).2.1 (q4.2.2 x hx).2.2
  exact Goes.step st (K T' h' a ⟨T'.vm, k1, locs, X', e', ⟨hS, hk, hZ, hf, fun w => nomatch w⟩, ⟨q3.1, q3.2.trans hC⟩, ⟨q4.1, ⟨Nat.le_trans q4.2.1.1 E.1, fun a c q => E.2 a c (q4.2.1.2 a c q)⟩, fun x hx => ⟨(q4.2.2 x hx).1, Nat.lt_of_lt_of_le (q4.2.2 x hx).2.1 E.1, hfr x hx⟩⟩, q5⟩ E)
end K2
section K3
variable {p : Program} {l : Launch} {e : Env} {R : Room} {s : State} {m : MethodId} {args : Array Value} {below : List Frame} {meth : Method} {c : Code} {y : MethodName} {bc : ByteArray} {mL : Nat} {rt : Option FieldType} {Z : State} {a0 : Array Value} {EL : List (String × Nat)} {nw : Bool} {h0 h h' : Heap} {T : State} {fr fr0 : List Addr} {ce sl : Nat} {rm : Room} {Q : Option Value → Heap → Prop}
theorem g_aload_n (W : Wk p l e R s m args below meth c y bc mL rt Z a0 EL nw h0 T h fr ce sl) {pc pc' : Nat} {L : Array Slot} {S : List Value} {k : Fin 4} {v : Value} (hd : decode bc pc = .ok (.aload_n k, 1)) (hp : pc + 1 = pc') (hl : L[k.val]? = some (.val v)) (hv : v.isRef = true) (K : Goes p e below s Z EL nw h0 fr0 Q rm T (mkF m pc' L (v :: S))) : Goes p e below s Z EL nw h0 fr0 Q rm T (mkF m pc L S) := by
  subst hp
  exact Goes.step (fun _ q => XS.aloadN W.here W.hx rfl (hb W.hby hd) hl hv q) K
theorem g_aload (W : Wk p l e R s m args below meth c y bc mL rt Z a0 EL nw h0 T h fr ce sl) {pc pc' : Nat} {L : Array Slot} {S : List Value} {k : Nat} {v : Value} (hd : decode bc pc = .ok (.aload k, 2)) (hp : pc + 2 = pc') (hl : L[k]? = some (.val v)) (hv : v.isRef = true) (K : Goes p e below s Z EL nw h0 fr0 Q rm T (mkF m pc' L (v :: S))) : Goes p e below s Z EL nw h0 fr0 Q rm T (mkF m pc L S) := by
  subst hp
  exact Goes.step (fun _ q => XS.aload W.here W.hx rfl (hb W.hby hd) hl hv q) K
theorem g_iload_n (W : Wk p l e R s m args below meth c y bc mL rt Z a0 EL nw h0 T h fr ce sl) {pc pc' : Nat} {L : Array Slot} {S : List Value} {k : Fin 4} {v : Int32} (hd : decode bc pc = .ok (.iload_n k, 1)) (hp : pc + 1 = pc') (hl : L[k.val]? = some (.val (.int v))) (K : Goes p e below s Z EL nw h0 fr0 Q rm T (mkF m pc' L (.int v :: S))) : Goes p e below s Z EL nw h0 fr0 Q rm T (mkF m pc L S) := by
  subst hp
  exact Goes.step (fun _ q => XS.iloadN W.here W.hx rfl (hb W.hby hd) hl q) K
theorem g_iload (W : Wk p l e R s m args below meth c y bc mL rt Z a0 EL nw h0 T h fr ce sl) {pc pc' : Nat} {L : Array Slot} {S : List Value} {k : Nat} {v : Int32} (hd : decode bc pc = .ok (.iload k, 2)) (hp : pc + 2 = pc') (hl : L[k]? = some (.val (.int v))) (K : Goes p e below s Z EL nw h0 fr0 Q rm T (mkF m pc' L (.int v :: S))) : Goes p e below s Z EL nw h0 fr0 Q rm T (mkF m pc L S) := by
  subst hp
  exact Goes.step (fun _ q => XS.iload W.here W.hx rfl (hb W.hby hd) hl q) K
theorem g_lload_n (W : Wk p l e R s m args below meth c y bc mL rt Z a0 EL nw h0 T h fr ce sl) {pc pc' : Nat} {L : Array Slot} {S : List Value} {k : Fin 4} {v : Int64} (hd : decode bc pc = .ok (.lload_n k, 1)) (hp : pc + 1 = pc') (hl : L[k.val]? = some (.val (.long v))) (K : Goes p e below s Z EL nw h0 fr0 Q rm T (mkF m pc' L (.long v :: S))) : Goes p e below s Z EL nw h0 fr0 Q rm T (mkF m pc L S) := by
  subst hp
  exact Goes.step (fun _ q => Jvm.Free.XT.lloadN W.here W.hx rfl (hb W.hby hd) hl q) K
theorem g_lload (W : Wk p l e R s m args below meth c y bc mL rt Z a0 EL nw h0 T h fr ce sl) {pc pc' : Nat} {L : Array Slot} {S : List Value} {k : Nat} {v : Int64} (hd : decode bc pc = .ok (.lload k, 2)) (hp : pc + 2 = pc') (hl : L[k]? = some (.val (.long v))) (K : Goes p e below s Z EL nw h0 fr0 Q rm T (mkF m pc' L (.long v :: S))) : Goes p e below s Z EL nw h0 fr0 Q rm T (mkF m pc L S) := by
  subst hp
  exact Goes.step (fun _ q => Jvm.Free.XT.lload W.here W.hx rfl (hb W.hby hd) hl q) K
theorem g_iconst (W : Wk p l e R s m args below meth c y bc mL rt Z a0 EL nw h0 T h fr ce sl) {pc pc' : Nat} {L : Array Slot} {S : List Value} {i : Int} {v : Int32} (hd : decode bc pc = .ok (.iconst i, 1)) (hp : pc + 1 = pc') (hv : Int32.ofInt i = v) (K : Goes p e below s Z EL nw h0 fr0 Q rm T (mkF m pc' L (.int v :: S))) : Goes p e below s Z EL nw h0 fr0 Q rm T (mkF m pc L S) := by
  subst hp
  exact Goes.step (fun _ q => Jvm.Free.XT.iconstV W.here W.hx rfl v (hb W.hby hd) hv q) K
theorem g_bipush (W : Wk p l e R s m args below meth c y bc mL rt Z a0 EL nw h0 T h fr ce sl) {pc pc' : Nat} {L : Array Slot} {S : List Value} {i : Int} {v : Int32} (hd : decode bc pc = .ok (.bipush i, 2)) (hp : pc + 2 = pc') (hv : (Int8.ofInt i).toInt32 = v) (K : Goes p e below s Z EL nw h0 fr0 Q rm T (mkF m pc' L (.int v :: S))) : Goes p e below s Z EL nw h0 fr0 Q rm T (mkF m pc L S) := by
  subst hp
  exact Goes.step (fun _ q => Jvm.Free.XT.bipushV W.here W.hx rfl v (hb W.hby hd) hv q) K
theorem g_sipush (W : Wk p l e R s m args below meth c y bc mL rt Z a0 EL nw h0 T h fr ce sl) {pc pc' : Nat} {L : Array Slot} {S : List Value} {i : Int} {v : Int32} (hd : decode bc pc = .ok (.sipush i, 3)) (hp : pc + 3 = pc') (hv : (Int16.ofInt i).toInt32 = v) (K : Goes p e below s Z EL nw h0 fr0 Q rm T (mkF m pc' L (.int v :: S))) : Goes p e below s Z EL nw h0 fr0 Q rm T (mkF m pc L S) := by
  subst hp
  exact Goes.step (fun _ q => Jvm.Free.XT.sipushV W.here W.hx rfl v (hb W.hby hd) hv q) K
theorem g_aconst_null (W : Wk p l e R s m args below meth c y bc mL rt Z a0 EL nw h0 T h fr ce sl) {pc pc' : Nat} {L : Array Slot} {S : List Value}  (hd : decode bc pc = .ok (.aconst_null, 1)) (hp : pc + 1 = pc')  (K : Goes p e below s Z EL nw h0 fr0 Q rm T (mkF m pc' L (.null :: S))) : Goes p e below s Z EL nw h0 fr0 Q rm T (mkF m pc L S) := by
  subst hp
  exact Goes.step (fun _ q => XS.aconstNull W.here W.hx rfl (hb W.hby hd)  q) K
theorem g_iadd (W : Wk p l e R s m args below meth c y bc mL rt Z a0 EL nw h0 T h fr ce sl) {pc pc' : Nat} {L : Array Slot} {S : List Value} {x z : Int32} (hd : decode bc pc = .ok (.iadd, 1)) (hp : pc + 1 = pc')  (K : Goes p e below s Z EL nw h0 fr0 Q rm T (mkF m pc' L (.int (x + z) :: S))) : Goes p e below s Z EL nw h0 fr0 Q rm T (mkF m pc L (.int z :: .int x :: S)) := by
  subst hp
  exact Goes.step (fun _ q => XS.iadd W.here W.hx rfl (hb W.hby hd) rfl q) K
theorem g_isub (W : Wk p l e R s m args below meth c y bc mL rt Z a0 EL nw h0 T h fr ce sl) {pc pc' : Nat} {L : Array Slot} {S : List Value} {x z : Int32} (hd : decode bc pc = .ok (.isub, 1)) (hp : pc + 1 = pc')  (K : Goes p e below s Z EL nw h0 fr0 Q rm T (mkF m pc' L (.int (x - z) :: S))) : Goes p e below s Z EL nw h0 fr0 Q rm T (mkF m pc L (.int z :: .int x :: S)) := by
  subst hp
  exact Goes.step (fun _ q => XS.isub W.here W.hx rfl (hb W.hby hd) rfl q) K
theorem g_iand (W : Wk p l e R s m args below meth c y bc mL rt Z a0 EL nw h0 T h fr ce sl) {pc pc' : Nat} {L : Array Slot} {S : List Value} {x z : Int32} (hd : decode bc pc = .ok (.iand, 1)) (hp : pc + 1 = pc')  (K : Goes p e below s Z EL nw h0 fr0 Q rm T (mkF m pc' L (.int (x &&& z) :: S))) : Goes p e below s Z EL nw h0 fr0 Q rm T (mkF m pc L (.int z :: .int x :: S)) := by
  subst hp
  exact Goes.step (fun _ q => XS.iand W.here W.hx rfl (hb W.hby hd) rfl q) K
theorem g_imul (W : Wk p l e R s m args below meth c y bc mL rt Z a0 EL nw h0 T h fr ce sl) {pc pc' : Nat} {L : Array Slot} {S : List Value} {x z : Int32} (hd : decode bc pc = .ok (.imul, 1)) (hp : pc + 1 = pc')  (K : Goes p e below s Z EL nw h0 fr0 Q rm T (mkF m pc' L (.int (x * z) :: S))) : Goes p e below s Z EL nw h0 fr0 Q rm T (mkF m pc L (.int z :: .int x :: S)) := by
  subst hp
  exact Goes.step (fun _ q => XS.imul W.here W.hx rfl (hb W.hby hd) rfl q) K
theorem g_ior (W : Wk p l e R s m args below meth c y bc mL rt Z a0 EL nw h0 T h fr ce sl) {pc pc' : Nat} {L : Array Slot} {S : List Value} {x z : Int32} (hd : decode bc pc = .ok (.ior, 1)) (hp : pc + 1 = pc')  (K : Goes p e below s Z EL nw h0 fr0 Q rm T (mkF m pc' L (.int (x ||| z) :: S))) : Goes p e below s Z EL nw h0 fr0 Q rm T (mkF m pc L (.int z :: .int x :: S)) := by
  subst hp
  exact Goes.step (fun _ q => Jvm.Free.XT.ior W.here W.hx rfl (hb W.hby hd) rfl q) K
theorem g_ixor (W : Wk p l e R s m args below meth c y bc mL rt Z a0 EL nw h0 T h fr ce sl) {pc pc' : Nat} {L : Array Slot} {S : List Value} {x z : Int32} (hd : decode bc pc = .ok (.ixor, 1)) (hp : pc + 1 = pc')  (K : Goes p e below s Z EL nw h0 fr0 Q rm T (mkF m pc' L (.int (x ^^^ z) :: S))) : Goes p e below s Z EL nw h0 fr0 Q rm T (mkF m pc L (.int z :: .int x :: S)) := by
  subst hp
  exact Goes.step (fun _ q => Jvm.Free.XT.ixor W.here W.hx rfl (hb W.hby hd) rfl q) K
theorem g_ishl (W : Wk p l e R s m args below meth c y bc mL rt Z a0 EL nw h0 T h fr ce sl) {pc pc' : Nat} {L : Array Slot} {S : List Value} {x z : Int32} (hd : decode bc pc = .ok (.ishl, 1)) (hp : pc + 1 = pc')  (K : Goes p e below s Z EL nw h0 fr0 Q rm T (mkF m pc' L (.int (x <<< (z &&& 31)) :: S))) : Goes p e below s Z EL nw h0 fr0 Q rm T (mkF m pc L (.int z :: .int x :: S)) := by
  subst hp
  exact Goes.step (fun _ q => Jvm.Free.XT.ishl W.here W.hx rfl (hb W.hby hd) rfl q) K
theorem g_ishr (W : Wk p l e R s m args below meth c y bc mL rt Z a0 EL nw h0 T h fr ce sl) {pc pc' : Nat} {L : Array Slot} {S : List Value} {x z : Int32} (hd : decode bc pc = .ok (.ishr, 1)) (hp : pc + 1 = pc')  (K : Goes p e below s Z EL nw h0 fr0 Q rm T (mkF m pc' L (.int (x >>> (z &&& 31)) :: S))) : Goes p e below s Z EL nw h0 fr0 Q rm T (mkF m pc L (.int z :: .int x :: S)) := by
  subst hp
  exact Goes.step (fun _ q => Jvm.Free.XT.ishr W.here W.hx rfl (hb W.hby hd) rfl q) K
theorem g_iushr (W : Wk p l e R s m args below meth c y bc mL rt Z a0 EL nw h0 T h fr ce sl) {pc pc' : Nat} {L : Array Slot} {S : List Value} {x z : Int32} (hd : decode bc pc = .ok (.iushr, 1)) (hp : pc + 1 = pc')  (K : Goes p e below s Z EL nw h0 fr0 Q rm T (mkF m pc' L (.int ((x.toUInt32 >>> (z &&& 31).toUInt32).toInt32) :: S))) : Goes p e below s Z EL nw h0 fr0 Q rm T (mkF m pc L (.int z :: .int x :: S)) := by
  subst hp
  exact Goes.step (fun _ q => Jvm.Free.XT.iushr W.here W.hx rfl (hb W.hby hd) rfl q) K
theorem g_land (W : Wk p l e R s m args below meth c y bc mL rt Z a0 EL nw h0 T h fr ce sl) {pc pc' : Nat} {L : Array Slot} {S : List Value} {x z : Int64} (hd : decode bc pc = .ok (.land, 1)) (hp : pc + 1 = pc')  (K : Goes p e below s Z EL nw h0 fr0 Q rm T (mkF m pc' L (.long (x &&& z) :: S))) : Goes p e below s Z EL nw h0 fr0 Q rm T (mkF m pc L (.long z :: .long x :: S)) := by
  subst hp
  exact Goes.step (fun _ q => Jvm.Free.XT.land W.here W.hx rfl (hb W.hby hd) rfl q) K
theorem g_lxor (W : Wk p l e R s m args below meth c y bc mL rt Z a0 EL nw h0 T h fr ce sl) {pc pc' : Nat} {L : Array Slot} {S : List Value} {x z : Int64} (hd : decode bc pc = .ok (.lxor, 1)) (hp : pc + 1 = pc')  (K : Goes p e below s Z EL nw h0 fr0 Q rm T (mkF m pc' L (.long (x ^^^ z) :: S))) : Goes p e below s Z EL nw h0 fr0 Q rm T (mkF m pc L (.long z :: .long x :: S)) := by
  subst hp
  exact Goes.step (fun _ q => Jvm.Free.XT.lxor W.here W.hx rfl (hb W.hby hd) rfl q) K
theorem g_lushr (W : Wk p l e R s m args below meth c y bc mL rt Z a0 EL nw h0 T h fr ce sl) {pc pc' : Nat} {L : Array Slot} {S : List Value} {x : Int64} {z : Int32} (hd : decode bc pc = .ok (.lushr, 1)) (hp : pc + 1 = pc')  (K : Goes p e below s Z EL nw h0 fr0 Q rm T (mkF m pc' L (.long (Jvm.Free.XT.ushrL x z) :: S))) : Goes p e below s Z EL nw h0 fr0 Q rm T (mkF m pc L (.int z :: .long x :: S)) := by
  subst hp
  exact Goes.step (fun _ q => Jvm.Free.XT.lushr W.here W.hx rfl (hb W.hby hd) rfl q) K
theorem g_lshr (W : Wk p l e R s m args below meth c y bc mL rt Z a0 EL nw h0 T h fr ce sl) {pc pc' : Nat} {L : Array Slot} {S : List Value} {x : Int64} {z : Int32} (hd : decode bc pc = .ok (.lshr, 1)) (hp : pc + 1 = pc')  (K : Goes p e below s Z EL nw h0 fr0 Q rm T (mkF m pc' L (.long (x >>> (z.toInt64 &&& 63)) :: S))) : Goes p e below s Z EL nw h0 fr0 Q rm T (mkF m pc L (.int z :: .long x :: S)) := by
  subst hp
  exact Goes.step (fun _ q => Jvm.Free.XT.lshr W.here W.hx rfl (hb W.hby hd) rfl q) K
theorem g_l2i (W : Wk p l e R s m args below meth c y bc mL rt Z a0 EL nw h0 T h fr ce sl) {pc pc' : Nat} {L : Array Slot} {S : List Value} {x : Int64} (hd : decode bc pc = .ok (.l2i, 1)) (hp : pc + 1 = pc')  (K : Goes p e below s Z EL nw h0 fr0 Q rm T (mkF m pc' L (.int x.toInt32 :: S))) : Goes p e below s Z EL nw h0 fr0 Q rm T (mkF m pc L (.long x :: S)) := by
  subst hp
  exact Goes.step (fun _ q => Jvm.Free.XT.l2i W.here W.hx rfl (hb W.hby hd) rfl q) K
theorem g_i2l (W : Wk p l e R s m args below meth c y bc mL rt Z a0 EL nw h0 T h fr ce sl) {pc pc' : Nat} {L : Array Slot} {S : List Value} {x : Int32} (hd : decode bc pc = .ok (.i2l, 1)) (hp : pc + 1 = pc')  (K : Goes p e below s Z EL nw h0 fr0 Q rm T (mkF m pc' L (.long x.toInt64 :: S))) : Goes p e below s Z EL nw h0 fr0 Q rm T (mkF m pc L (.int x :: S)) := by
  subst hp
  exact Goes.step (fun _ q => Jvm.Free.XT.i2l W.here W.hx rfl (hb W.hby hd) rfl q) K
theorem g_i2b (W : Wk p l e R s m args below meth c y bc mL rt Z a0 EL nw h0 T h fr ce sl) {pc pc' : Nat} {L : Array Slot} {S : List Value} {x : Int32} (hd : decode bc pc = .ok (.i2b, 1)) (hp : pc + 1 = pc')  (K : Goes p e below s Z EL nw h0 fr0 Q rm T (mkF m pc' L (.int x.toInt8.toInt32 :: S))) : Goes p e below s Z EL nw h0 fr0 Q rm T (mkF m pc L (.int x :: S)) := by
  subst hp
  exact Goes.step (fun _ q => Jvm.Free.XT.i2b W.here W.hx rfl (hb W.hby hd) rfl q) K
theorem g_i2c (W : Wk p l e R s m args below meth c y bc mL rt Z a0 EL nw h0 T h fr ce sl) {pc pc' : Nat} {L : Array Slot} {S : List Value} {x : Int32} (hd : decode bc pc = .ok (.i2c, 1)) (hp : pc + 1 = pc')  (K : Goes p e below s Z EL nw h0 fr0 Q rm T (mkF m pc' L (.int x.toUInt32.toUInt16.toUInt32.toInt32 :: S))) : Goes p e below s Z EL nw h0 fr0 Q rm T (mkF m pc L (.int x :: S)) := by
  subst hp
  exact Goes.step (fun _ q => Jvm.Free.XT.i2c W.here W.hx rfl (hb W.hby hd) rfl q) K
theorem g_dup (W : Wk p l e R s m args below meth c y bc mL rt Z a0 EL nw h0 T h fr ce sl) {pc pc' : Nat} {L : Array Slot} {S : List Value} {v : Value} (hd : decode bc pc = .ok (.dup, 1)) (hp : pc + 1 = pc') (hc : v.category = 1) (K : Goes p e below s Z EL nw h0 fr0 Q rm T (mkF m pc' L (v :: v :: S))) : Goes p e below s Z EL nw h0 fr0 Q rm T (mkF m pc L (v :: S)) := by
  subst hp
  exact Goes.step (fun _ q => XS.dup W.here W.hx rfl (hb W.hby hd) rfl hc q) K
theorem g_dup_x1 (W : Wk p l e R s m args below meth c y bc mL rt Z a0 EL nw h0 T h fr ce sl) {pc pc' : Nat} {L : Array Slot} {S : List Value} {v w : Value} (hd : decode bc pc = .ok (.dup_x1, 1)) (hp : pc + 1 = pc') (hc : v.category = 1) (hc' : w.category = 1) (K : Goes p e below s Z EL nw h0 fr0 Q rm T (mkF m pc' L (v :: w :: v :: S))) : Goes p e below s Z EL nw h0 fr0 Q rm T (mkF m pc L (v :: w :: S)) := by
  subst hp
  exact Goes.step (fun _ q => Jvm.Free.XT.dupX1 W.here W.hx rfl (hb W.hby hd) rfl hc hc' q) K
theorem g_pop (W : Wk p l e R s m args below meth c y bc mL rt Z a0 EL nw h0 T h fr ce sl) {pc pc' : Nat} {L : Array Slot} {S : List Value} {v : Value} (hd : decode bc pc = .ok (.pop, 1)) (hp : pc + 1 = pc') (hc : v.category = 1) (K : Goes p e below s Z EL nw h0 fr0 Q rm T (mkF m pc' L S)) : Goes p e below s Z EL nw h0 fr0 Q rm T (mkF m pc L (v :: S)) := by
  subst hp
  exact Goes.step (fun _ q => Jvm.Free.XT.pop W.here W.hx rfl (hb W.hby hd) rfl hc q) K
theorem g_istore_n (W : Wk p l e R s m args below meth c y bc mL rt Z a0 EL nw h0 T h fr ce sl) {pc pc' : Nat} {L : Array Slot} {S : List Value} {k : Fin 4} {x : Int32} {L' : Array Slot} (hd : decode bc pc = .ok (.istore_n k, 1)) (hp : pc + 1 = pc') (hl : storeLocals L k.val (.int x) = some L') (K : Goes p e below s Z EL nw h0 fr0 Q rm T (mkF m pc' L' S)) : Goes p e below s Z EL nw h0 fr0 Q rm T (mkF m pc L (.int x :: S)) := by
  subst hp
  exact Goes.step (fun _ q => XS.istoreN W.here W.hx rfl (hb W.hby hd) rfl hl q) K
theorem g_istore (W : Wk p l e R s m args below meth c y bc mL rt Z a0 EL nw h0 T h fr ce sl) {pc pc' : Nat} {L : Array Slot} {S : List Value} {k : Nat} {x : Int32} {L' : Array Slot} (hd : decode bc pc = .ok (.istore k, 2)) (hp : pc + 2 = pc') (hl : storeLocals L k (.int x) = some L') (K : Goes p e below s Z EL nw h0 fr0 Q rm T (mkF m pc' L' S)) : Goes p e below s Z EL nw h0 fr0 Q rm T (mkF m pc L (.int x :: S)) := by
  subst hp
  exact Goes.step (fun _ q => XS.istore W.here W.hx rfl (hb W.hby hd) rfl hl q) K
theorem g_astore_n (W : Wk p l e R s m args below meth c y bc mL rt Z a0 EL nw h0 T h fr ce sl) {pc pc' : Nat} {L : Array Slot} {S : List Value} {k : Fin 4} {v : Value} {L' : Array Slot} (hd : decode bc pc = .ok (.astore_n k, 1)) (hp : pc + 1 = pc') (hv : v.isRef = true) (hl : storeLocals L k.val v = some L') (K : Goes p e below s Z EL nw h0 fr0 Q rm T (mkF m pc' L' S)) : Goes p e below s Z EL nw h0 fr0 Q rm T (mkF m pc L (v :: S)) := by
  subst hp
  exact Goes.step (fun _ q => XS.astoreN W.here W.hx rfl (hb W.hby hd) rfl hv hl q) K
theorem g_astore (W : Wk p l e R s m args below meth c y bc mL rt Z a0 EL nw h0 T h fr ce sl) {pc pc' : Nat} {L : Array Slot} {S : List Value} {k : Nat} {v : Value} {L' : Array Slot} (hd : decode bc pc = .ok (.astore k, 2)) (hp : pc + 2 = pc') (hv : v.isRef = true) (hl : storeLocals L k v = some L') (K : Goes p e below s Z EL nw h0 fr0 Q rm T (mkF m pc' L' S)) : Goes p e below s Z EL nw h0 fr0 Q rm T (mkF m pc L (v :: S)) := by
  subst hp
  exact Goes.step (fun _ q => XS.astore W.here W.hx rfl (hb W.hby hd) rfl hv hl q) K
theorem g_lstore_n (W : Wk p l e R s m args below meth c y bc mL rt Z a0 EL nw h0 T h fr ce sl) {pc pc' : Nat} {L : Array Slot} {S : List Value} {k : Fin 4} {x : Int64} {L' : Array Slot} (hd : decode bc pc = .ok (.lstore_n k, 1)) (hp : pc + 1 = pc') (hl : storeLocals L k.val (.long x) = some L') (K : Goes p e below s Z EL nw h0 fr0 Q rm T (mkF m pc' L' S)) : Goes p e below s Z EL nw h0 fr0 Q rm T (mkF m pc L (.long x :: S)) := by
  subst hp
  exact Goes.step (fun _ q => Jvm.Free.XT.lstoreN W.here W.hx rfl (hb W.hby hd) rfl hl q) K
theorem g_lstore (W : Wk p l e R s m args below meth c y bc mL rt Z a0 EL nw h0 T h fr ce sl) {pc pc' : Nat} {L : Array Slot} {S : List Value} {k : Nat} {x : Int64} {L' : Array Slot} (hd : decode bc pc = .ok (.lstore k, 2)) (hp : pc + 2 = pc') (hl : storeLocals L k (.long x) = some L') (K : Goes p e below s Z EL nw h0 fr0 Q rm T (mkF m pc' L' S)) : Goes p e below s Z EL nw h0 fr0 Q rm T (mkF m pc L (.long x :: S)) := by
  subst hp
  exact Goes.step (fun _ q => Jvm.Free.XT.lstore W.here W.hx rfl (hb W.hby hd) rfl hl q) K
theorem g_iinc (W : Wk p l e R s m args below meth c y bc mL rt Z a0 EL nw h0 T h fr ce sl) {pc pc' : Nat} {L : Array Slot} {S : List Value} {k : Nat} {cst : Int} {x v : Int32} {L' : Array Slot} (hd : decode bc pc = .ok (.iinc k cst, 3)) (hp : pc + 3 = pc') (hv : Int32.ofInt cst = v) (hl : L[k]? = some (.val (.int x))) (hl' : storeLocals L k (.int (x + v)) = some L') (K : Goes p e below s Z EL nw h0 fr0 Q rm T (mkF m pc' L' S)) : Goes p e below s Z EL nw h0 fr0 Q rm T (mkF m pc L S) := by
  subst hp
  exact Goes.step (fun _ q => Jvm.Free.XT.iincV W.here W.hx rfl v (hb W.hby hd) hv hl hl' q) K
theorem g_goto (W : Wk p l e R s m args below meth c y bc mL rt Z a0 EL nw h0 T h fr ce sl) {pc pc' : Nat} {o : Int} {L : Array Slot} {S : List Value} (hd : decode bc pc = .ok (.goto o, 3)) (ho : 0 ≤ (pc : Int) + o) (hp : ((pc : Int) + o).toNat = pc') (K : Goes p e below s Z EL nw h0 fr0 Q rm T (mkF m pc' L S)) : Goes p e below s Z EL nw h0 fr0 Q rm T (mkF m pc L S) :=
  Goes.step (fun _ q => XS.goto W.here W.hx rfl rfl (hb W.hby hd) ho hp q) K
theorem g_ifY (W : Wk p l e R s m args below meth c y bc mL rt Z a0 EL nw h0 T h fr ce sl) {pc pc' : Nat} {o : Int} {L : Array Slot} {S : List Value} {cd : ClassFile.Cond} {x : Int32} (hd : decode bc pc = .ok (.ifCond cd o, 3)) (ho : 0 ≤ (pc : Int) + o) (hp : ((pc : Int) + o).toNat = pc') (hc : ifCond.holds cd x = true) (K : Goes p e below s Z EL nw h0 fr0 Q rm T (mkF m pc' L S)) : Goes p e below s Z EL nw h0 fr0 Q rm T (mkF m pc L (.int x :: S)) :=
  Goes.step (fun _ q => XS.ifYes W.here W.hx rfl rfl (hb W.hby hd) rfl hc ho hp q) K
theorem g_icmpY (W : Wk p l e R s m args below meth c y bc mL rt Z a0 EL nw h0 T h fr ce sl) {pc pc' : Nat} {o : Int} {L : Array Slot} {S : List Value} {cd : ClassFile.Cond} {x z : Int32} (hd : decode bc pc = .ok (.if_icmp cd o, 3)) (ho : 0 ≤ (pc : Int) + o) (hp : ((pc : Int) + o).toNat = pc') (hc : if_icmp.holds cd x z = true) (K : Goes p e below s Z EL nw h0 fr0 Q rm T (mkF m pc' L S)) : Goes p e below s Z EL nw h0 fr0 Q rm T (mkF m pc L (.int z :: .int x :: S)) :=
  Goes.step (fun _ q => XS.icmpYes W.here W.hx rfl rfl (hb W.hby hd) rfl hc ho hp q) K
theorem g_nullY (W : Wk p l e R s m args below meth c y bc mL rt Z a0 EL nw h0 T h fr ce sl) {pc pc' : Nat} {o : Int} {L : Array Slot} {S : List Value} {v : Value} (hd : decode bc pc = .ok (.ifnull o, 3)) (ho : 0 ≤ (pc : Int) + o) (hp : ((pc : Int) + o).toNat = pc') (hv : v = .null) (K : Goes p e below s Z EL nw h0 fr0 Q rm T (mkF m pc' L S)) : Goes p e below s Z EL nw h0 fr0 Q rm T (mkF m pc L (v :: S)) :=
  Goes.step (fun _ q => Jvm.Free.XT.nullYes W.here W.hx rfl rfl (hb W.hby hd) rfl hv ho hp q) K
theorem g_nonnullY (W : Wk p l e R s m args below meth c y bc mL rt Z a0 EL nw h0 T h fr ce sl) {pc pc' : Nat} {o : Int} {L : Array Slot} {S : List Value} {v : Value} (hd : decode bc pc = .ok (.ifnonnull o, 3)) (ho : 0 ≤ (pc : Int) + o) (hp : ((pc : Int) + o).toNat = pc') (hr : v.isRef = true) (hv : ¬ v = .null) (K : Goes p e below s Z EL nw h0 fr0 Q rm T (mkF m pc' L S)) : Goes p e below s Z EL nw h0 fr0 Q rm T (mkF m pc L (v :: S)) :=
  Goes.step (fun _ q => Jvm.Free.XT.nonnullYes W.here W.hx rfl rfl (hb W.hby hd) rfl hr hv ho hp q) K
theorem g_acmpY (W : Wk p l e R s m args below meth c y bc mL rt Z a0 EL nw h0 T h fr ce sl) {pc pc' : Nat} {o : Int} {L : Array Slot} {S : List Value} {cd : ACond} {v w : Value} (hd : decode bc pc = .ok (.if_acmp cd o, 3)) (ho : 0 ≤ (pc : Int) + o) (hp : ((pc : Int) + o).toNat = pc') (h1 : v.isRef = true) (h2 : w.isRef = true) (hc : Jvm.Free.XT.acmp cd v w = true) (K : Goes p e below s Z EL nw h0 fr0 Q rm T (mkF m pc' L S)) : Goes p e below s Z EL nw h0 fr0 Q rm T (mkF m pc L (w :: v :: S)) :=
  Goes.step (fun _ q => Jvm.Free.XT.acmpYes W.here W.hx rfl rfl (hb W.hby hd) rfl h1 h2 hc ho hp q) K
theorem g_ifN (W : Wk p l e R s m args below meth c y bc mL rt Z a0 EL nw h0 T h fr ce sl) {pc pc' : Nat} {L : Array Slot} {S : List Value} {cd : ClassFile.Cond} {o : Int} {x : Int32} (hd : decode bc pc = .ok (.ifCond cd o, 3)) (hp : pc + 3 = pc') (hc : ifCond.holds cd x = false) (K : Goes p e below s Z EL nw h0 fr0 Q rm T (mkF m pc' L S)) : Goes p e below s Z EL nw h0 fr0 Q rm T (mkF m pc L (.int x :: S)) := by
  subst hp
  exact Goes.step (fun _ q => XS.ifNo W.here W.hx rfl (hb W.hby hd) rfl hc q) K
theorem g_icmpN (W : Wk p l e R s m args below meth c y bc mL rt Z a0 EL nw h0 T h fr ce sl) {pc pc' : Nat} {L : Array Slot} {S : List Value} {cd : ClassFile.Cond} {o : Int} {x z : Int32} (hd : decode bc pc = .ok (.if_icmp cd o, 3)) (hp : pc + 3 = pc') (hc : if_icmp.holds cd x z = false) (K : Goes p e below s Z EL nw h0 fr0 Q rm T (mkF m pc' L S)) : Goes p e below s Z EL nw h0 fr0 Q rm T (mkF m pc L (.int z :: .int x :: S)) := by
  subst hp
  exact Goes.step (fun _ q => XS.icmpNo W.here W.hx rfl (hb W.hby hd) rfl hc q) K
theorem g_nullN (W : Wk p l e R s m args below meth c y bc mL rt Z a0 EL nw h0 T h fr ce sl) {pc pc' : Nat} {L : Array Slot} {S : List Value} {o : Int} {v : Value} (hd : decode bc pc = .ok (.ifnull o, 3)) (hp : pc + 3 = pc') (hr : v.isRef = true) (hv : ¬ v = .null) (K : Goes p e below s Z EL nw h0 fr0 Q rm T (mkF m pc' L S)) : Goes p e below s Z EL nw h0 fr0 Q rm T (mkF m pc L (v :: S)) := by
  subst hp
  exact Goes.step (fun _ q => Jvm.Free.XT.nullNo W.here W.hx rfl (hb W.hby hd) rfl hr hv q) K
theorem g_nonnullN (W : Wk p l e R s m args below meth c y bc mL rt Z a0 EL nw h0 T h fr ce sl) {pc pc' : Nat} {L : Array Slot} {S : List Value} {o : Int} {v : Value} (hd : decode bc pc = .ok (.ifnonnull o, 3)) (hp : pc + 3 = pc') (hv : v = .null) (K : Goes p e below s Z EL nw h0 fr0 Q rm T (mkF m pc' L S)) : Goes p e below s Z EL nw h0 fr0 Q rm T (mkF m pc L (v :: S)) := by
  subst hp
  exact Goes.step (fun _ q => Jvm.Free.XT.nonnullNo W.here W.hx rfl (hb W.hby hd) rfl hv q) K
theorem g_acmpN (W : Wk p l e R s m args below meth c y bc mL rt Z a0 EL nw h0 T h fr ce sl) {pc pc' : Nat} {L : Array Slot} {S : List Value} {cd : ACond} {o : Int} {v w : Value} (hd : decode bc pc = .ok (.if_acmp cd o, 3)) (hp : pc + 3 = pc') (h1 : v.isRef = true) (h2 : w.isRef = true) (hc : Jvm.Free.XT.acmp cd v w = false) (K : Goes p e below s Z EL nw h0 fr0 Q rm T (mkF m pc' L S)) : Goes p e below s Z EL nw h0 fr0 Q rm T (mkF m pc L (w :: v :: S)) := by
  subst hp
  exact Goes.step (fun _ q => Jvm.Free.XT.acmpNo W.here W.hx rfl (hb W.hby hd) rfl h1 h2 hc q) K
end K3
section K4
variable {l : Launch} {Z : State} {a0 : Array Value} {EL : List (String × Nat)} {nw : Bool} {h h' h1 h2 : Heap} {a b : Addr} {C : String} {v old : Value} {ws : List Addr}
theorem cat_ref (a : Addr) : (Value.ref a).category = 1 := rfl
theorem cat_int (x : Int32) : (Value.int x).category = 1 := rfl
theorem cat_null : Value.null.category = 1 := rfl
theorem cat_long (x : Int64) : (Value.long x).category = 2 := rfl
/-- a field's key: owner, name, descriptor -/
abbrev FK := String × String × String
def FldL (Z : State) (h : Heap) (a : Addr) (fs : List (FK × Value)) : Prop := ∀ (i : Nat) (k : FK) (v : Value), fs[i]? = some (k, v) → Fld Z h a k.1 k.2.1 k.2.2 v
theorem FldL.nil : FldL Z h a [] := fun i k v q => by simp at q
theorem FldL.cons {O n d : String} {r : List (FK × Value)} (F : Fld Z h a O n d v) (R : FldL Z h a r) : FldL Z h a (((O, n, d), v) :: r) := fun i k w q => by
  cases i with
  | zero => simp only [List.getElem?_cons_zero, Option.some.injEq, Prod.mk.injEq] at q; obtain ⟨rfl, rfl⟩ := q; exact F
  | succ i => simp only [List.getElem?_cons_succ] at q; exact R i k w q
/-- an object: its exact class, and what its fields hold -/
def Obj (Z : State) (h : Heap) (a : Addr) (C : String) (fs : List (FK × Value)) : Prop := Exa Z h a C ∧ FldL Z h a fs
theorem Obj.get {fs : List (FK × Value)} (F : Obj Z h a C fs) (i : Nat) {O n d : String} (q : fs[i]? = some ((O, n, d), v)) : Fld Z h a O n d v := F.2 i _ _ q
theorem Obj.keep {fs : List (FK × Value)} (F : Obj Z h a C fs) (K : Keep h h' ws) (q : a ∉ ws) : Obj Z h' a C fs := ⟨F.1.keep K, fun i k v z => (F.2 i k v z).keep K q⟩
theorem Obj.mv {fs : List (FK × Value)} (F : Obj Z h a C fs) (K : Keep h h' []) : Obj Z h' a C fs := F.keep K nin0
theorem Obj.ext {fs : List (FK × Value)} (F : Obj Z h a C fs) (E : Ext h h') : Obj Z h' a C fs := ⟨F.1.ext E, fun i k v z => (F.2 i k v z).ext E⟩
theorem Obj.lt {fs : List (FK × Value)} (F : Obj Z h a C fs) : a < h.size := F.1.lt
def Dis (Z : State) (ks : List FK) : Prop := ∀ (i j : Nat) (k k' : FK), i ≠ j → ks[i]? = some k → ks[j]? = some k' → RoadKit.slotOf Z k.1 k.2.1 k.2.2 ≠ RoadKit.slotOf Z k'.1 k'.2.1 k'.2.2
def LaidL (Z : State) (a0 : Array Value) (C : String) (ks : List FK) : Prop := ∀ k ∈ ks, Laid Z a0 C k.1 k.2.1 k.2.2 ∧ ∃ t, parseFieldDescriptor k.2.2 = some t
theorem LaidL.nil : LaidL Z a0 C [] := fun _ q => nomatch q
theorem LaidL.cons {O n d : String} {ks : List FK} (L : Laid Z a0 C O n d) (t : FieldType) (ht : parseFieldDescriptor d = some t) (R : LaidL Z a0 C ks) : LaidL Z a0 C ((O, n, d) :: ks) := fun k q => by
  rcases List.mem_cons.mp q with rfl | q
  · exact ⟨L, t, ht⟩
  · exact R k q
theorem Dis.of {ks : List FK} (L : LaidL Z a0 C ks) (nd : (ks.map fun k => k.2.1).Nodup) : Dis Z ks := fun i j k k' hij hi hj => by
  obtain ⟨l1, t1, p1⟩ := L k (List.mem_of_getElem? hi)
  obtain ⟨l2, t2, p2⟩ := L k' (List.mem_of_getElem? hj)
  refine slot_ne l1 l2 (fun q => hij ?_) p1 p2
  refine (List.getElem?_inj (l := ks.map fun k => k.2.1) ?_ nd).mp ?_
  · rw [List.length_map]; exact (List.getElem?_eq_some_iff.mp hi).1
  · simp [List.getElem?_map, hi, hj, q]
theorem Obj.put {fs : List (FK × Value)} {O n d : String} (F : Obj Z h a C fs) (W : Wr h h' a (RoadKit.slotOf Z O n d) v) (i : Nat) (q : fs[i]? = some ((O, n, d), old)) (D : Dis Z (fs.map Prod.fst)) : Obj Z h' a C (fs.set i ((O, n, d), v)) := by
  refine ⟨F.1.wr W, fun j k w z => ?_⟩
  by_cases e : i = j
  · subst e
    have hlt := (List.getElem?_eq_some_iff.mp q).1
    rw [List.getElem?_set_self hlt] at z
    cases z
    exact (F.2 i _ _ q).same W
  · rw [List.getElem?_set_ne e] at z
    refine (F.2 j k w z).other W (Or.inr (D j i k (O, n, d) (Ne.symm e) ?_ ?_))
    · simp [List.getElem?_map, z]
    · simp [List.getElem?_map, q]
theorem fits_ref0 {t : FieldType} (ht : t.isReference = true) (hv : v.isRef = true) : fits t v = true := by
  rcases ref_cases hv with rfl | ⟨x, rfl⟩ <;> cases t <;> first | rfl | cases ht
theorem narrow_ref0 {t : FieldType} (ht : t.isReference = true) : narrow t v = v := by cases t <;> first | rfl | cases ht
theorem Keep.newInit (E : Ext h h1) (K : Keep h1 h2 [a]) (g : a = h.size) : Keep h h2 [] := ((Keep.refl h []).ext E).trans K fun x q => by cases List.mem_singleton.mp q; exact Or.inr (Nat.le_of_eq g.symm)
theorem Keep.of_ext (E : Ext h h') : Keep h h' [] := (Keep.refl h []).ext E
theorem Keep.next (K : Keep h h1 []) (K' : Keep h1 h2 []) : Keep h h2 [] := K.trans K' fun _ q => nomatch q
theorem Keep.ofEq (e : h' = h) : Keep h h' ws := e ▸ Keep.refl _ _
/-- a getter of a reference or a number -/
theorem met_getter {y : MethodName} {bc : ByteArray} {t : FieldType} {rm : Room} {lc : List Jvm.Cond} {O n d : String} {ix : Nat} (hn : plainFor y = true) (hEL : EW Z a0 EL) (hX : Ext Z.heap h) (d0 : decode bc 0 = .ok (.aload_n 0, 1)) (d1 : decode bc 1 = .ok (.getfield ix, 3)) (w : (Jvm.Cond.fieldLink y.cls ix O n d).before a0 Z = true) (F : Fld Z h a O n d v)
    (hv : (decode bc 4 = .ok (.areturn, 1) ∧ t.isReference = true ∧ v.isRef = true) ∨ (decode bc 4 = .ok (.ireturn, 1) ∧ (t = .int ∨ t = .boolean ∨ t = .byte ∨ t = .char ∨ t = .short) ∧ narrow t v = v ∧ ∃ z, v = .int z)) :
    Met l Z EL nw y bc 1 (some t) lc rm #[.ref a] h [] (fun r h' => h = h' ∧ r = some v) := by
  refine Met.intro hn hEL hX (fun _ q => nomatch q) ?_
  intro p e s m below meth c T W
  refine Goes.cast (show entryFrame m #[.ref a] 1 = mkF m 0 #[.val (.ref a)] [] by simp [entryFrame, mkF, argsToLocals, Value.category]) ?_
  refine g_aload_n W d0 (pc' := 1) rfl rfl rfl ?_
  refine g_getfield W d1 (pc' := 4) (host := "") rfl (Or.inl w) Via.refl F fun T1 W1 => ?_
  rcases hv with ⟨d4, ht, hr⟩ | ⟨d4, ht, hr, z, rfl⟩
  · exact g_areturn W1 d4 ht hr (narrow_ref0 ht) (Keep.refl _ _) ⟨rfl, rfl⟩ (Nat.zero_le _) (Nat.zero_le _)
  · exact g_ireturn W1 d4 ht hr (Keep.refl _ _) ⟨rfl, rfl⟩ (Nat.zero_le _) (Nat.zero_le _)
end K4
section K5
variable {p : Program} {l : Launch} {e : Env} {R : Room} {s : State} {args : Array Value} {below : List Frame} {Z : State} {a0 : Array Value} {EL : List (String × Nat)} {nw : Bool} {h h' : Heap} {Wd len : Nat} {x b : Addr} {cs ds : List Int32}
/-- a String at x spells cs -/
def Str (Z : State) (h : Heap) (x : Addr) (cs : List Int32) : Prop := ∃ (t : Addr) (kb : ClassId) (cd N2 : Int32) (vs : List Value), Exa Z h x "java/lang/String" ∧ Fld Z h x "java/lang/String" "value" "[B" (.ref t) ∧ Fld Z h x "java/lang/String" "coder" "B" (.int cd) ∧ Arv Z h t kb .byte N2 vs (.int 0) ∧ StrChars.Road.CodA cs cd N2 vs ∧ (∀ c ∈ cs, ¬ c < 0 ∧ ¬ (65535 : Int32) < c) ∧ cs.length ≤ 4000
theorem Str.mv (F : Str Z h x cs) (K : Keep h h' []) : Str Z h' x cs := by
  obtain ⟨t, kb, cd, N2, vs, q1, q2, q3, q4, q5⟩ := F
  exact ⟨t, kb, cd, N2, vs, q1.keep K, q2.keep K nin0, q3.keep K nin0, q4.keep K nin0, q5⟩
theorem Str.exa (F : Str Z h x cs) : Exa Z h x "java/lang/String" := by obtain ⟨t, kb, cd, N2, vs, q1, -⟩ := F; exact q1
theorem Str.lt (F : Str Z h x cs) : x < h.size := F.exa.lt
theorem up16 (hp : ∀ c ∈ cs, ¬ c < 0 ∧ ¬ (255 : Int32) < c) : ∀ c ∈ cs, ¬ c < 0 ∧ ¬ (65535 : Int32) < c := fun c q => ⟨(hp c q).1, fun z => (hp c q).2 (by rw [Int32.lt_iff_toInt_lt] at z ⊢; have e1 : (65535 : Int32).toInt = 65535 := (by decide); have e2 : (255 : Int32).toInt = 255 := (by decide); omega)⟩
theorem nar_mask (x : Int32) : RoadKit.nar .char ((x &&& 255).toUInt32.toUInt16.toUInt32.toInt32) = x &&& 255 := by
  show ((x &&& 255).toUInt32.toUInt16.toUInt32.toInt32).toUInt32.toUInt16.toUInt32.toInt32 = x &&& 255
  rw [i2c_mask, i2c_mask]
theorem nar_mask1 (x : Int32) : RoadKit.nar .char (x &&& 255) = x &&& 255 := i2c_mask x
theorem low255 (x : Int32) : ¬ (x &&& 255) < 0 ∧ ¬ (255 : Int32) < (x &&& 255) := by
  have q := c_and x 255 (by decide)
  have e : (255 : Int32).toInt = 255 := (by decide)
  have e0 : (0 : Int32).toInt = 0 := (by decide)
  constructor <;> (rw [Int32.lt_iff_toInt_lt]; omega)
theorem lowN : ∀ c ∈ ([] : List Int32), ¬ c < 0 ∧ ¬ (255 : Int32) < c := fun _ q => nomatch q
theorem lowC (x : Int32) {cs : List Int32} (h : ∀ c ∈ cs, ¬ c < 0 ∧ ¬ (255 : Int32) < c) : ∀ c ∈ (x &&& 255) :: cs, ¬ c < 0 ∧ ¬ (255 : Int32) < c := fun c q => by
  rcases List.mem_cons.mp q with rfl | q
  · exact low255 x
  · exact h c q
theorem lowK {x : Int32} (hx : ¬ x < 0 ∧ ¬ (255 : Int32) < x) {cs : List Int32} (h : ∀ c ∈ cs, ¬ c < 0 ∧ ¬ (255 : Int32) < c) : ∀ c ∈ x :: cs, ¬ c < 0 ∧ ¬ (255 : Int32) < c := fun c q => by
  rcases List.mem_cons.mp q with rfl | q
  · exact hx
  · exact h c q
/-- new String(char[]) of 1 to 4000 chars below 256 -/
theorem pays_newStr {v0 c0 d : Value} {kC : ClassId} {N z : Int32} {n : Nat} (hEL : EW Z a0 EL) (hws : ∀ d ∈ StrChars.Road.words, d.before a0 Z = true) (wi : (Jvm.Cond.instantiable "java/lang/String" 4).before a0 Z = true) (O : Obj Z h x "java/lang/String" [(("java/lang/String", "value", "[B"), v0), (("java/lang/String", "coder", "B"), c0)]) (K : Arv Z h b kC .char N (cs.map Value.int) d) (Sc : Sta Z Z.heap "java/lang/String" "COMPACT_STRINGS" "Z" (.int z)) (hz : ¬ z = 0) (hX : Ext Z.heap h) (hx0 : Z.heap.size ≤ x)
    (hn : cs.length = n) (hN : N = Int32.ofNat n) (l0 : 0 < n) (l2 : n ≤ 4000) (hp : ∀ c ∈ cs, ¬ c < 0 ∧ ¬ (255 : Int32) < c) (hfr : 4 ≤ R.frames) (hlo : Wd + 65 ≤ R.locals) :
    Pays l R p e below s args Z EL nw (⟨"java/lang/String", "<init>", "([C)V"⟩ : MethodName) len Wd #[.ref x, .ref b] h [x] (fun v h' => v = none ∧ Str Z h' x cs) 1 n :=
  pays_back hEL (fun vm hZ => StrChars.Road.backV (W := Wd) (s := s.setVm vm) hZ hws wi hx0 hX.1 O.1 (O.get 0 rfl) (O.get 1 rfl) K (Sc.ext hX) hz hn hN l0 l2 hp rfl hfr hlo) fun v h' L q => by
    obtain ⟨rfl, q1, q2, q3, q4, t, kb, -, -, -, q5, q6⟩ := q
    refine ⟨q2, ⟨rfl, t, kb, 0, N, _, q3, q5, q4, q6, ?_, up16 hp, by rw [hn]; exact l2⟩, q1⟩
    rw [hN]
    exact StrChars.Road.codOf hn fun c q => (hp c q).2
end K5
section K6
theorem of_toInt {x : Int32} {k : Int} {c : Int32} (h : x.toInt = k) (e : c.toInt = k) : x = c := Int32.toInt_inj.mp (h.trans e.symm)
theorem and3 (x : Int32) : x &&& 3 = 0 ∨ x &&& 3 = 1 ∨ x &&& 3 = 2 ∨ x &&& 3 = 3 := by
  have q := c_and x 3 (by decide)
  have e : (3 : Int32).toInt = 3 := (by decide)
  rcases (by omega : (x &&& 3).toInt = 0 ∨ (x &&& 3).toInt = 1 ∨ (x &&& 3).toInt = 2 ∨ (x &&& 3).toInt = 3) with h | h | h | h
  · exact Or.inl (of_toInt h (by decide))
  · exact Or.inr (Or.inl (of_toInt h (by decide)))
  · exact Or.inr (Or.inr (Or.inl (of_toInt h (by decide))))
  · exact Or.inr (Or.inr (Or.inr (of_toInt h (by decide))))
end K6
theorem mod3 (x : Int32) : (x &&& 2147483647) % 3 = 0 ∨ (x &&& 2147483647) % 3 = 1 ∨ (x &&& 2147483647) % 3 = 2 := by
  have q := c_and x 2147483647 (by decide)
  have r := (c_iremV (x &&& 2147483647) 3).1 q.1 (by decide)
  have e : (3 : Int32).toInt = 3 := (by decide)
  rcases (by omega : ((x &&& 2147483647) % 3).toInt = 0 ∨ ((x &&& 2147483647) % 3).toInt = 1 ∨ ((x &&& 2147483647) % 3).toInt = 2) with h | h | h
  · exact Or.inl (of_toInt h (by decide))
  · exact Or.inr (Or.inl (of_toInt h (by decide)))
  · exact Or.inr (Or.inr (of_toInt h (by decide)))
theorem pays_emp {p : Program} {l : Launch} {e : Env} {R : Room} {s : State} {args : Array Value} {below : List Frame} {Z : State} {a0 : Array Value} {EL : List (String × Nat)} {nw : Bool} {h : Heap} {Wd len : Nat} {x : Addr} {cs : List Int32} (hEL : EW Z a0 EL) (hws : ∀ d ∈ StrChars.Road.wordsEmp, d.before a0 Z = true) (wi : (Jvm.Cond.instantiable "java/lang/String" 4).before a0 Z = true) (F : Str Z h x cs) (hfr : 1 ≤ R.frames) (hlo : Wd + 12 ≤ R.locals) :
    Pays l R p e below s args Z EL nw (⟨"java/lang/String", "isEmpty", "()Z"⟩ : MethodName) len Wd #[.ref x] h [] (fun v h' => h = h' ∧ v = some (.int (if cs.length = 0 then 1 else 0))) 0 0 := by
  obtain ⟨t, kb, cd, N2, vs, q1, q2, q3, q4, q5, q6, q7⟩ := F
  exact pays_back (Q0 := fun v h' L => v = some (.int (if cs.length = 0 then 1 else 0)) ∧ L = [] ∧ h' = h) hEL (fun vm hZ => StrChars.Road.empW (W := Wd) (s := s.setVm vm) hZ hws wi q1 q2 q3 q4 q5 q6 q7 hfr hlo) fun v h' L q => by
    obtain ⟨rfl, rfl, rfl⟩ := q
    exact ⟨Keep.refl _ _, ⟨rfl, rfl⟩, Fr.nil _⟩
section K7
variable {p : Program} {l : Launch} {e : Env} {R : Room} {s : State} {m : MethodId} {args : Array Value} {below : List Frame} {meth : Method} {c : Code} {y z : MethodName} {bc bc' : ByteArray} {mL mL' : Nat} {rt rt' : Option FieldType} {Z : State} {a0 : Array Value} {EL : List (String × Nat)} {nw : Bool} {h0 h h' : Heap} {T T' U : State} {fr fr' fr0 : List Addr} {ce sl kc ks len Wd : Nat} {rm rm' : Room} {Q Q' : Option Value → Heap → Prop} {as : Array Value}
theorem g_private (W : Wk p l e R s m args below meth c y bc mL rt Z a0 EL nw h0 T h fr ce sl) {index pc pc' : Nat} {L : Array Slot} {S argsL rest : List Value} {a : Addr} {C : String} (hd : decode bc pc = .ok (.invokevirtual index, 3)) (hp : pc + 3 = pc')
    (wl : (Jvm.Cond.methodLink y.cls index z).before a0 Z = true) (wi : (Jvm.Cond.instanceMethod z).before a0 Z = true) (ws : (Jvm.Cond.selects z.cls z z).before a0 Z = true) (wp : (Jvm.Cond.privateMethod z).before a0 Z = true) (wc : (Jvm.Cond.code z bc' mL' rt').before a0 Z = true) (hy : z.cls ≠ "java/lang/invoke/MethodHandle" ∧ z.cls ≠ "java/lang/invoke/VarHandle") (E : Exa Z h a C)
    (hL : L.size = mL) (hSt : S = argsL.reverse ++ .ref a :: rest) (hlen : ∀ sig, parseMethodDescriptor z.desc = some sig → argsL.length = sig.parameters.length) (hW : (rest.map fun v => v.category).sum = Wd) (hm : ∀ x ∈ fr', x ∈ fr) (hc : ce + kc ≤ R.cells) (hs : sl + ks ≤ R.slots)
    (P : Pays l R p e below s args Z EL nw z 3 Wd (.ref a :: argsL).toArray h fr' Q' kc ks)
    (K : ∀ v T' h', Wk p l e R s m args below meth c y bc mL rt Z a0 EL nw h0 T' h' fr (ce + kc) (sl + ks) → Keep h h' fr' → Q' v h' → Goes p e below s Z EL nw h0 fr0 Q rm T' (mkF m pc' L (v.toList ++ rest))) : Goes p e below s Z EL nw h0 fr0 Q rm T (mkF m pc L S) := by
  have hx := W.hx
  have hby := W.hby
  have hml := W.hml
  obtain ⟨vm, k, locs, X, eT, q2, q3, q4, q5⟩ := W
  subst hp
  obtain ⟨cl, hcl, hob⟩ := E.cell
  obtain ⟨v, vm1, ⟨U, Lc, kc', ks'⟩, hv1, X', hS', hg, ⟨L', ⟨k1, k2, k3⟩, e1, e2, e3, hC, hN⟩, st⟩ := X.privateBackS hx (own := y.cls) q2.2.2.2.1 (mvT q2.2.2.1 wl) (mvT q2.2.2.1 wi) (mvT q2.2.2.1 ws) (Cond.privateMethod_at (mvP (s := s.setVm vm) (args := args) q2.2.2.1 wp)) (mvT q2.2.2.1 wc) hy (P vm q2.2.2.1 q3.2.1 fun x hx => (q4.2.2 x (hm x hx)).2.2) (g := mkF m pc L S) rfl (by rw [hml]; exact hL) (Steps.refl _) (a := a) (by rw [eT]; exact hcl) hob (argsL := argsL) (rest := rest) hlen hSt (by show 2 * 0 + _ ≤ _; rw [hW]; exact Nat.le_of_eq (Nat.zero_add _)) (hb hby hd) (fun _ _ => ⟨rfl, eT, hc, hs⟩)
  dsimp only [Pt.U, Pt.locs, Pt.cells, Pt.slots] at X' hS' hg k1 k2 e1 e2 e3 hC hN st
  subst e1 e2 e3
  exact Goes.step (fun t q => st.trans q) (K v U U.heap (Wk.back eT q2 q3 q4 q5 hm X' hS' hg k1 k3 hC hN) k1 k2)
theorem g_interface (W : Wk p l e R s m args below meth c y bc mL rt Z a0 EL nw h0 T h fr ce sl) {xi : MethodName} {C : String} {index count pc pc' : Nat} {L : Array Slot} {S argsL rest : List Value} {a : Addr} (hd : decode bc pc = .ok (.invokeinterface index count, 5)) (hp : pc + 5 = pc')
    (wl : (Jvm.Cond.methodLink y.cls index xi).before a0 Z = true) (wd : (Jvm.Cond.declares xi).before a0 Z = true) (wf : (Jvm.Cond.interfaceMethod xi.cls xi.cls xi.name xi.desc).before a0 Z = true) (ws : (Jvm.Cond.selects C xi z).before a0 Z = true) (wi : (Jvm.Cond.instanceMethod z).before a0 Z = true) (wp : (Jvm.Cond.publicMethod z).before a0 Z = true) (wu : (Jvm.Cond.unhidden C xi.name xi.desc).before a0 Z = true) (wc : (Jvm.Cond.castable C xi.cls).before a0 Z = true) (kf : ((Jvm.Cond.interfaceMethod xi.cls xi.cls xi.name xi.desc).onTables && (Jvm.Cond.interfaceMethod xi.cls xi.cls xi.name xi.desc).keepsFace) = true) (hy : xi.cls ≠ "java/lang/invoke/MethodHandle" ∧ xi.cls ≠ "java/lang/invoke/VarHandle") (E : Exa Z h a C)
    (hL : L.size = mL) (hSt : S = argsL.reverse ++ .ref a :: rest) (hlen : ∀ sig, parseMethodDescriptor xi.desc = some sig → argsL.length = sig.parameters.length) (hW : (rest.map fun v => v.category).sum = Wd) (hm : ∀ x ∈ fr', x ∈ fr) (hc : ce + kc ≤ R.cells) (hs : sl + ks ≤ R.slots)
    (P : Pays l R p e below s args Z EL nw z 5 Wd (.ref a :: argsL).toArray h fr' Q' kc ks)
    (K : ∀ v T' h', Wk p l e R s m args below meth c y bc mL rt Z a0 EL nw h0 T' h' fr (ce + kc) (sl + ks) → Keep h h' fr' → Q' v h' → Goes p e below s Z EL nw h0 fr0 Q rm T' (mkF m pc' L (v.toList ++ rest))) : Goes p e below s Z EL nw h0 fr0 Q rm T (mkF m pc L S) := by
  have hx := W.hx
  have hby := W.hby
  have hml := W.hml
  obtain ⟨vm, k, locs, X, eT, q2, q3, q4, q5⟩ := W
  subst hp
  obtain ⟨cB, kB, r1, r2, r3⟩ := isOf (s := s.setVm vm) q2.2.2.1 eT E
  obtain ⟨v, vm1, ⟨U, Lc, kc', ks'⟩, hv1, X', hS', hg, ⟨L', ⟨k1, k2, k3⟩, e1, e2, e3, hC, hN⟩, st⟩ := X.interfaceBackS hx (own := y.cls) q2.2.2.2.1 (mvT q2.2.2.1 wl) (mvT q2.2.2.1 wd) (mvT q2.2.2.1 wf kf) (mvT q2.2.2.1 ws) (mvT q2.2.2.1 wi) (mvT q2.2.2.1 wp) (mvT q2.2.2.1 wu) (mvT q2.2.2.1 wc) hy (P vm q2.2.2.1 q3.2.1 fun x hx => (q4.2.2 x (hm x hx)).2.2) r1 r2 r3 (g := mkF m pc L S) rfl (by rw [hml]; exact hL) (Steps.refl _) (argsL := argsL) (rest := rest) hlen hSt (by show 2 * 0 + _ ≤ _; rw [hW]; exact Nat.le_of_eq (Nat.zero_add _)) (hb hby hd) (fun _ _ => ⟨rfl, eT, hc, hs⟩)
  dsimp only [Pt.U, Pt.locs, Pt.cells, Pt.slots] at X' hS' hg k1 k2 e1 e2 e3 hC hN st
  subst e1 e2 e3
  exact Goes.step (fun t q => st.trans q) (K v U U.heap (Wk.back eT q2 q3 q4 q5 hm X' hS' hg k1 k3 hC hN) k1 k2)
theorem g_anewarray (W : Wk p l e R s m args below meth c y bc mL rt Z a0 EL nw h0 T h fr ce sl) {C ad : String} {index pc pc' cap : Nat} {L : Array Slot} {S : List Value} {n : Int32} (hd : decode bc pc = .ok (.anewarray index, 3)) (hp : pc + 3 = pc') (w1 : (Jvm.Cond.classLink y.cls index C).before a0 Z = true) (w2 : (Jvm.Cond.arrayOver (.object C)).before a0 Z = true) (hn : ¬ n < 0) (hcap : n.toNatClampNeg ≤ cap) (hbig : cap * 8 ≤ 536870912) (had : "[" ++ (FieldType.object C).toString = ad) (hc : ce + 1 ≤ R.cells) (hs : sl + cap ≤ R.slots)
    (K : ∀ T' h' a kA, a = h.size → Wk p l e R s m args below meth c y bc mL rt Z a0 EL nw h0 T' h' (a :: fr) (ce + 1) (sl + cap) → Ext h h' → Arv Z h' a kA (.object C) n [] .null → Exa Z h' a ad → Ovr Z kA C → Goes p e below s Z EL nw h0 fr0 Q rm T' (mkF m pc' L (.ref a :: S))) : Goes p e below s Z EL nw h0 fr0 Q rm T (mkF m pc L (.int n :: S)) := by
  have hx := W.hx
  have hby := W.hby
  have hE := W.ext
  obtain ⟨vm, k, locs, X, eT, q2, q3, q4, q5⟩ := W
  subst hp
  obtain ⟨T', h', kA, X', e', E, A, x1, x2, st⟩ := newRE X hx q2.2.2.1 (own := y.cls) q2.2.2.2.1 w1 w2 eT (g := mkF m pc L (.int n :: S)) rfl (hb hby hd) rfl hn hcap hbig hc hs had
  refine Goes.step st (K T' h' _ kA rfl ⟨vm, k, locs, X', e', ⟨q2.1, Nat.le_trans q2.2.1 E.1, q2.2.2⟩, ⟨q3.1, q3.2.trans (CHr.ext E q3.2.1)⟩, ⟨q4.1, ⟨Nat.le_trans hE.1 E.1, fun a c q => E.2 a c (hE.2 a c q)⟩, fun x hx => ?_⟩, q5⟩ E (Arv.new A hn) x1 x2)
  rcases List.mem_cons.mp hx with rfl | hx
  · exact ⟨hE.1, A.lt, (Safe.new (Nat.le_refl _)).ext E q3.2.1⟩
  · exact ⟨(q4.2.2 x hx).1, Nat.lt_of_lt_of_le (q4.2.2 x hx).2.1 E.1, (q4.2.2 x hx).2.2.ext E q3.2.1⟩
theorem g_aastore (W : Wk p l e R s m args below meth c y bc mL rt Z a0 EL nw h0 T h fr ce sl) {C : String} {pc pc' i : Nat} {kA : ClassId} {L : Array Slot} {S : List Value} {a b : Addr} {j n : Int32} {vs : List Value} {dv : Value} (hd : decode bc pc = .ok (.aastore, 1)) (hp : pc + 1 = pc') (A : Arv Z h a kA (.object C) n vs dv) (hO : Ovr Z kA C) (hI : Ins Z h b C true) (hj : ¬ j < 0 ∧ j < n) (hi : j.toNatClampNeg = i) (hl : i < vs.length) (hm : a ∈ fr)
    (K : ∀ T' h', Wk p l e R s m args below meth c y bc mL rt Z a0 EL nw h0 T' h' fr ce sl → Wr h h' a j.toNatClampNeg (.ref b) → Arv Z h' a kA (.object C) n (vs.set i (.ref b)) dv → Goes p e below s Z EL nw h0 fr0 Q rm T' (mkF m pc' L S)) : Goes p e below s Z EL nw h0 fr0 Q rm T (mkF m pc L (.ref b :: .int j :: .ref a :: S)) := by
  have hx := W.hx
  have hby := W.hby
  obtain ⟨vm, k, locs, X, eT, q2, q3, q4, q5⟩ := W
  subst hp
  obtain ⟨cl, A1, A2, A3, A4, A5, A6⟩ := A
  obtain ⟨T', h', X', e', W', st⟩ := stR X hx q2.2.2.1 eT A1 (j := j) (v := .ref b) (inb_of A3 hj) rfl (Sto.ofV A1 A2 hO hI) (g := mkF m pc L (.ref b :: .int j :: .ref a :: S)) rfl rfl (hb hby hd)
  exact Goes.step st (K T' h' (Wk.wrote hm W' X' e' q2 q3 q4 q5) W' (Arv.set A1 A2 A3 A4 A5 A6 rfl W' i hi hl))
theorem g_instNo (W : Wk p l e R s m args below meth c y bc mL rt Z a0 EL nw h0 T h fr ce sl) {K0 C : String} {index pc pc' : Nat} {L : Array Slot} {S : List Value} {a : Addr} (hd : decode bc pc = .ok (.instanceof index, 3)) (hp : pc + 3 = pc') (w : (Jvm.Cond.classLink y.cls index K0).before a0 Z = true) (E : Exa Z h a C) (F : ∃ c t, Z.vm.findClass C = some c ∧ Z.vm.findClass K0 = some t ∧ Z.vm.assignable c t = false)
    (K : ∀ T', Wk p l e R s m args below meth c y bc mL rt Z a0 EL nw h0 T' h fr ce sl → Goes p e below s Z EL nw h0 fr0 Q rm T' (mkF m pc' L (.int 0 :: S))) : Goes p e below s Z EL nw h0 fr0 Q rm T (mkF m pc L (.ref a :: S)) := by
  have hx := W.hx
  have hby := W.hby
  obtain ⟨vm, k, locs, X, eT, q2, q3, q4, q5⟩ := W
  subst hp
  obtain ⟨T', X', e', st⟩ := instNo X hx q2.2.2.1 (own := y.cls) q2.2.2.2.1 w eT E F (g := mkF m pc L (.ref a :: S)) rfl rfl (hb hby hd)
  exact Goes.step st (K T' ⟨vm, k, locs, X', e', q2, q3, q4, q5⟩)
theorem Wk.addArv (W : Wk p l e R s m args below meth c y bc mL rt Z a0 EL nw h0 T h fr ce sl) {d : Addr} {k : ClassId} {ty : FieldType} {n : Int32} {vs : List Value} {dv : Value} (A : Arv Z h d k ty n vs dv) (ht : ty ≠ .byte) (g : Z.heap.size ≤ d) : Wk p l e R s m args below meth c y bc mL rt Z a0 EL nw h0 T h (d :: fr) ce sl := by
  obtain ⟨vm, k, locs, X, w1, w2, w3, ⟨w4, w5, w6⟩, w7⟩ := W
  refine ⟨vm, k, locs, X, w1, w2, w3, ⟨w4, w5, fun x hx => ?_⟩, w7⟩
  rcases List.mem_cons.mp hx with rfl | hx
  · exact ⟨g, A.lt, Safe.arv w2.2.2.1.alike A ht⟩
  · exact w6 x hx
theorem Wk.addExa (W : Wk p l e R s m args below meth c y bc mL rt Z a0 EL nw h0 T h fr ce sl) {d : Addr} {C : String} (E : Exa Z h d C) (h1 : C ≠ "java/lang/String") (h2 : C ≠ "[B") (g : Z.heap.size ≤ d) : Wk p l e R s m args below meth c y bc mL rt Z a0 EL nw h0 T h (d :: fr) ce sl := by
  obtain ⟨vm, k, locs, X, w1, w2, w3, ⟨w4, w5, w6⟩, w7⟩ := W
  refine ⟨vm, k, locs, X, w1, w2, w3, ⟨w4, w5, fun x hx => ?_⟩, w7⟩
  rcases List.mem_cons.mp hx with rfl | hx
  · exact ⟨g, E.lt, Safe.exa w2.2.2.1.alike E h1 h2⟩
  · exact w6 x hx
end K7
theorem eqint_v {args : Array Value} {first s : State} {o : Option Outcome} {idx : List Nat} {a : Term} {k : Int32} (h : (Jvm.Cond.eq a (.int k)).value args first o s idx = some true) : a.eval args first o idx s = some (.int k) := by
  have hb : (Term.int k).eval args first o idx s = some (.int k) := Term.int_eval k
  simp only [Cond.value, hb] at h
  cases ha : a.eval args first o idx s with
  | none => simp [ha] at h
  | some v => cases v <;> simp_all
theorem arv0 {Z : State} {args : Array Value} {t : Term} {ty : FieldType} {de : Addr} {dv : Value} (ev : t.eval args Z none [] Z = some (.ref de)) (h1 : (Jvm.Cond.arrayOf t ty).value args Z none Z [] = some true) (h2 : (Jvm.Cond.eq (.length t) (.int 0)).value args Z none Z [] = some true) : ∃ k, Arv Z Z.heap de k ty 0 [] dv := by
  obtain ⟨c, A⟩ := Arr.start ev h1
  have e := eqint_v h2
  have hf : Z.arrayAt? de = some c := A.fin (Vm.Alike.refl _)
  simp [Term.eval, ev, hf] at e
  have e0 : c.slots.size = 0 := by
    have q := len_toInt e.1
    rw [e.2] at q
    have : (0 : Int32).toInt = 0 := (by decide)
    omega
  exact ⟨c.cls, c, A, rfl, by rw [e0]; rfl, by decide, fun i hi => by omega, fun i hi => by omega⟩
/-- the object at a is no String and no byte[] -/
def NotStr (Z : State) (a0 : Array Value) (h : Heap) (a : Addr) : Prop := (∃ C n, Exa Z h a C ∧ C ≠ "java/lang/String" ∧ (Jvm.Cond.instantiable C n).before a0 Z = true) ∨ (∃ k ty n vs dv, Arv Z h a k ty n vs dv ∧ ty ≠ .byte)
theorem Str.keepN {Z : State} {a0 : Array Value} {h h' : Heap} {x : Addr} {cs : List Int32} {ws : List Addr} (wS : (Jvm.Cond.instantiable "java/lang/String" 4).before a0 Z = true) (F : Str Z h x cs) (K : Keep h h' ws) (q : ∀ a ∈ ws, NotStr Z a0 h' a) : Str Z h' x cs := by
  obtain ⟨t, kb, cd, N2, vs, q1, q2, q3, q4, q5⟩ := F
  have hx : x ∉ ws := fun hm => by
    rcases q x hm with ⟨C, n, E, hC, wi⟩ | ⟨k, ty, n, vs, dv, A, ht⟩
    · exact (Exa.ne E (q1.keep K) hC) rfl
    · exact (Exa.neArv (q1.keep K) A wS) rfl
  have ht : t ∉ ws := fun hm => by
    obtain ⟨c, A1, -⟩ := q4
    obtain ⟨c', r1, r2, r3, -⟩ := K.2.2 t c A1.1
    obtain ⟨a1, k1, a2, comp, a3⟩ := A1.2.1
    have A' : Arr Z h' t c' .byte := ⟨r1, ⟨fun z => by rw [r3]; exact a1 z, k1, by rw [r2]; exact a2, comp, a3⟩, by rw [r3]; exact A1.2.2⟩
    rcases q t hm with ⟨C, n, E, hC, wi⟩ | ⟨k, ty, n, vs, dv, A, hty⟩
    · exact (ne_arr E wi A') rfl
    · obtain ⟨c2, B1, -⟩ := A
      have e2 : c' = c2 := Option.some.inj (r1.symm.trans B1.1)
      subst e2
      obtain ⟨-, k2, b2, comp2, b3⟩ := B1.2.1
      rw [r2] at b2
      cases a2.symm.trans b2
      rw [a3] at b3
      cases b3
      exact hty rfl
  exact ⟨t, kb, cd, N2, vs, q1.keep K, q2.keep K hx, q3.keep K hx, q4.keep K ht, q5⟩
section K9
variable {p : Program} {l : Launch} {e : Env} {R : Room} {s : State} {m : MethodId} {args : Array Value} {below : List Frame} {meth : Method} {c : Code} {y : MethodName} {bc : ByteArray} {mL : Nat} {rt : Option FieldType} {Z : State} {a0 : Array Value} {EL : List (String × Nat)} {nw : Bool} {h0 h h' : Heap} {T T' : State} {fr fr' fr0 : List Addr} {ce sl kc ks kc' ks' len Wd : Nat} {Q : Option Value → Heap → Prop} {as : Array Value}
theorem nar_ch (x : Int32) : RoadKit.nar .char (x.toUInt32.toUInt16.toUInt32.toInt32) = x.toUInt32.toUInt16.toUInt32.toInt32 := by
  generalize x.toUInt32.toUInt16 = y
  show y.toUInt32.toInt32.toUInt32.toUInt16.toUInt32.toInt32 = y.toUInt32.toInt32
  simp
theorem rng_ch (x : Int32) : ¬ (x.toUInt32.toUInt16.toUInt32.toInt32) < 0 ∧ ¬ (65535 : Int32) < x.toUInt32.toUInt16.toUInt32.toInt32 := by
  have hn : x.toUInt32.toUInt16.toNat < 65536 := x.toUInt32.toUInt16.toNat_lt
  have hx : x.toUInt32.toUInt16.toUInt32.toInt32.toInt = x.toUInt32.toUInt16.toNat := by
    show (x.toUInt32.toUInt16.toUInt32.toInt32).toBitVec.toInt = _
    have e : (x.toUInt32.toUInt16.toUInt32.toInt32).toBitVec.toNat = x.toUInt32.toUInt16.toNat := by
      show x.toUInt32.toUInt16.toUInt32.toNat = _
      simp
    rw [BitVec.toInt_eq_toNat_cond, e]
    split <;> omega
  have e : (65535 : Int32).toInt = 65535 := (by decide)
  have e0 : (0 : Int32).toInt = 0 := (by decide)
  constructor <;> (rw [Int32.lt_iff_toInt_lt]; omega)
theorem nar_lo (c : Int32) : RoadKit.nar .byte ((c >>> ((0 : Int32) &&& 31)).toInt8.toInt32) = StrChars.lo8 c := by
  rw [StrChars.shr0]
  show (c.toInt8.toInt32).toInt8.toInt32 = c.toInt8.toInt32
  simp
theorem nar_hi (c : Int32) : RoadKit.nar .byte ((c >>> ((8 : Int32) &&& 31)).toInt8.toInt32) = StrChars.hi8 c := by
  show ((c >>> ((8 : Int32) &&& 31)).toInt8.toInt32).toInt8.toInt32 = (c >>> ((8 : Int32) &&& 31)).toInt8.toInt32
  simp
theorem rngN : ∀ c ∈ ([] : List Int32), ¬ c < 0 ∧ ¬ (65535 : Int32) < c := fun _ q => nomatch q
theorem rngC {x : Int32} (hx : ¬ x < 0 ∧ ¬ (65535 : Int32) < x) {cs : List Int32} (h : ∀ c ∈ cs, ¬ c < 0 ∧ ¬ (65535 : Int32) < c) : ∀ c ∈ x :: cs, ¬ c < 0 ∧ ¬ (65535 : Int32) < c := fun c q => by
  rcases List.mem_cons.mp q with rfl | q
  · exact hx
  · exact h c q
/-- an instantiable class's record is no array's -/
theorem no_array {C : String} {n : Nat} {i comp : ClassId} {kA : Class} {ty : FieldType} (wi : (Jvm.Cond.instantiable C n).before a0 Z = true) (hf : Z.vm.findClass C = some i) (hk : Z.vm.classes[i]? = some kA) (hd : kA.kind = .array comp ty) : False := by
  simp only [Cond.before, Cond.holds, Cond.value, hf, hk, hd, Option.bind_some, Option.map_some] at wi
  simp at wi
/-- a byte array that isn't empty is no constant's, where every constant is the empty text -/
theorem safe_long {vm : Vm} {x : Addr} {kB : ClassId} {n : Int32} {vs : List Value} {dv : Value} (hZ : Z.Warmed39 vm) (wi : (Jvm.Cond.instantiable "java/lang/String" 4).before a0 Z = true) (hT : ∀ p ∈ EL, (Jvm.Cond.stringLink p.1 p.2 "").before a0 Z = true) (A : Arv Z h x kB .byte n vs dv) (hn : n.toNatClampNeg ≠ 0) : Safe Z EL vm h x := fun B => by
  have hal : Z.vm.Alike vm := hZ.alike
  obtain ⟨cl, ⟨A1, ⟨-, kA, hkA, compA, hkindA⟩, -⟩, -, A3, -⟩ := A
  obtain ⟨p, hp, u, a, hb, q, -, F, rfl | rfl⟩ := B
  · have ec : cl = q.sC := Option.some.inj (A1.symm.trans (show h[q.sa]? = some q.sC from F.ha))
    obtain ⟨cS, ⟨-, f, e⟩, -⟩ := F
    have hf : Z.vm.findClass "java/lang/String" = some cl.cls := by rw [ec, e, ← hal.findClass]; exact f
    exact no_array wi hf hkA hkindA
  · cases (show h[q.sd]? = some q.SA from F.hd).symm.trans A1
    obtain ⟨cS, -, -, -, hb5⟩ := F
    obtain ⟨c, k', cf, i, hc', hk', hcf', hpool, hu, -⟩ := hb
    have wl' : (Jvm.Cond.stringLink p.1 p.2 "").before a0 (Wst Z vm h) = true := mvS (s := { Z with heap := h }) hZ (hT p hp)
    obtain ⟨k, cf0, i0, units0, hk, hcf, hp0, hu0, hnm, htext, -⟩ := Cond.stringLink_spec (s := Wst Z vm h) hc' wl'
    cases hk'.symm.trans hk
    cases hcf'.symm.trans hcf
    cases hpool.symm.trans hp0
    cases hu.symm.trans hu0
    have e := Jvm.ClassFile.units_of_text htext (by decide)
    have e2 : u = #[] := by
      apply Array.toList_inj.mp
      rw [e]
      rfl
    rw [hb5, e2] at A3
    exact hn (A3.symm.trans (by simp [stringBytes]))
theorem Wk.addByte (W : Wk p l e R s m args below meth c y bc mL rt Z a0 EL nw h0 T h fr ce sl) (wi : (Jvm.Cond.instantiable "java/lang/String" 4).before a0 Z = true) (hT : ∀ p ∈ EL, (Jvm.Cond.stringLink p.1 p.2 "").before a0 Z = true) {d : Addr} {k : ClassId} {n : Int32} {vs : List Value} {dv : Value} (A : Arv Z h d k .byte n vs dv) (hn : n.toNatClampNeg ≠ 0) (g : Z.heap.size ≤ d) : Wk p l e R s m args below meth c y bc mL rt Z a0 EL nw h0 T h (d :: fr) ce sl := by
  obtain ⟨vm, k, locs, X, w1, w2, w3, ⟨w4, w5, w6⟩, w7⟩ := W
  refine ⟨vm, k, locs, X, w1, w2, w3, ⟨w4, w5, fun x hx => ?_⟩, w7⟩
  rcases List.mem_cons.mp hx with rfl | hx
  · exact ⟨g, A.lt, safe_long w2.2.2.1 wi hT A hn⟩
  · exact w6 x hx
theorem Pays.more (P : Pays l R p e below s args Z EL nw y len Wd as h fr' Q kc ks) (q1 : kc ≤ kc') (q2 : ks ≤ ks') : Pays l R p e below s args Z EL nw y len Wd as h fr' Q kc' ks' := fun vm hZ H hS m meth c A g ig mk a X hg hsize hdg hW hn hp => by
  obtain ⟨v, B, X', hs, hz, ⟨L, k, e1, e2, e3, hC, hN⟩, st⟩ := P vm hZ H hS m meth c A g ig mk a X hg hsize hdg hW hn ⟨hp.1, hp.2.1, Nat.le_trans (Nat.add_le_add_left q1 _) hp.2.2.1, Nat.le_trans (Nat.add_le_add_left q2 _) hp.2.2.2⟩
  exact ⟨v, ⟨B.U, B.locs, A.cells + kc', A.slots + ks'⟩, X'.more (by rw [e2]; exact Nat.add_le_add_left q1 _) (by rw [e3]; exact Nat.add_le_add_left q2 _), hs, hz, ⟨L, k, e1, rfl, rfl, hC, hN⟩, st⟩
end K9
open Jvm.Pilot.@@N@@.Jvm.D
abbrev EL1 : List (String × Nat) := [("java/lang/String", 7)]
abbrev NW : Bool := false
abbrev ks_Str : List FK := [("java/lang/String", "value", "[B"), ("java/lang/String", "coder", "B")]
theorem laid_Str {Z : State} {a0 : Array Value} (hw : ∀ d ∈ tables_1, d.before a0 Z = true) : LaidL Z a0 "java/lang/String" ks_Str := LaidL.cons (Or.inr (hw _ (List.mem_of_getElem? (i := 20) rfl))) (.array .byte) (by decide) (LaidL.cons (Or.inr (hw _ (List.mem_of_getElem? (i := 21) rfl))) .byte (by decide) (LaidL.nil))
theorem dis_Str {Z : State} {a0 : Array Value} (hw : ∀ d ∈ tables_1, d.before a0 Z = true) : Dis Z ks_Str := Dis.of (laid_Str hw) (by decide)
theorem new_Str {Z : State} {a0 : Array Value} {h : Heap} {a : Addr} (hw : ∀ d ∈ tables_1, d.before a0 Z = true) (A : Exa Z h a "java/lang/String") (D : ∀ {O nm d : String} {ty : FieldType}, Laid Z a0 "java/lang/String" O nm d → parseFieldDescriptor d = some ty → Fld Z h a O nm d (defaultValue ty)) : Obj Z h a "java/lang/String" [(("java/lang/String", "value", "[B"), .null), (("java/lang/String", "coder", "B"), (.int 0))] := ⟨A, FldL.cons (D (Or.inr (hw _ (List.mem_of_getElem? (i := 20) rfl))) (ty := (.array .byte)) (by decide)) (FldL.cons (D (Or.inr (hw _ (List.mem_of_getElem? (i := 21) rfl))) (ty := .byte) (by decide)) (FldL.nil))⟩
theorem wS_of {Z : State} {a0 : Array Value} (hw : ∀ d ∈ tables_1, d.before a0 Z = true) : ∀ a ∈ Bundle.stringAtoms, a.before a0 Z = true := fun d hd => hw d ((by decide +kernel : ∀ d ∈ Bundle.stringAtoms, d ∈ tables_1) d hd)
theorem cod_nil : StrChars.Road.CodA [] 0 0 [] := Or.inl ⟨rfl, rfl, rfl, fun _ q => nomatch q⟩
theorem d_jdk_42_method_149_code_0 : decode jdk_42_method_149_code 0 = .ok (.aload_n 0, 1) := by decide +kernel
theorem d_jdk_42_method_149_code_1 : decode jdk_42_method_149_code 1 = .ok (.invokespecial 1, 3) := by decide +kernel
theorem d_jdk_42_method_149_code_4 : decode jdk_42_method_149_code 4 = .ok (.iload_n 3, 1) := by decide +kernel
theorem d_jdk_42_method_149_code_5 : decode jdk_42_method_149_code 5 = .ok (.ifCond .ne 22, 3) := by decide +kernel
theorem d_jdk_42_method_149_code_8 : decode jdk_42_method_149_code 8 = .ok (.aload_n 0, 1) := by decide +kernel
theorem d_jdk_42_method_149_code_9 : decode jdk_42_method_149_code 9 = .ok (.ldc 7, 2) := by decide +kernel
theorem d_jdk_42_method_149_code_11 : decode jdk_42_method_149_code 11 = .ok (.getfield 9, 3) := by decide +kernel
theorem d_jdk_42_method_149_code_14 : decode jdk_42_method_149_code 14 = .ok (.putfield 9, 3) := by decide +kernel
theorem d_jdk_42_method_149_code_17 : decode jdk_42_method_149_code 17 = .ok (.aload_n 0, 1) := by decide +kernel
theorem d_jdk_42_method_149_code_18 : decode jdk_42_method_149_code 18 = .ok (.ldc 7, 2) := by decide +kernel
theorem d_jdk_42_method_149_code_20 : decode jdk_42_method_149_code 20 = .ok (.getfield 15, 3) := by decide +kernel
theorem d_jdk_42_method_149_code_23 : decode jdk_42_method_149_code 23 = .ok (.putfield 15, 3) := by decide +kernel
theorem d_jdk_42_method_149_code_26 : decode jdk_42_method_149_code 26 = .ok (.return_, 1) := by decide +kernel
theorem pf_0 : plainFor (⟨"java/lang/String", "<init>", "([CIILjava/lang/Void;)V"⟩ : MethodName) = true := by first | (exact plainFor_of_name (by first | (simp [plainName, overriddenIn]; done) | decide +kernel)) | decide +kernel
set_option maxRecDepth 65536 in
set_option maxHeartbeats 40000000 in
theorem rm_new4e {l : Launch} {Z : State} {a0 : Array Value} (hw : ∀ d ∈ tables_1, d.before a0 Z = true) (hEL : EW Z a0 EL1) {zc : Int32} (Sc : Sta Z Z.heap "java/lang/String" "COMPACT_STRINGS" "Z" (.int zc)) (hzc : ¬ zc = 0) (a1 b1 : Addr) (h : Heap) (hX : Ext Z.heap h) (g1 : Z.heap.size ≤ a1) (O1 : Obj Z h a1 "java/lang/String" [(("java/lang/String", "value", "[B"), .null), (("java/lang/String", "coder", "B"), (.int 0))]) : Met l Z EL1 NW (⟨"java/lang/String", "<init>", "([CIILjava/lang/Void;)V"⟩ : MethodName) jdk_42_method_149_code 6 none [] ({ frames := 1, cells := 4, slots := 8, locals := 12 } : Room) #[(.ref a1), (.ref b1), (.int (0 : Int32)), (.int (0 : Int32)), .null] h [a1] (fun v h' => v = none ∧ Str Z h' a1 []) := by
  refine Met.intro pf_0 hEL hX (allS ⟨g1, O1.lt⟩ all0) ?_
  intro p e s m below meth c T W
  refine Goes.cast (show entryFrame m #[(.ref a1), (.ref b1), (.int (0 : Int32)), (.int (0 : Int32)), .null] 6 = mkF m 0 #[.val (.ref a1), .val (.ref b1), .val (.int (0 : Int32)), .val (.int (0 : Int32)), .val .null, .unset] [] by first | (simp [entryFrame, mkF, argsToLocals, Value.category]; done) | rfl) ?_
  refine g_aload_n W d_jdk_42_method_149_code_0 (pc' := 1) rfl rfl rfl ?_
  refine g_initO W d_jdk_42_method_149_code_1 (pc' := 4) (Wd := 0) rfl (hw _ (List.mem_of_getElem? (i := 15) rfl)) (hw _ (List.mem_of_getElem? (i := 16) rfl)) (hw _ (List.mem_of_getElem? (i := 17) rfl)) rfl rfl (by decide) (by decide) fun T1 W2 => ?_
  refine g_iload_n W2 d_jdk_42_method_149_code_4 (pc' := 5) rfl rfl ?_
  refine g_ifN W2 d_jdk_42_method_149_code_5 (pc' := 8) rfl (Jvm.Free.XT.i0_ne_f rfl) ?_
  refine g_aload_n W2 d_jdk_42_method_149_code_8 (pc' := 9) rfl rfl rfl ?_
  refine g_ldc W2 d_jdk_42_method_149_code_9 (pc' := 11) (text := "") (vs := []) (zz := (0 : Int32)) (n := 0) rfl (hw _ (List.mem_of_getElem? (i := 18) rfl)) (wS_of hw) (List.mem_of_getElem? (i := 0) rfl) ⟨by decide +kernel, by decide +kernel⟩ (by decide) (by decide) (by decide +kernel) (by decide) (by decide) (by decide) fun T3 h5 a13 b14 kb12 W4 E6 X7 C8 V9 A10 ne11 => ?_
  refine g_getfield W4 d_jdk_42_method_149_code_11 (pc' := 14) (host := "") rfl (Or.inl (hw _ (List.mem_of_getElem? (i := 24) rfl))) Via.refl V9 fun T15 W16 => ?_
  have K22 : Keep h h5 [] := ((Keep.refl h []).ext E6)
  have F23 := O1.mv K22
  refine g_putfield W16 d_jdk_42_method_149_code_14 (pc' := 17) (host := "") (ty := (.array .byte)) rfl (Or.inl (hw _ (List.mem_of_getElem? (i := 24) rfl))) Via.refl (F23.get 0 rfl) F23.1 (Or.inr ⟨(hw _ (List.mem_of_getElem? (i := 20) rfl)), rfl, rfl⟩) (hw _ (List.mem_of_getElem? (i := 5) rfl)) (by decide) rfl rfl (List.mem_of_getElem? (i := 0) rfl) fun T17 h19 W18 R20 => ?_
  have O21 : Obj Z h19 a1 "java/lang/String" [(("java/lang/String", "value", "[B"), (.ref b14)), (("java/lang/String", "coder", "B"), (.int 0))] := F23.put R20 0 rfl (dis_Str hw)
  have A24 := A10.keep (Keep.of_wr R20) (ninS (fun q => (ne11 a1 (List.mem_of_getElem? (i := 0) rfl)).2 q.symm) nin0)
  refine g_aload_n W18 d_jdk_42_method_149_code_17 (pc' := 18) rfl rfl rfl ?_
  refine g_ldc W18 d_jdk_42_method_149_code_18 (pc' := 20) (text := "") (vs := []) (zz := (0 : Int32)) (n := 0) rfl (hw _ (List.mem_of_getElem? (i := 18) rfl)) (wS_of hw) (List.mem_of_getElem? (i := 0) rfl) ⟨by decide +kernel, by decide +kernel⟩ (by decide) (by decide) (by decide +kernel) (by decide) (by decide) (by decide) fun T25 h27 a35 b36 kb34 W26 E28 X29 C30 V31 A32 ne33 => ?_
  refine g_getfield W26 d_jdk_42_method_149_code_20 (pc' := 23) (host := "") rfl (Or.inl (hw _ (List.mem_of_getElem? (i := 25) rfl))) Via.refl C30 fun T37 W38 => ?_
  have K39 : Keep h19 h27 [] := ((Keep.refl h19 []).ext E28)
  have F40 := A24.mv K39
  have F46 := O21.mv K39
  refine g_putfield W38 d_jdk_42_method_149_code_23 (pc' := 26) (host := "") (ty := .byte) rfl (Or.inl (hw _ (List.mem_of_getElem? (i := 25) rfl))) Via.refl (F46.get 1 rfl) F46.1 (Or.inr ⟨(hw _ (List.mem_of_getElem? (i := 21) rfl)), rfl, rfl⟩) (hw _ (List.mem_of_getElem? (i := 5) rfl)) (by decide) rfl rfl (List.mem_of_getElem? (i := 0) rfl) fun T41 h43 W42 R44 => ?_
  have O45 : Obj Z h43 a1 "java/lang/String" [(("java/lang/String", "value", "[B"), (.ref b14)), (("java/lang/String", "coder", "B"), (.int (0 : Int32)))] := F46.put R44 1 rfl (dis_Str hw)
  have A47 := F40.keep (Keep.of_wr R44) (ninS (fun q => (ne11 a1 (List.mem_of_getElem? (i := 0) rfl)).2 q.symm) nin0)
  have K48 : Keep h h43 [a1] := (((((Keep.refl h [a1]).ext E6).wr R20 (Or.inl (List.mem_of_getElem? (i := 0) rfl))).ext E28).wr R44 (Or.inl (List.mem_of_getElem? (i := 0) rfl)))
  exact g_return W42 d_jdk_42_method_149_code_26 K48 ⟨rfl, _, _, _, _, _, O45.1, O45.get 0 rfl, O45.get 1 rfl, A47, cod_nil, (fun _ q => nomatch q), Nat.zero_le _⟩ (by decide) (by decide)
theorem d_jdk_42_method_3_code_0 : decode jdk_42_method_3_code 0 = .ok (.aload_n 0, 1) := by decide +kernel
theorem d_jdk_42_method_3_code_1 : decode jdk_42_method_3_code 1 = .ok (.aload_n 1, 1) := by decide +kernel
theorem d_jdk_42_method_3_code_2 : decode jdk_42_method_3_code 2 = .ok (.iconst 0, 1) := by decide +kernel
theorem d_jdk_42_method_3_code_3 : decode jdk_42_method_3_code 3 = .ok (.aload_n 1, 1) := by decide +kernel
theorem d_jdk_42_method_3_code_4 : decode jdk_42_method_3_code 4 = .ok (.arraylength, 1) := by decide +kernel
theorem d_jdk_42_method_3_code_5 : decode jdk_42_method_3_code 5 = .ok (.aconst_null, 1) := by decide +kernel
theorem d_jdk_42_method_3_code_6 : decode jdk_42_method_3_code 6 = .ok (.invokespecial 27, 3) := by decide +kernel
theorem pd_0 : parseMethodDescriptor "([CIILjava/lang/Void;)V" = some ⟨[(.array .char), .int, .int, (.object "java/lang/Void")], none⟩ := by decide +kernel
theorem d_jdk_42_method_3_code_9 : decode jdk_42_method_3_code 9 = .ok (.return_, 1) := by decide +kernel
theorem pf_1 : plainFor (⟨"java/lang/String", "<init>", "([C)V"⟩ : MethodName) = true := by first | (exact plainFor_of_name (by first | (simp [plainName, overriddenIn]; done) | decide +kernel)) | decide +kernel
set_option maxRecDepth 65536 in
set_option maxHeartbeats 40000000 in
theorem rm_new1e {l : Launch} {Z : State} {a0 : Array Value} (hw : ∀ d ∈ tables_1, d.before a0 Z = true) (hEL : EW Z a0 EL1) {zc : Int32} (Sc : Sta Z Z.heap "java/lang/String" "COMPACT_STRINGS" "Z" (.int zc)) (hzc : ¬ zc = 0) (a1 b1 : Addr) (kA : ClassId) (vs : List Value) (dv : Value) (h : Heap) (hX : Ext Z.heap h) (g1 : Z.heap.size ≤ a1) (O1 : Obj Z h a1 "java/lang/String" [(("java/lang/String", "value", "[B"), .null), (("java/lang/String", "coder", "B"), (.int 0))]) (A1 : Arv Z h b1 kA .char (0 : Int32) vs dv) : Met l Z EL1 NW (⟨"java/lang/String", "<init>", "([C)V"⟩ : MethodName) jdk_42_method_3_code 2 none [] ({ frames := 2, cells := 4, slots := 8, locals := 29 } : Room) #[(.ref a1), (.ref b1)] h [a1] (fun v h' => v = none ∧ Str Z h' a1 []) := by
  refine Met.intro pf_1 hEL hX (allS ⟨g1, O1.lt⟩ all0) ?_
  intro p e s m below meth c T W
  refine Goes.cast (show entryFrame m #[(.ref a1), (.ref b1)] 2 = mkF m 0 #[.val (.ref a1), .val (.ref b1)] [] by first | (simp [entryFrame, mkF, argsToLocals, Value.category]; done) | rfl) ?_
  refine g_aload_n W d_jdk_42_method_3_code_0 (pc' := 1) rfl rfl rfl ?_
  refine g_aload_n W d_jdk_42_method_3_code_1 (pc' := 2) rfl rfl rfl ?_
  refine g_iconst W d_jdk_42_method_3_code_2 (pc' := 3) (v := (0 : Int32)) rfl rfl ?_
  refine g_aload_n W d_jdk_42_method_3_code_3 (pc' := 4) rfl rfl rfl ?_
  refine g_arraylength W d_jdk_42_method_3_code_4 (pc' := 5) rfl A1 ?_
  refine g_aconst_null W d_jdk_42_method_3_code_5 (pc' := 6) rfl ?_
  refine g_special W d_jdk_42_method_3_code_6 (pc' := 9) (a := a1) (fr' := [a1]) (argsL := [(.ref b1), (.int (0 : Int32)), (.int (0 : Int32)), .null]) (rest := []) (Wd := 0) (kc := 4) (ks := 8) rfl rfl (hw _ (List.mem_of_getElem? (i := 11) rfl)) (hw _ (List.mem_of_getElem? (i := 12) rfl)) (hw _ (List.mem_of_getElem? (i := 14) rfl)) (by decide) rfl rfl (lenOf pd_0 rfl) rfl (allS (List.mem_of_getElem? (i := 0) rfl) (all0)) (by decide) (by decide) (Met.pays (rm_new4e hw hEL Sc hzc a1 b1 _ W.ext g1 O1) (hw _ (List.mem_of_getElem? (i := 14) rfl)) (hw _ (List.mem_of_getElem? (i := 6) rfl)) hEL (by decide) (by decide)) fun v6 T1 h3 W2 K4 q5 => ?_
  obtain ⟨rfl, S1⟩ := q5
  show Goes _ _ _ _ _ _ _ _ _ _ _ T1 (mkF m 9 #[.val (.ref a1), .val (.ref b1)] [])
  have K7 : Keep h h3 [a1] := ((Keep.refl h [a1]).trans K4 fun x q => by cases List.mem_singleton.mp q; exact Or.inl (List.mem_of_getElem? (i := 0) rfl))
  exact g_return W2 d_jdk_42_method_3_code_9 K7 ⟨rfl, S1⟩ (by decide) (by decide)
theorem hT1 {Z : State} {a0 : Array Value} (hw : ∀ d ∈ tables_1, d.before a0 Z = true) : ∀ p ∈ EL1, (Jvm.Cond.stringLink p.1 p.2 "").before a0 Z = true := fun p q => by cases List.mem_singleton.mp q; exact (hw _ (List.mem_of_getElem? (i := 18) rfl))
theorem d_jdk_52_method_4_code_0 : decode jdk_52_method_4_code 0 = .ok (.getstatic 44, 3) := by decide +kernel
theorem d_jdk_52_method_4_code_3 : decode jdk_52_method_4_code 3 = .ok (.ifCond .ne 25, 3) := by decide +kernel
theorem d_jdk_52_method_4_code_28 : decode jdk_52_method_4_code 28 = .ok (.iload_n 1, 1) := by decide +kernel
theorem d_jdk_52_method_4_code_29 : decode jdk_52_method_4_code 29 = .ok (.iconst 1, 1) := by decide +kernel
theorem d_jdk_52_method_4_code_30 : decode jdk_52_method_4_code 30 = .ok (.ishl, 1) := by decide +kernel
theorem d_jdk_52_method_4_code_31 : decode jdk_52_method_4_code 31 = .ok (.istore_n 1, 1) := by decide +kernel
theorem d_jdk_52_method_4_code_32 : decode jdk_52_method_4_code 32 = .ok (.aload_n 0, 1) := by decide +kernel
theorem d_jdk_52_method_4_code_33 : decode jdk_52_method_4_code 33 = .ok (.iload_n 1, 1) := by decide +kernel
theorem d_jdk_52_method_4_code_34 : decode jdk_52_method_4_code 34 = .ok (.iinc 1 1, 3) := by decide +kernel
theorem d_jdk_52_method_4_code_37 : decode jdk_52_method_4_code 37 = .ok (.iload_n 2, 1) := by decide +kernel
theorem d_jdk_52_method_4_code_38 : decode jdk_52_method_4_code 38 = .ok (.getstatic 59, 3) := by decide +kernel
theorem d_jdk_52_method_4_code_41 : decode jdk_52_method_4_code 41 = .ok (.ishr, 1) := by decide +kernel
theorem d_jdk_52_method_4_code_42 : decode jdk_52_method_4_code 42 = .ok (.i2b, 1) := by decide +kernel
theorem d_jdk_52_method_4_code_43 : decode jdk_52_method_4_code 43 = .ok (.bastore, 1) := by decide +kernel
theorem d_jdk_52_method_4_code_44 : decode jdk_52_method_4_code 44 = .ok (.aload_n 0, 1) := by decide +kernel
theorem d_jdk_52_method_4_code_45 : decode jdk_52_method_4_code 45 = .ok (.iload_n 1, 1) := by decide +kernel
theorem d_jdk_52_method_4_code_46 : decode jdk_52_method_4_code 46 = .ok (.iload_n 2, 1) := by decide +kernel
theorem d_jdk_52_method_4_code_47 : decode jdk_52_method_4_code 47 = .ok (.getstatic 63, 3) := by decide +kernel
theorem d_jdk_52_method_4_code_50 : decode jdk_52_method_4_code 50 = .ok (.ishr, 1) := by decide +kernel
theorem d_jdk_52_method_4_code_51 : decode jdk_52_method_4_code 51 = .ok (.i2b, 1) := by decide +kernel
theorem d_jdk_52_method_4_code_52 : decode jdk_52_method_4_code 52 = .ok (.bastore, 1) := by decide +kernel
theorem d_jdk_52_method_4_code_53 : decode jdk_52_method_4_code 53 = .ok (.return_, 1) := by decide +kernel
theorem pf_2 : plainFor (⟨"java/lang/StringUTF16", "putChar", "([BII)V"⟩ : MethodName) = true := by first | (exact plainFor_of_name (by first | (simp [plainName, overriddenIn]; done) | decide +kernel)) | decide +kernel
set_option maxRecDepth 65536 in
set_option maxHeartbeats 40000000 in
theorem rm_putChar {l : Launch} {Z : State} {a0 : Array Value} (hw : ∀ d ∈ tables_1, d.before a0 Z = true) (hEL : EW Z a0 EL1) {zc : Int32} (Sc : Sta Z Z.heap "java/lang/String" "COMPACT_STRINGS" "Z" (.int zc)) (hzc : ¬ zc = 0) (d : Addr) (kd : ClassId) (N i cq : Int32) (vs : List Value) (m1 m2 : Nat) (h : Heap) (hX : Ext Z.heap h) (Sa : Sta Z Z.heap "java/lang/StringUTF16" "$assertionsDisabled" "Z" (.int (1 : Int32))) (Sh : Sta Z Z.heap "java/lang/StringUTF16" "HI_BYTE_SHIFT" "I" (.int (0 : Int32))) (Sl : Sta Z Z.heap "java/lang/StringUTF16" "LO_BYTE_SHIFT" "I" (.int (8 : Int32))) (gd : Z.heap.size ≤ d) (A : Arv Z h d kd .byte N vs (.int (0 : Int32))) (j1 : ¬ (i <<< ((1 : Int32) &&& 31)) < 0 ∧ (i <<< ((1 : Int32) &&& 31)) < N) (e1 : (i <<< ((1 : Int32) &&& 31)).toNatClampNeg = m1) (l1 : m1 < vs.length) (j2 : ¬ ((i <<< ((1 : Int32) &&& 31)) + (1 : Int32)) < 0 ∧ ((i <<< ((1 : Int32) &&& 31)) + (1 : Int32)) < N) (e2 : ((i <<< ((1 : Int32) &&& 31)) + (1 : Int32)).toNatClampNeg = m2) (l2 : m2 < vs.length) : Met l Z EL1 NW (⟨"java/lang/StringUTF16", "putChar", "([BII)V"⟩ : MethodName) jdk_52_method_4_code 3 none [] ({ frames := 0, cells := 0, slots := 0, locals := 0 } : Room) #[(.ref d), (.int i), (.int cq)] h [d] (fun v h' => v = none ∧ Arv Z h' d kd .byte N ((vs.set m1 (.int (StrChars.lo8 cq))).set m2 (.int (StrChars.hi8 cq))) (.int (0 : Int32))) := by
  refine Met.intro pf_2 hEL hX (allS ⟨gd, A.lt⟩ all0) ?_
  intro p e s m below meth c T W
  refine Goes.cast (show entryFrame m #[(.ref d), (.int i), (.int cq)] 3 = mkF m 0 #[.val (.ref d), .val (.int i), .val (.int cq)] [] by first | (simp [entryFrame, mkF, argsToLocals, Value.category]; done) | rfl) ?_
  refine g_getstatic W d_jdk_52_method_4_code_0 (pc' := 3) rfl (hw _ (List.mem_of_getElem? (i := 59) rfl)) Via.refl Sa fun T1 W2 => ?_
  refine g_ifY W2 d_jdk_52_method_4_code_3 (pc' := 28) (by decide) (by decide) (Jvm.Free.XT.i0_ne_t (by decide)) ?_
  refine g_iload_n W2 d_jdk_52_method_4_code_28 (pc' := 29) rfl rfl ?_
  refine g_iconst W2 d_jdk_52_method_4_code_29 (pc' := 30) (v := (1 : Int32)) rfl rfl ?_
  refine g_ishl W2 d_jdk_52_method_4_code_30 (pc' := 31) rfl ?_
  refine g_istore_n W2 d_jdk_52_method_4_code_31 (pc' := 32) (L' := #[.val (.ref d), .val (.int (i <<< ((1 : Int32) &&& 31))), .val (.int cq)]) rfl rfl ?_
  refine g_aload_n W2 d_jdk_52_method_4_code_32 (pc' := 33) rfl rfl rfl ?_
  refine g_iload_n W2 d_jdk_52_method_4_code_33 (pc' := 34) rfl rfl ?_
  refine g_iinc W2 d_jdk_52_method_4_code_34 (pc' := 37) (v := (1 : Int32)) (L' := #[.val (.ref d), .val (.int ((i <<< ((1 : Int32) &&& 31)) + (1 : Int32))), .val (.int cq)]) rfl rfl rfl rfl ?_
  refine g_iload_n W2 d_jdk_52_method_4_code_37 (pc' := 38) rfl rfl ?_
  refine g_getstatic W2 d_jdk_52_method_4_code_38 (pc' := 41) rfl (hw _ (List.mem_of_getElem? (i := 60) rfl)) Via.refl Sh fun T3 W4 => ?_
  refine g_ishr W4 d_jdk_52_method_4_code_41 (pc' := 42) rfl ?_
  refine g_i2b W4 d_jdk_52_method_4_code_42 (pc' := 43) rfl ?_
  refine g_bastore W4 d_jdk_52_method_4_code_43 (pc' := 44) (i := m1) (x' := StrChars.lo8 cq) rfl (nar_lo cq) A j1 e1 l1 (List.mem_of_getElem? (i := 0) rfl) fun T5 h7 W6 R8 A9 => ?_
  refine g_aload_n W6 d_jdk_52_method_4_code_44 (pc' := 45) rfl rfl rfl ?_
  refine g_iload_n W6 d_jdk_52_method_4_code_45 (pc' := 46) rfl rfl ?_
  refine g_iload_n W6 d_jdk_52_method_4_code_46 (pc' := 47) rfl rfl ?_
  refine g_getstatic W6 d_jdk_52_method_4_code_47 (pc' := 50) rfl (hw _ (List.mem_of_getElem? (i := 61) rfl)) Via.refl Sl fun T10 W11 => ?_
  refine g_ishr W11 d_jdk_52_method_4_code_50 (pc' := 51) rfl ?_
  refine g_i2b W11 d_jdk_52_method_4_code_51 (pc' := 52) rfl ?_
  refine g_bastore W11 d_jdk_52_method_4_code_52 (pc' := 53) (i := m2) (x' := StrChars.hi8 cq) rfl (nar_hi cq) A9 j2 e2 (by rw [List.length_set]; exact l2) (List.mem_of_getElem? (i := 0) rfl) fun T12 h14 W13 R15 A16 => ?_
  have K17 : Keep h h14 [d] := (((Keep.refl h [d]).wr R8 (Or.inl (List.mem_of_getElem? (i := 0) rfl))).wr R15 (Or.inl (List.mem_of_getElem? (i := 0) rfl)))
  exact g_return W13 d_jdk_52_method_4_code_53 K17 ⟨rfl, A16⟩ (by decide) (by decide)
theorem d_jdk_52_method_5_code_0 : decode jdk_52_method_5_code 0 = .ok (.getstatic 44, 3) := by decide +kernel
theorem d_jdk_52_method_5_code_3 : decode jdk_52_method_5_code 3 = .ok (.ifCond .ne 25, 3) := by decide +kernel
theorem d_jdk_52_method_5_code_28 : decode jdk_52_method_5_code 28 = .ok (.iload_n 1, 1) := by decide +kernel
theorem d_jdk_52_method_5_code_29 : decode jdk_52_method_5_code 29 = .ok (.iconst 1, 1) := by decide +kernel
theorem d_jdk_52_method_5_code_30 : decode jdk_52_method_5_code 30 = .ok (.ishl, 1) := by decide +kernel
theorem d_jdk_52_method_5_code_31 : decode jdk_52_method_5_code 31 = .ok (.istore_n 1, 1) := by decide +kernel
theorem d_jdk_52_method_5_code_32 : decode jdk_52_method_5_code 32 = .ok (.aload_n 0, 1) := by decide +kernel
theorem d_jdk_52_method_5_code_33 : decode jdk_52_method_5_code 33 = .ok (.iload_n 1, 1) := by decide +kernel
theorem d_jdk_52_method_5_code_34 : decode jdk_52_method_5_code 34 = .ok (.iinc 1 1, 3) := by decide +kernel
theorem d_jdk_52_method_5_code_37 : decode jdk_52_method_5_code 37 = .ok (.baload, 1) := by decide +kernel
theorem d_jdk_52_method_5_code_38 : decode jdk_52_method_5_code 38 = .ok (.sipush 255, 3) := by decide +kernel
theorem d_jdk_52_method_5_code_41 : decode jdk_52_method_5_code 41 = .ok (.iand, 1) := by decide +kernel
theorem d_jdk_52_method_5_code_42 : decode jdk_52_method_5_code 42 = .ok (.getstatic 59, 3) := by decide +kernel
theorem d_jdk_52_method_5_code_45 : decode jdk_52_method_5_code 45 = .ok (.ishl, 1) := by decide +kernel
theorem d_jdk_52_method_5_code_46 : decode jdk_52_method_5_code 46 = .ok (.aload_n 0, 1) := by decide +kernel
theorem d_jdk_52_method_5_code_47 : decode jdk_52_method_5_code 47 = .ok (.iload_n 1, 1) := by decide +kernel
theorem d_jdk_52_method_5_code_48 : decode jdk_52_method_5_code 48 = .ok (.baload, 1) := by decide +kernel
theorem d_jdk_52_method_5_code_49 : decode jdk_52_method_5_code 49 = .ok (.sipush 255, 3) := by decide +kernel
theorem d_jdk_52_method_5_code_52 : decode jdk_52_method_5_code 52 = .ok (.iand, 1) := by decide +kernel
theorem d_jdk_52_method_5_code_53 : decode jdk_52_method_5_code 53 = .ok (.getstatic 63, 3) := by decide +kernel
theorem d_jdk_52_method_5_code_56 : decode jdk_52_method_5_code 56 = .ok (.ishl, 1) := by decide +kernel
theorem d_jdk_52_method_5_code_57 : decode jdk_52_method_5_code 57 = .ok (.ior, 1) := by decide +kernel
theorem d_jdk_52_method_5_code_58 : decode jdk_52_method_5_code 58 = .ok (.i2c, 1) := by decide +kernel
theorem d_jdk_52_method_5_code_59 : decode jdk_52_method_5_code 59 = .ok (.ireturn, 1) := by decide +kernel
theorem pf_3 : plainFor (⟨"java/lang/StringUTF16", "getChar", "([BI)C"⟩ : MethodName) = true := by first | (exact plainFor_of_name (by first | (simp [plainName, overriddenIn]; done) | decide +kernel)) | decide +kernel
set_option maxRecDepth 65536 in
set_option maxHeartbeats 40000000 in
theorem rm_getChar {l : Launch} {Z : State} {a0 : Array Value} (hw : ∀ d ∈ tables_1, d.before a0 Z = true) (hEL : EW Z a0 EL1) {zc : Int32} (Sc : Sta Z Z.heap "java/lang/String" "COMPACT_STRINGS" "Z" (.int zc)) (hzc : ¬ zc = 0) (d : Addr) (kd : ClassId) (N i cq : Int32) (vs : List Value) (h : Heap) (hX : Ext Z.heap h) (Sa : Sta Z Z.heap "java/lang/StringUTF16" "$assertionsDisabled" "Z" (.int (1 : Int32))) (Sh : Sta Z Z.heap "java/lang/StringUTF16" "HI_BYTE_SHIFT" "I" (.int (0 : Int32))) (Sl : Sta Z Z.heap "java/lang/StringUTF16" "LO_BYTE_SHIFT" "I" (.int (8 : Int32))) (A : Arv Z h d kd .byte N vs (.int (0 : Int32))) (j1 : ¬ (i <<< ((1 : Int32) &&& 31)) < 0 ∧ (i <<< ((1 : Int32) &&& 31)) < N) (e1 : vs.getD (i <<< ((1 : Int32) &&& 31)).toNatClampNeg (.int (0 : Int32)) = .int (StrChars.lo8 cq)) (j2 : ¬ ((i <<< ((1 : Int32) &&& 31)) + (1 : Int32)) < 0 ∧ ((i <<< ((1 : Int32) &&& 31)) + (1 : Int32)) < N) (e2 : vs.getD ((i <<< ((1 : Int32) &&& 31)) + (1 : Int32)).toNatClampNeg (.int (0 : Int32)) = .int (StrChars.hi8 cq)) (r : ¬ cq < 0 ∧ ¬ (65535 : Int32) < cq) : Met l Z EL1 NW (⟨"java/lang/StringUTF16", "getChar", "([BI)C"⟩ : MethodName) jdk_52_method_5_code 2 (some .char) [] ({ frames := 0, cells := 0, slots := 0, locals := 0 } : Room) #[(.ref d), (.int i)] h [] (fun v h' => h = h' ∧ v = some (.int cq)) := by
  refine Met.intro pf_3 hEL hX (fun _ q => nomatch q) ?_
  intro p e s m below meth c T W
  refine Goes.cast (show entryFrame m #[(.ref d), (.int i)] 2 = mkF m 0 #[.val (.ref d), .val (.int i)] [] by first | (simp [entryFrame, mkF, argsToLocals, Value.category]; done) | rfl) ?_
  refine g_getstatic W d_jdk_52_method_5_code_0 (pc' := 3) rfl (hw _ (List.mem_of_getElem? (i := 59) rfl)) Via.refl Sa fun T1 W2 => ?_
  refine g_ifY W2 d_jdk_52_method_5_code_3 (pc' := 28) (by decide) (by decide) (Jvm.Free.XT.i0_ne_t (by decide)) ?_
  refine g_iload_n W2 d_jdk_52_method_5_code_28 (pc' := 29) rfl rfl ?_
  refine g_iconst W2 d_jdk_52_method_5_code_29 (pc' := 30) (v := (1 : Int32)) rfl rfl ?_
  refine g_ishl W2 d_jdk_52_method_5_code_30 (pc' := 31) rfl ?_
  refine g_istore_n W2 d_jdk_52_method_5_code_31 (pc' := 32) (L' := #[.val (.ref d), .val (.int (i <<< ((1 : Int32) &&& 31)))]) rfl rfl ?_
  refine g_aload_n W2 d_jdk_52_method_5_code_32 (pc' := 33) rfl rfl rfl ?_
  refine g_iload_n W2 d_jdk_52_method_5_code_33 (pc' := 34) rfl rfl ?_
  refine g_iinc W2 d_jdk_52_method_5_code_34 (pc' := 37) (v := (1 : Int32)) (L' := #[.val (.ref d), .val (.int ((i <<< ((1 : Int32) &&& 31)) + (1 : Int32)))]) rfl rfl rfl rfl ?_
  refine g_baload W2 d_jdk_52_method_5_code_37 (pc' := 38) rfl A j1 e1 ?_
  refine g_sipush W2 d_jdk_52_method_5_code_38 (pc' := 41) (v := (255 : Int32)) rfl (by decide) ?_
  refine g_iand W2 d_jdk_52_method_5_code_41 (pc' := 42) rfl ?_
  refine g_getstatic W2 d_jdk_52_method_5_code_42 (pc' := 45) rfl (hw _ (List.mem_of_getElem? (i := 60) rfl)) Via.refl Sh fun T3 W4 => ?_
  refine g_ishl W4 d_jdk_52_method_5_code_45 (pc' := 46) rfl ?_
  refine g_aload_n W4 d_jdk_52_method_5_code_46 (pc' := 47) rfl rfl rfl ?_
  refine g_iload_n W4 d_jdk_52_method_5_code_47 (pc' := 48) rfl rfl ?_
  refine g_baload W4 d_jdk_52_method_5_code_48 (pc' := 49) rfl A j2 e2 ?_
  refine g_sipush W4 d_jdk_52_method_5_code_49 (pc' := 52) (v := (255 : Int32)) rfl (by decide) ?_
  refine g_iand W4 d_jdk_52_method_5_code_52 (pc' := 53) rfl ?_
  refine g_getstatic W4 d_jdk_52_method_5_code_53 (pc' := 56) rfl (hw _ (List.mem_of_getElem? (i := 61) rfl)) Via.refl Sl fun T5 W6 => ?_
  refine g_ishl W6 d_jdk_52_method_5_code_56 (pc' := 57) rfl ?_
  refine g_ior W6 d_jdk_52_method_5_code_57 (pc' := 58) rfl ?_
  refine g_i2c W6 d_jdk_52_method_5_code_58 (pc' := 59) rfl ?_
  rw [show ((((StrChars.lo8 cq) &&& (255 : Int32)) <<< ((0 : Int32) &&& 31)) ||| (((StrChars.hi8 cq) &&& (255 : Int32)) <<< ((8 : Int32) &&& 31))).toUInt32.toUInt16.toUInt32.toInt32 = cq from StrChars.pair_says r.1 r.2]
  exact g_ireturn W6 d_jdk_52_method_5_code_59 (by decide) (StrChars.narrow_ch r.1 r.2) (Keep.refl h []) ⟨rfl, rfl⟩ (by decide) (by decide)
theorem d_jdk_52_method_3_code_0 : decode jdk_52_method_3_code 0 = .ok (.iload_n 0, 1) := by decide +kernel
theorem d_jdk_52_method_3_code_1 : decode jdk_52_method_3_code 1 = .ok (.ifCond .ge 11, 3) := by decide +kernel
theorem d_jdk_52_method_3_code_12 : decode jdk_52_method_3_code 12 = .ok (.iload_n 0, 1) := by decide +kernel
theorem d_jdk_52_method_3_code_13 : decode jdk_52_method_3_code 13 = .ok (.ldc 20, 2) := by decide +kernel
theorem d_jdk_52_method_3_code_15 : decode jdk_52_method_3_code 15 = .ok (.if_icmp .lt 40, 3) := by decide +kernel
theorem d_jdk_52_method_3_code_55 : decode jdk_52_method_3_code 55 = .ok (.iload_n 0, 1) := by decide +kernel
theorem d_jdk_52_method_3_code_56 : decode jdk_52_method_3_code 56 = .ok (.iconst 1, 1) := by decide +kernel
theorem d_jdk_52_method_3_code_57 : decode jdk_52_method_3_code 57 = .ok (.ishl, 1) := by decide +kernel
theorem d_jdk_52_method_3_code_58 : decode jdk_52_method_3_code 58 = .ok (.ireturn, 1) := by decide +kernel
theorem pf_4 : plainFor (⟨"java/lang/StringUTF16", "newBytesLength", "(I)I"⟩ : MethodName) = true := by first | (exact plainFor_of_name (by first | (simp [plainName, overriddenIn]; done) | decide +kernel)) | decide +kernel
set_option maxRecDepth 65536 in
set_option maxHeartbeats 40000000 in
theorem rm_nbl_1 {l : Launch} {Z : State} {a0 : Array Value} (hw : ∀ d ∈ tables_1, d.before a0 Z = true) (hEL : EW Z a0 EL1) {zc : Int32} (Sc : Sta Z Z.heap "java/lang/String" "COMPACT_STRINGS" "Z" (.int zc)) (hzc : ¬ zc = 0)  (h : Heap) (hX : Ext Z.heap h)  : Met l Z EL1 NW (⟨"java/lang/StringUTF16", "newBytesLength", "(I)I"⟩ : MethodName) jdk_52_method_3_code 1 (some .int) [] ({ frames := 0, cells := 0, slots := 0, locals := 0 } : Room) #[(.int (1 : Int32))] h [] (fun v h' => h = h' ∧ v = some (.int (2 : Int32))) := by
  refine Met.intro pf_4 hEL hX (fun _ q => nomatch q) ?_
  intro p e s m below meth c T W
  refine Goes.cast (show entryFrame m #[(.int (1 : Int32))] 1 = mkF m 0 #[.val (.int (1 : Int32))] [] by first | (simp [entryFrame, mkF, argsToLocals, Value.category]; done) | rfl) ?_
  refine g_iload_n W d_jdk_52_method_3_code_0 (pc' := 1) rfl rfl ?_
  refine g_ifY W d_jdk_52_method_3_code_1 (pc' := 12) (by decide) (by decide) (Jvm.Free.XT.i0_ge_t (by decide)) ?_
  refine g_iload_n W d_jdk_52_method_3_code_12 (pc' := 13) rfl rfl ?_
  refine g_ldcI W d_jdk_52_method_3_code_13 (pc' := 15) (v := (1073741823 : Int32)) rfl (hw _ (List.mem_of_getElem? (i := 55) rfl)) ?_
  refine g_icmpY W d_jdk_52_method_3_code_15 (pc' := 55) (by decide) (by decide) (Jvm.Free.XT.ii_lt_t (by decide)) ?_
  refine g_iload_n W d_jdk_52_method_3_code_55 (pc' := 56) rfl rfl ?_
  refine g_iconst W d_jdk_52_method_3_code_56 (pc' := 57) (v := (1 : Int32)) rfl rfl ?_
  refine g_ishl W d_jdk_52_method_3_code_57 (pc' := 58) rfl ?_
  rw [show ((1 : Int32) <<< ((1 : Int32) &&& 31)) = (2 : Int32) from by decide]
  exact g_ireturn W d_jdk_52_method_3_code_58 (by decide) rfl (Keep.refl h []) ⟨rfl, rfl⟩ (by decide) (by decide)
theorem d_jdk_52_method_2_code_0 : decode jdk_52_method_2_code 0 = .ok (.iload_n 0, 1) := by decide +kernel
theorem d_jdk_52_method_2_code_1 : decode jdk_52_method_2_code 1 = .ok (.invokestatic 11, 3) := by decide +kernel
theorem pd_1 : parseMethodDescriptor "(I)I" = some ⟨[.int], some .int⟩ := by decide +kernel
theorem d_jdk_52_method_2_code_4 : decode jdk_52_method_2_code 4 = .ok (.newarray .byte, 2) := by decide +kernel
theorem d_jdk_52_method_2_code_6 : decode jdk_52_method_2_code 6 = .ok (.areturn, 1) := by decide +kernel
theorem pf_5 : plainFor (⟨"java/lang/StringUTF16", "newBytesFor", "(I)[B"⟩ : MethodName) = true := by first | (exact plainFor_of_name (by first | (simp [plainName, overriddenIn]; done) | decide +kernel)) | decide +kernel
set_option maxRecDepth 65536 in
set_option maxHeartbeats 40000000 in
theorem rm_nbf_1 {l : Launch} {Z : State} {a0 : Array Value} (hw : ∀ d ∈ tables_1, d.before a0 Z = true) (hEL : EW Z a0 EL1) {zc : Int32} (Sc : Sta Z Z.heap "java/lang/String" "COMPACT_STRINGS" "Z" (.int zc)) (hzc : ¬ zc = 0)  (h : Heap) (hX : Ext Z.heap h)  : Met l Z EL1 NW (⟨"java/lang/StringUTF16", "newBytesFor", "(I)[B"⟩ : MethodName) jdk_52_method_2_code 1 (some (.array .byte)) [] ({ frames := 1, cells := 1, slots := 2, locals := 12 } : Room) #[(.int (1 : Int32))] h [] (fun v h' => ∃ a k, v = some (.ref a) ∧ h.size ≤ a ∧ Arv Z h' a k .byte (2 : Int32) [(.int (0 : Int32)), (.int (0 : Int32))] (.int (0 : Int32))) := by
  refine Met.intro pf_5 hEL hX (fun _ q => nomatch q) ?_
  intro p e s m below meth c T W
  refine Goes.cast (show entryFrame m #[(.int (1 : Int32))] 1 = mkF m 0 #[.val (.int (1 : Int32))] [] by first | (simp [entryFrame, mkF, argsToLocals, Value.category]; done) | rfl) ?_
  refine g_iload_n W d_jdk_52_method_2_code_0 (pc' := 1) rfl rfl ?_
  refine g_static W d_jdk_52_method_2_code_1 (pc' := 4) (fr' := []) (argsL := [(.int (1 : Int32))]) (rest := []) (Wd := 0) (kc := 0) (ks := 0) rfl (hw _ (List.mem_of_getElem? (i := 52) rfl)) (hw _ (List.mem_of_getElem? (i := 53) rfl)) (hw _ (List.mem_of_getElem? (i := 38) rfl)) (hw _ (List.mem_of_getElem? (i := 54) rfl)) (by decide) rfl rfl (lenOf pd_1 rfl) rfl all0 (by decide) (by decide) (Met.pays (rm_nbl_1 hw hEL Sc hzc _ W.ext) (hw _ (List.mem_of_getElem? (i := 54) rfl)) (hw _ (List.mem_of_getElem? (i := 38) rfl)) hEL (by decide) (by decide)) fun v6 T1 h3 W2 K4 q5 => ?_
  obtain ⟨rfl, rfl⟩ := q5
  show Goes _ _ _ _ _ _ _ _ _ _ _ T1 (mkF m 4 #[.val (.int (1 : Int32))] [(.int (2 : Int32))])
  refine g_newarray W2 d_jdk_52_method_2_code_4 (pc' := 6) (cap := 2) rfl (hw _ (List.mem_of_getElem? (i := 19) rfl)) (by decide) (by decide) (by decide) (by decide) (by decide) fun T7 h9 b1 kA13 g10 W8 E11 A12 => ?_
  have A14 : Arv Z h9 b1 kA13 .byte (2 : Int32) [(.int (0 : Int32)), (.int (0 : Int32))] (.int (0 : Int32)) := A12.pad (pad_rep [] (.int (0 : Int32)) 2)
  have K15 : Keep h h9 [] := ((Keep.refl h []).ext E11)
  exact g_areturn W8 d_jdk_52_method_2_code_6 rfl rfl rfl K15 ⟨_, _, rfl, Nat.le_of_eq g10.symm, A14⟩ (by decide) (by decide)
theorem d_jdk_52_method_14_code_0 : decode jdk_52_method_14_code 0 = .ok (.iload_n 2, 1) := by decide +kernel
theorem d_jdk_52_method_14_code_1 : decode jdk_52_method_14_code 1 = .ok (.invokestatic 107, 3) := by decide +kernel
theorem pd_2 : parseMethodDescriptor "(I)[B" = some ⟨[.int], some (.array .byte)⟩ := by decide +kernel
theorem d_jdk_52_method_14_code_4 : decode jdk_52_method_14_code 4 = .ok (.astore_n 3, 1) := by decide +kernel
theorem d_jdk_52_method_14_code_5 : decode jdk_52_method_14_code 5 = .ok (.iconst 0, 1) := by decide +kernel
theorem d_jdk_52_method_14_code_6 : decode jdk_52_method_14_code 6 = .ok (.istore 4, 2) := by decide +kernel
theorem d_jdk_52_method_14_code_8 : decode jdk_52_method_14_code 8 = .ok (.iload 4, 2) := by decide +kernel
theorem d_jdk_52_method_14_code_10 : decode jdk_52_method_14_code 10 = .ok (.iload_n 2, 1) := by decide +kernel
theorem d_jdk_52_method_14_code_11 : decode jdk_52_method_14_code 11 = .ok (.if_icmp .ge 21, 3) := by decide +kernel
theorem d_jdk_52_method_14_code_14 : decode jdk_52_method_14_code 14 = .ok (.aload_n 3, 1) := by decide +kernel
theorem d_jdk_52_method_14_code_15 : decode jdk_52_method_14_code 15 = .ok (.iload 4, 2) := by decide +kernel
theorem d_jdk_52_method_14_code_17 : decode jdk_52_method_14_code 17 = .ok (.aload_n 0, 1) := by decide +kernel
theorem d_jdk_52_method_14_code_18 : decode jdk_52_method_14_code 18 = .ok (.iload_n 1, 1) := by decide +kernel
theorem d_jdk_52_method_14_code_19 : decode jdk_52_method_14_code 19 = .ok (.caload, 1) := by decide +kernel
theorem d_jdk_52_method_14_code_20 : decode jdk_52_method_14_code 20 = .ok (.invokestatic 111, 3) := by decide +kernel
theorem pd_3 : parseMethodDescriptor "([BII)V" = some ⟨[(.array .byte), .int, .int], none⟩ := by decide +kernel
theorem d_jdk_52_method_14_code_23 : decode jdk_52_method_14_code 23 = .ok (.iinc 1 1, 3) := by decide +kernel
theorem d_jdk_52_method_14_code_26 : decode jdk_52_method_14_code 26 = .ok (.iinc 4 1, 3) := by decide +kernel
theorem d_jdk_52_method_14_code_29 : decode jdk_52_method_14_code 29 = .ok (.goto (-21), 3) := by decide +kernel
theorem d_jdk_52_method_14_code_32 : decode jdk_52_method_14_code 32 = .ok (.aload_n 3, 1) := by decide +kernel
theorem d_jdk_52_method_14_code_33 : decode jdk_52_method_14_code 33 = .ok (.areturn, 1) := by decide +kernel
theorem pf_6 : plainFor (⟨"java/lang/StringUTF16", "toBytes", "([CII)[B"⟩ : MethodName) = true := by first | (exact plainFor_of_name (by first | (simp [plainName, overriddenIn]; done) | decide +kernel)) | decide +kernel
set_option maxRecDepth 65536 in
set_option maxHeartbeats 40000000 in
theorem rm_tb_1 {l : Launch} {Z : State} {a0 : Array Value} (hw : ∀ d ∈ tables_1, d.before a0 Z = true) (hEL : EW Z a0 EL1) {zc : Int32} (Sc : Sta Z Z.heap "java/lang/String" "COMPACT_STRINGS" "Z" (.int zc)) (hzc : ¬ zc = 0) (b : Addr) (kb : ClassId) (db : Value) (c0 : Int32) (h : Heap) (hX : Ext Z.heap h) (Sa : Sta Z Z.heap "java/lang/StringUTF16" "$assertionsDisabled" "Z" (.int (1 : Int32))) (Sh : Sta Z Z.heap "java/lang/StringUTF16" "HI_BYTE_SHIFT" "I" (.int (0 : Int32))) (Sl : Sta Z Z.heap "java/lang/StringUTF16" "LO_BYTE_SHIFT" "I" (.int (8 : Int32))) (A1 : Arv Z h b kb .char (1 : Int32) [(.int c0)] db) : Met l Z EL1 NW (⟨"java/lang/StringUTF16", "toBytes", "([CII)[B"⟩ : MethodName) jdk_52_method_14_code 5 (some (.array .byte)) [] ({ frames := 2, cells := 1, slots := 2, locals := 30 } : Room) #[(.ref b), (.int (0 : Int32)), (.int (1 : Int32))] h [] (fun v h' => ∃ a k, v = some (.ref a) ∧ h.size ≤ a ∧ Arv Z h' a k .byte (2 : Int32) (StrChars.Road.wideBytes [c0]) (.int (0 : Int32))) := by
  refine Met.intro pf_6 hEL hX (fun _ q => nomatch q) ?_
  intro p e s m below meth c T W
  refine Goes.cast (show entryFrame m #[(.ref b), (.int (0 : Int32)), (.int (1 : Int32))] 5 = mkF m 0 #[.val (.ref b), .val (.int (0 : Int32)), .val (.int (1 : Int32)), .unset, .unset] [] by first | (simp [entryFrame, mkF, argsToLocals, Value.category]; done) | rfl) ?_
  refine g_iload_n W d_jdk_52_method_14_code_0 (pc' := 1) rfl rfl ?_
  have hXa := W.ext
  refine g_static W d_jdk_52_method_14_code_1 (pc' := 4) (fr' := []) (argsL := [(.int (1 : Int32))]) (rest := []) (Wd := 0) (kc := 1) (ks := 2) rfl (hw _ (List.mem_of_getElem? (i := 49) rfl)) (hw _ (List.mem_of_getElem? (i := 50) rfl)) (hw _ (List.mem_of_getElem? (i := 38) rfl)) (hw _ (List.mem_of_getElem? (i := 51) rfl)) (by decide) rfl rfl (lenOf pd_2 rfl) rfl all0 (by decide) (by decide) (Met.pays (rm_nbf_1 hw hEL Sc hzc _ W.ext) (hw _ (List.mem_of_getElem? (i := 51) rfl)) (hw _ (List.mem_of_getElem? (i := 38) rfl)) hEL (by decide) (by decide)) fun v6 T1 h3 W2 K4 q5 => ?_
  obtain ⟨d, kd, rfl, gd, Ad⟩ := q5
  show Goes _ _ _ _ _ _ _ _ _ _ _ T1 (mkF m 4 #[.val (.ref b), .val (.int (0 : Int32)), .val (.int (1 : Int32)), .unset, .unset] [(.ref d)])
  have W7 := W2.addByte (hw _ (List.mem_of_getElem? (i := 5) rfl)) (hT1 hw) Ad (by decide) (Nat.le_trans hXa.1 gd)
  refine g_astore_n W7 d_jdk_52_method_14_code_4 (pc' := 5) (L' := #[.val (.ref b), .val (.int (0 : Int32)), .val (.int (1 : Int32)), .val (.ref d), .unset]) rfl rfl rfl ?_
  refine g_iconst W7 d_jdk_52_method_14_code_5 (pc' := 6) (v := (0 : Int32)) rfl rfl ?_
  refine g_istore W7 d_jdk_52_method_14_code_6 (pc' := 8) (L' := #[.val (.ref b), .val (.int (0 : Int32)), .val (.int (1 : Int32)), .val (.ref d), .val (.int (0 : Int32))]) rfl rfl ?_
  refine g_iload W7 d_jdk_52_method_14_code_8 (pc' := 10) rfl rfl ?_
  refine g_iload_n W7 d_jdk_52_method_14_code_10 (pc' := 11) rfl rfl ?_
  refine g_icmpN W7 d_jdk_52_method_14_code_11 (pc' := 14) rfl (Jvm.Free.XT.ii_ge_f (by decide)) ?_
  refine g_aload_n W7 d_jdk_52_method_14_code_14 (pc' := 15) rfl rfl rfl ?_
  refine g_iload W7 d_jdk_52_method_14_code_15 (pc' := 17) rfl rfl ?_
  refine g_aload_n W7 d_jdk_52_method_14_code_17 (pc' := 18) rfl rfl rfl ?_
  refine g_iload_n W7 d_jdk_52_method_14_code_18 (pc' := 19) rfl rfl ?_
  have K8 : Keep h h3 [] := ((Keep.refl h []).trans K4 fun _ q => nomatch q)
  have F9 := A1.mv K8
  refine g_caload W7 d_jdk_52_method_14_code_19 (pc' := 20) rfl F9 ⟨by decide, by decide⟩ rfl ?_
  refine g_static W7 d_jdk_52_method_14_code_20 (pc' := 23) (fr' := [d]) (argsL := [(.ref d), (.int (0 : Int32)), (.int c0)]) (rest := []) (Wd := 0) (kc := 0) (ks := 0) rfl (hw _ (List.mem_of_getElem? (i := 56) rfl)) (hw _ (List.mem_of_getElem? (i := 57) rfl)) (hw _ (List.mem_of_getElem? (i := 38) rfl)) (hw _ (List.mem_of_getElem? (i := 58) rfl)) (by decide) rfl rfl (lenOf pd_3 rfl) rfl (allS (List.mem_of_getElem? (i := 0) rfl) (all0)) (by decide) (by decide) (Met.pays (rm_putChar hw hEL Sc hzc d kd (2 : Int32) (0 : Int32) c0 _ 0 1 _ W7.ext Sa Sh Sl (W7.frs d (List.mem_of_getElem? (i := 0) rfl)).1 Ad (by decide) (by decide) (Nat.le_of_ble_eq_true rfl) (by decide) (by decide) (Nat.le_of_ble_eq_true rfl)) (hw _ (List.mem_of_getElem? (i := 58) rfl)) (hw _ (List.mem_of_getElem? (i := 38) rfl)) hEL (by decide) (by decide)) fun v15 T10 h12 W11 K13 q14 => ?_
  obtain ⟨rfl, Ad0⟩ := q14
  show Goes _ _ _ _ _ _ _ _ _ _ _ T10 (mkF m 23 #[.val (.ref b), .val (.int (0 : Int32)), .val (.int (1 : Int32)), .val (.ref d), .val (.int (0 : Int32))] [])
  have Ae0 : Arv Z h12 d kd .byte (2 : Int32) [(.int (StrChars.lo8 c0)), (.int (StrChars.hi8 c0))] (.int (0 : Int32)) := Ad0
  refine g_iinc W11 d_jdk_52_method_14_code_23 (pc' := 26) (v := (1 : Int32)) (L' := #[.val (.ref b), .val (.int ((0 : Int32) + (1 : Int32))), .val (.int (1 : Int32)), .val (.ref d), .val (.int (0 : Int32))]) rfl rfl rfl rfl ?_
  refine g_iinc W11 d_jdk_52_method_14_code_26 (pc' := 29) (v := (1 : Int32)) (L' := #[.val (.ref b), .val (.int ((0 : Int32) + (1 : Int32))), .val (.int (1 : Int32)), .val (.ref d), .val (.int ((0 : Int32) + (1 : Int32)))]) rfl rfl rfl rfl ?_
  refine g_goto W11 d_jdk_52_method_14_code_29 (pc' := 8) (by decide) (by decide) ?_
  show Goes _ _ _ _ _ _ _ _ _ _ _ T10 (mkF m 8 #[.val (.ref b), .val (.int (1 : Int32)), .val (.int (1 : Int32)), .val (.ref d), .val (.int (1 : Int32))] [])
  refine g_iload W11 d_jdk_52_method_14_code_8 (pc' := 10) rfl rfl ?_
  refine g_iload_n W11 d_jdk_52_method_14_code_10 (pc' := 11) rfl rfl ?_
  refine g_icmpY W11 d_jdk_52_method_14_code_11 (pc' := 32) (by decide) (by decide) (Jvm.Free.XT.ii_ge_t (by decide)) ?_
  refine g_aload_n W11 d_jdk_52_method_14_code_32 (pc' := 33) rfl rfl rfl ?_
  have K16 : Keep h h12 [] := (((Keep.refl h []).trans K4 fun _ q => nomatch q).trans K13 fun x q => by cases List.mem_singleton.mp q; exact Or.inr gd)
  exact g_areturn W11 d_jdk_52_method_14_code_33 rfl rfl rfl K16 ⟨_, _, rfl, gd, Ae0⟩ (by decide) (by decide)
theorem d_jdk_52_method_15_code_0 : decode jdk_52_method_15_code 0 = .ok (.iload_n 1, 1) := by decide +kernel
theorem d_jdk_52_method_15_code_1 : decode jdk_52_method_15_code 1 = .ok (.aload_n 0, 1) := by decide +kernel
theorem d_jdk_52_method_15_code_2 : decode jdk_52_method_15_code 2 = .ok (.arraylength, 1) := by decide +kernel
theorem d_jdk_52_method_15_code_3 : decode jdk_52_method_15_code 3 = .ok (.isub, 1) := by decide +kernel
theorem d_jdk_52_method_15_code_4 : decode jdk_52_method_15_code 4 = .ok (.bipush 31, 2) := by decide +kernel
theorem d_jdk_52_method_15_code_6 : decode jdk_52_method_15_code 6 = .ok (.iushr, 1) := by decide +kernel
theorem d_jdk_52_method_15_code_7 : decode jdk_52_method_15_code 7 = .ok (.i2b, 1) := by decide +kernel
theorem d_jdk_52_method_15_code_8 : decode jdk_52_method_15_code 8 = .ok (.ireturn, 1) := by decide +kernel
theorem pf_7 : plainFor (⟨"java/lang/StringUTF16", "coderFromArrayLen", "([BI)B"⟩ : MethodName) = true := by first | (exact plainFor_of_name (by first | (simp [plainName, overriddenIn]; done) | decide +kernel)) | decide +kernel
set_option maxRecDepth 65536 in
set_option maxHeartbeats 40000000 in
theorem rm_cfa_1 {l : Launch} {Z : State} {a0 : Array Value} (hw : ∀ d ∈ tables_1, d.before a0 Z = true) (hEL : EW Z a0 EL1) {zc : Int32} (Sc : Sta Z Z.heap "java/lang/String" "COMPACT_STRINGS" "Z" (.int zc)) (hzc : ¬ zc = 0) (d : Addr) (kd : ClassId) (vs : List Value) (dv : Value) (h : Heap) (hX : Ext Z.heap h) (A : Arv Z h d kd .byte (2 : Int32) vs dv) : Met l Z EL1 NW (⟨"java/lang/StringUTF16", "coderFromArrayLen", "([BI)B"⟩ : MethodName) jdk_52_method_15_code 2 (some .byte) [] ({ frames := 0, cells := 0, slots := 0, locals := 0 } : Room) #[(.ref d), (.int (1 : Int32))] h [] (fun v h' => h = h' ∧ v = some (.int (1 : Int32))) := by
  refine Met.intro pf_7 hEL hX (fun _ q => nomatch q) ?_
  intro p e s m below meth c T W
  refine Goes.cast (show entryFrame m #[(.ref d), (.int (1 : Int32))] 2 = mkF m 0 #[.val (.ref d), .val (.int (1 : Int32))] [] by first | (simp [entryFrame, mkF, argsToLocals, Value.category]; done) | rfl) ?_
  refine g_iload_n W d_jdk_52_method_15_code_0 (pc' := 1) rfl rfl ?_
  refine g_aload_n W d_jdk_52_method_15_code_1 (pc' := 2) rfl rfl rfl ?_
  refine g_arraylength W d_jdk_52_method_15_code_2 (pc' := 3) rfl A ?_
  refine g_isub W d_jdk_52_method_15_code_3 (pc' := 4) rfl ?_
  refine g_bipush W d_jdk_52_method_15_code_4 (pc' := 6) (v := (31 : Int32)) rfl (by decide) ?_
  refine g_iushr W d_jdk_52_method_15_code_6 (pc' := 7) rfl ?_
  refine g_i2b W d_jdk_52_method_15_code_7 (pc' := 8) rfl ?_
  rw [show ((((1 : Int32) - (2 : Int32)).toUInt32 >>> ((31 : Int32) &&& 31).toUInt32).toInt32).toInt8.toInt32 = (1 : Int32) from by decide]
  exact g_ireturn W d_jdk_52_method_15_code_8 (by decide) rfl (Keep.refl h []) ⟨rfl, rfl⟩ (by decide) (by decide)
theorem d_jdk_52_method_21_code_0 : decode jdk_52_method_21_code 0 = .ok (.iconst 0, 1) := by decide +kernel
theorem d_jdk_52_method_21_code_1 : decode jdk_52_method_21_code 1 = .ok (.istore 5, 2) := by decide +kernel
theorem d_jdk_52_method_21_code_3 : decode jdk_52_method_21_code 3 = .ok (.iload 5, 2) := by decide +kernel
theorem d_jdk_52_method_21_code_5 : decode jdk_52_method_21_code 5 = .ok (.iload 4, 2) := by decide +kernel
theorem d_jdk_52_method_21_code_7 : decode jdk_52_method_21_code 7 = .ok (.if_icmp .ge 37, 3) := by decide +kernel
theorem d_jdk_52_method_21_code_10 : decode jdk_52_method_21_code 10 = .ok (.aload_n 0, 1) := by decide +kernel
theorem d_jdk_52_method_21_code_11 : decode jdk_52_method_21_code 11 = .ok (.iload_n 1, 1) := by decide +kernel
theorem d_jdk_52_method_21_code_12 : decode jdk_52_method_21_code 12 = .ok (.caload, 1) := by decide +kernel
theorem d_jdk_52_method_21_code_13 : decode jdk_52_method_21_code 13 = .ok (.istore 6, 2) := by decide +kernel
theorem d_jdk_52_method_21_code_15 : decode jdk_52_method_21_code 15 = .ok (.iload 6, 2) := by decide +kernel
theorem d_jdk_52_method_21_code_17 : decode jdk_52_method_21_code 17 = .ok (.sipush 255, 3) := by decide +kernel
theorem d_jdk_52_method_21_code_20 : decode jdk_52_method_21_code 20 = .ok (.if_icmp .le 6, 3) := by decide +kernel
theorem d_jdk_52_method_21_code_23 : decode jdk_52_method_21_code 23 = .ok (.iload 5, 2) := by decide +kernel
theorem d_jdk_52_method_21_code_25 : decode jdk_52_method_21_code 25 = .ok (.ireturn, 1) := by decide +kernel
theorem pf_8 : plainFor (⟨"java/lang/StringUTF16", "compress", "([CI[BII)I"⟩ : MethodName) = true := by first | (exact plainFor_of_name (by first | (simp [plainName, overriddenIn]; done) | decide +kernel)) | decide +kernel
set_option maxRecDepth 65536 in
set_option maxHeartbeats 40000000 in
theorem rm_cl_1_0 {l : Launch} {Z : State} {a0 : Array Value} (hw : ∀ d ∈ tables_1, d.before a0 Z = true) (hEL : EW Z a0 EL1) {zc : Int32} (Sc : Sta Z Z.heap "java/lang/String" "COMPACT_STRINGS" "Z" (.int zc)) (hzc : ¬ zc = 0) (b t : Addr) (kb kt : ClassId) (db : Value) (c0 : Int32) (h : Heap) (hX : Ext Z.heap h) (A1 : Arv Z h b kb .char (1 : Int32) [(.int c0)] db) (A2 : Arv Z h t kt .byte (1 : Int32) [(.int (0 : Int32))] (.int (0 : Int32))) (nbt : b ≠ t) (gt : Z.heap.size ≤ t) (q0 : (255 : Int32) < c0) : Met l Z EL1 NW (⟨"java/lang/StringUTF16", "compress", "([CI[BII)I"⟩ : MethodName) jdk_52_method_21_code 7 (some .int) [] ({ frames := 0, cells := 0, slots := 0, locals := 0 } : Room) #[(.ref b), (.int (0 : Int32)), (.ref t), (.int (0 : Int32)), (.int (1 : Int32))] h [t] (fun v _ => v = some (.int (0 : Int32))) := by
  refine Met.intro pf_8 hEL hX (allS ⟨gt, A2.lt⟩ all0) ?_
  intro p e s m below meth c T W
  refine Goes.cast (show entryFrame m #[(.ref b), (.int (0 : Int32)), (.ref t), (.int (0 : Int32)), (.int (1 : Int32))] 7 = mkF m 0 #[.val (.ref b), .val (.int (0 : Int32)), .val (.ref t), .val (.int (0 : Int32)), .val (.int (1 : Int32)), .unset, .unset] [] by first | (simp [entryFrame, mkF, argsToLocals, Value.category]; done) | rfl) ?_
  refine g_iconst W d_jdk_52_method_21_code_0 (pc' := 1) (v := (0 : Int32)) rfl rfl ?_
  refine g_istore W d_jdk_52_method_21_code_1 (pc' := 3) (L' := #[.val (.ref b), .val (.int (0 : Int32)), .val (.ref t), .val (.int (0 : Int32)), .val (.int (1 : Int32)), .val (.int (0 : Int32)), .unset]) rfl rfl ?_
  refine g_iload W d_jdk_52_method_21_code_3 (pc' := 5) rfl rfl ?_
  refine g_iload W d_jdk_52_method_21_code_5 (pc' := 7) rfl rfl ?_
  refine g_icmpN W d_jdk_52_method_21_code_7 (pc' := 10) rfl (Jvm.Free.XT.ii_ge_f (by decide)) ?_
  refine g_aload_n W d_jdk_52_method_21_code_10 (pc' := 11) rfl rfl rfl ?_
  refine g_iload_n W d_jdk_52_method_21_code_11 (pc' := 12) rfl rfl ?_
  refine g_caload W d_jdk_52_method_21_code_12 (pc' := 13) rfl A1 ⟨by decide, by decide⟩ rfl ?_
  refine g_istore W d_jdk_52_method_21_code_13 (pc' := 15) (L' := #[.val (.ref b), .val (.int (0 : Int32)), .val (.ref t), .val (.int (0 : Int32)), .val (.int (1 : Int32)), .val (.int (0 : Int32)), .val (.int c0)]) rfl rfl ?_
  refine g_iload W d_jdk_52_method_21_code_15 (pc' := 17) rfl rfl ?_
  refine g_sipush W d_jdk_52_method_21_code_17 (pc' := 20) (v := (255 : Int32)) rfl (by decide) ?_
  refine g_icmpN W d_jdk_52_method_21_code_20 (pc' := 23) rfl (Jvm.Free.XT.ii_le_f q0) ?_
  refine g_iload W d_jdk_52_method_21_code_23 (pc' := 25) rfl rfl ?_
  exact g_ireturn W d_jdk_52_method_21_code_25 (by decide) rfl (Keep.refl h [t]) rfl (by decide) (by decide)
theorem d_jdk_52_method_16_code_0 : decode jdk_52_method_16_code 0 = .ok (.iload_n 2, 1) := by decide +kernel
theorem d_jdk_52_method_16_code_1 : decode jdk_52_method_16_code 1 = .ok (.newarray .byte, 2) := by decide +kernel
theorem d_jdk_52_method_16_code_3 : decode jdk_52_method_16_code 3 = .ok (.astore_n 3, 1) := by decide +kernel
theorem d_jdk_52_method_16_code_4 : decode jdk_52_method_16_code 4 = .ok (.aload_n 0, 1) := by decide +kernel
theorem d_jdk_52_method_16_code_5 : decode jdk_52_method_16_code 5 = .ok (.iload_n 1, 1) := by decide +kernel
theorem d_jdk_52_method_16_code_6 : decode jdk_52_method_16_code 6 = .ok (.aload_n 3, 1) := by decide +kernel
theorem d_jdk_52_method_16_code_7 : decode jdk_52_method_16_code 7 = .ok (.iconst 0, 1) := by decide +kernel
theorem d_jdk_52_method_16_code_8 : decode jdk_52_method_16_code 8 = .ok (.iload_n 2, 1) := by decide +kernel
theorem d_jdk_52_method_16_code_9 : decode jdk_52_method_16_code 9 = .ok (.invokestatic 115, 3) := by decide +kernel
theorem pd_4 : parseMethodDescriptor "([CI[BII)I" = some ⟨[(.array .char), .int, (.array .byte), .int, .int], some .int⟩ := by decide +kernel
theorem d_jdk_52_method_16_code_12 : decode jdk_52_method_16_code 12 = .ok (.istore 4, 2) := by decide +kernel
theorem d_jdk_52_method_16_code_14 : decode jdk_52_method_16_code 14 = .ok (.iload 4, 2) := by decide +kernel
theorem d_jdk_52_method_16_code_16 : decode jdk_52_method_16_code 16 = .ok (.iload_n 2, 1) := by decide +kernel
theorem d_jdk_52_method_16_code_17 : decode jdk_52_method_16_code 17 = .ok (.if_icmp .eq 40, 3) := by decide +kernel
theorem d_jdk_52_method_16_code_20 : decode jdk_52_method_16_code 20 = .ok (.aload_n 0, 1) := by decide +kernel
theorem d_jdk_52_method_16_code_21 : decode jdk_52_method_16_code 21 = .ok (.iload_n 1, 1) := by decide +kernel
theorem d_jdk_52_method_16_code_22 : decode jdk_52_method_16_code 22 = .ok (.iload_n 2, 1) := by decide +kernel
theorem d_jdk_52_method_16_code_23 : decode jdk_52_method_16_code 23 = .ok (.invokestatic 119, 3) := by decide +kernel
theorem pd_5 : parseMethodDescriptor "([CII)[B" = some ⟨[(.array .char), .int, .int], some (.array .byte)⟩ := by decide +kernel
theorem d_jdk_52_method_16_code_26 : decode jdk_52_method_16_code 26 = .ok (.astore 5, 2) := by decide +kernel
theorem d_jdk_52_method_16_code_28 : decode jdk_52_method_16_code 28 = .ok (.aload 5, 2) := by decide +kernel
theorem d_jdk_52_method_16_code_30 : decode jdk_52_method_16_code 30 = .ok (.iload 4, 2) := by decide +kernel
theorem d_jdk_52_method_16_code_32 : decode jdk_52_method_16_code 32 = .ok (.invokestatic 71, 3) := by decide +kernel
theorem pd_6 : parseMethodDescriptor "([BI)C" = some ⟨[(.array .byte), .int], some .char⟩ := by decide +kernel
theorem d_jdk_52_method_16_code_35 : decode jdk_52_method_16_code 35 = .ok (.sipush 255, 3) := by decide +kernel
theorem d_jdk_52_method_16_code_38 : decode jdk_52_method_16_code 38 = .ok (.if_icmp .gt 16, 3) := by decide +kernel
theorem d_jdk_52_method_16_code_54 : decode jdk_52_method_16_code 54 = .ok (.aload 5, 2) := by decide +kernel
theorem d_jdk_52_method_16_code_56 : decode jdk_52_method_16_code 56 = .ok (.areturn, 1) := by decide +kernel
theorem pf_9 : plainFor (⟨"java/lang/StringUTF16", "compress", "([CII)[B"⟩ : MethodName) = true := by first | (exact plainFor_of_name (by first | (simp [plainName, overriddenIn]; done) | decide +kernel)) | decide +kernel
set_option maxRecDepth 65536 in
set_option maxHeartbeats 40000000 in
theorem rm_c16_1_0 {l : Launch} {Z : State} {a0 : Array Value} (hw : ∀ d ∈ tables_1, d.before a0 Z = true) (hEL : EW Z a0 EL1) {zc : Int32} (Sc : Sta Z Z.heap "java/lang/String" "COMPACT_STRINGS" "Z" (.int zc)) (hzc : ¬ zc = 0) (b : Addr) (kb : ClassId) (db : Value) (c0 : Int32) (h : Heap) (hX : Ext Z.heap h) (Sa : Sta Z Z.heap "java/lang/StringUTF16" "$assertionsDisabled" "Z" (.int (1 : Int32))) (Sh : Sta Z Z.heap "java/lang/StringUTF16" "HI_BYTE_SHIFT" "I" (.int (0 : Int32))) (Sl : Sta Z Z.heap "java/lang/StringUTF16" "LO_BYTE_SHIFT" "I" (.int (8 : Int32))) (A1 : Arv Z h b kb .char (1 : Int32) [(.int c0)] db) (r0 : ¬ c0 < 0 ∧ ¬ (65535 : Int32) < c0) (q0 : (255 : Int32) < c0) : Met l Z EL1 NW (⟨"java/lang/StringUTF16", "compress", "([CII)[B"⟩ : MethodName) jdk_52_method_16_code 6 (some (.array .byte)) [] ({ frames := 3, cells := 2, slots := 3, locals := 50 } : Room) #[(.ref b), (.int (0 : Int32)), (.int (1 : Int32))] h [] (fun v h' => ∃ a k, v = some (.ref a) ∧ h.size ≤ a ∧ Arv Z h' a k .byte (2 : Int32) (StrChars.Road.wideBytes [c0]) (.int (0 : Int32))) := by
  refine Met.intro pf_9 hEL hX (fun _ q => nomatch q) ?_
  intro p e s m below meth c T W
  refine Goes.cast (show entryFrame m #[(.ref b), (.int (0 : Int32)), (.int (1 : Int32))] 6 = mkF m 0 #[.val (.ref b), .val (.int (0 : Int32)), .val (.int (1 : Int32)), .unset, .unset, .unset] [] by first | (simp [entryFrame, mkF, argsToLocals, Value.category]; done) | rfl) ?_
  refine g_iload_n W d_jdk_52_method_16_code_0 (pc' := 1) rfl rfl ?_
  refine g_newarray W d_jdk_52_method_16_code_1 (pc' := 3) (cap := 1) rfl (hw _ (List.mem_of_getElem? (i := 19) rfl)) (by decide) (by decide) (by decide) (by decide) (by decide) fun T1 h3 t kA7 g4 W2 E5 A6 => ?_
  have A8 : Arv Z h3 t kA7 .byte (1 : Int32) [(.int (0 : Int32))] (.int (0 : Int32)) := A6.pad (pad_rep [] (.int (0 : Int32)) 1)
  refine g_astore_n W2 d_jdk_52_method_16_code_3 (pc' := 4) (L' := #[.val (.ref b), .val (.int (0 : Int32)), .val (.int (1 : Int32)), .val (.ref t), .unset, .unset]) rfl rfl rfl ?_
  refine g_aload_n W2 d_jdk_52_method_16_code_4 (pc' := 5) rfl rfl rfl ?_
  refine g_iload_n W2 d_jdk_52_method_16_code_5 (pc' := 6) rfl rfl ?_
  refine g_aload_n W2 d_jdk_52_method_16_code_6 (pc' := 7) rfl rfl rfl ?_
  refine g_iconst W2 d_jdk_52_method_16_code_7 (pc' := 8) (v := (0 : Int32)) rfl rfl ?_
  refine g_iload_n W2 d_jdk_52_method_16_code_8 (pc' := 9) rfl rfl ?_
  have nbt : b ≠ t := Nat.ne_of_lt (Nat.lt_of_lt_of_le A1.lt (Nat.le_of_eq g4.symm))
  have hXa := W2.ext
  have K15 : Keep h h3 [] := ((Keep.refl h []).ext E5)
  have F16 := A1.mv K15
  refine g_static W2 d_jdk_52_method_16_code_9 (pc' := 12) (fr' := [t]) (argsL := [(.ref b), (.int (0 : Int32)), (.ref t), (.int (0 : Int32)), (.int (1 : Int32))]) (rest := []) (Wd := 0) (kc := 0) (ks := 0) rfl (hw _ (List.mem_of_getElem? (i := 40) rfl)) (hw _ (List.mem_of_getElem? (i := 41) rfl)) (hw _ (List.mem_of_getElem? (i := 38) rfl)) (hw _ (List.mem_of_getElem? (i := 42) rfl)) (by decide) rfl rfl (lenOf pd_4 rfl) rfl (allS (List.mem_of_getElem? (i := 0) rfl) (all0)) (by decide) (by decide) (Met.pays (rm_cl_1_0 hw hEL Sc hzc b t kb _ db c0 _ W2.ext F16 A8 nbt (W2.frs t (List.mem_of_getElem? (i := 0) rfl)).1 q0) (hw _ (List.mem_of_getElem? (i := 42) rfl)) (hw _ (List.mem_of_getElem? (i := 38) rfl)) hEL (by decide) (by decide)) fun v14 T9 h11 W10 K12 q13 => ?_
  obtain rfl := q13
  show Goes _ _ _ _ _ _ _ _ _ _ _ T9 (mkF m 12 #[.val (.ref b), .val (.int (0 : Int32)), .val (.int (1 : Int32)), .val (.ref t), .unset, .unset] [(.int (0 : Int32))])
  refine g_istore W10 d_jdk_52_method_16_code_12 (pc' := 14) (L' := #[.val (.ref b), .val (.int (0 : Int32)), .val (.int (1 : Int32)), .val (.ref t), .val (.int (0 : Int32)), .unset]) rfl rfl ?_
  refine g_iload W10 d_jdk_52_method_16_code_14 (pc' := 16) rfl rfl ?_
  refine g_iload_n W10 d_jdk_52_method_16_code_16 (pc' := 17) rfl rfl ?_
  refine g_icmpN W10 d_jdk_52_method_16_code_17 (pc' := 20) rfl (Jvm.Free.XT.ii_eq_f (by decide)) ?_
  refine g_aload_n W10 d_jdk_52_method_16_code_20 (pc' := 21) rfl rfl rfl ?_
  refine g_iload_n W10 d_jdk_52_method_16_code_21 (pc' := 22) rfl rfl ?_
  refine g_iload_n W10 d_jdk_52_method_16_code_22 (pc' := 23) rfl rfl ?_
  have K23 : Keep h h11 [] := (((Keep.refl h []).ext E5).trans K12 fun x q => by cases List.mem_singleton.mp q; exact Or.inr (Nat.le_of_eq g4.symm))
  have F24 := A1.mv K23
  refine g_static W10 d_jdk_52_method_16_code_23 (pc' := 26) (fr' := []) (argsL := [(.ref b), (.int (0 : Int32)), (.int (1 : Int32))]) (rest := []) (Wd := 0) (kc := 1) (ks := 2) rfl (hw _ (List.mem_of_getElem? (i := 46) rfl)) (hw _ (List.mem_of_getElem? (i := 47) rfl)) (hw _ (List.mem_of_getElem? (i := 38) rfl)) (hw _ (List.mem_of_getElem? (i := 48) rfl)) (by decide) rfl rfl (lenOf pd_5 rfl) rfl all0 (by decide) (by decide) (Met.pays (rm_tb_1 hw hEL Sc hzc b kb db c0 _ W10.ext Sa Sh Sl F24) (hw _ (List.mem_of_getElem? (i := 48) rfl)) (hw _ (List.mem_of_getElem? (i := 38) rfl)) hEL (by decide) (by decide)) fun v22 T17 h19 W18 K20 q21 => ?_
  obtain ⟨d, kd, rfl, gd, Ad⟩ := q21
  show Goes _ _ _ _ _ _ _ _ _ _ _ T17 (mkF m 26 #[.val (.ref b), .val (.int (0 : Int32)), .val (.int (1 : Int32)), .val (.ref t), .val (.int (0 : Int32)), .unset] [(.ref d)])
  refine g_astore W18 d_jdk_52_method_16_code_26 (pc' := 28) (L' := #[.val (.ref b), .val (.int (0 : Int32)), .val (.int (1 : Int32)), .val (.ref t), .val (.int (0 : Int32)), .val (.ref d)]) rfl rfl rfl ?_
  refine g_aload W18 d_jdk_52_method_16_code_28 (pc' := 30) rfl rfl rfl ?_
  refine g_iload W18 d_jdk_52_method_16_code_30 (pc' := 32) rfl rfl ?_
  refine g_static W18 d_jdk_52_method_16_code_32 (pc' := 35) (fr' := []) (argsL := [(.ref d), (.int (0 : Int32))]) (rest := []) (Wd := 0) (kc := 0) (ks := 0) rfl (hw _ (List.mem_of_getElem? (i := 62) rfl)) (hw _ (List.mem_of_getElem? (i := 63) rfl)) (hw _ (List.mem_of_getElem? (i := 38) rfl)) (hw _ (List.mem_of_getElem? (i := 64) rfl)) (by decide) rfl rfl (lenOf pd_6 rfl) rfl all0 (by decide) (by decide) (Met.pays (rm_getChar hw hEL Sc hzc d kd (2 : Int32) (0 : Int32) c0 _ _ W18.ext Sa Sh Sl Ad (by decide) rfl (by decide) rfl r0) (hw _ (List.mem_of_getElem? (i := 64) rfl)) (hw _ (List.mem_of_getElem? (i := 38) rfl)) hEL (by decide) (by decide)) fun v30 T25 h27 W26 K28 q29 => ?_
  obtain ⟨rfl, rfl⟩ := q29
  show Goes _ _ _ _ _ _ _ _ _ _ _ T25 (mkF m 35 #[.val (.ref b), .val (.int (0 : Int32)), .val (.int (1 : Int32)), .val (.ref t), .val (.int (0 : Int32)), .val (.ref d)] [(.int c0)])
  refine g_sipush W26 d_jdk_52_method_16_code_35 (pc' := 38) (v := (255 : Int32)) rfl (by decide) ?_
  refine g_icmpY W26 d_jdk_52_method_16_code_38 (pc' := 54) (by decide) (by decide) (Jvm.Free.XT.ii_gt_t q0) ?_
  refine g_aload W26 d_jdk_52_method_16_code_54 (pc' := 56) rfl rfl rfl ?_
  have K31 : Keep h h19 [] := ((((Keep.refl h []).ext E5).trans K12 fun x q => by cases List.mem_singleton.mp q; exact Or.inr (Nat.le_of_eq g4.symm)).trans K20 fun _ q => nomatch q)
  exact g_areturn W26 d_jdk_52_method_16_code_56 rfl rfl rfl K31 ⟨_, _, rfl, Nat.le_trans K23.1 gd, Ad⟩ (by decide) (by decide)
theorem d_jdk_42_method_149_code_27 : decode jdk_42_method_149_code 27 = .ok (.getstatic 38, 3) := by decide +kernel
theorem d_jdk_42_method_149_code_30 : decode jdk_42_method_149_code 30 = .ok (.ifCond .eq 28, 3) := by decide +kernel
theorem d_jdk_42_method_149_code_33 : decode jdk_42_method_149_code 33 = .ok (.aload_n 1, 1) := by decide +kernel
theorem d_jdk_42_method_149_code_34 : decode jdk_42_method_149_code 34 = .ok (.iload_n 2, 1) := by decide +kernel
theorem d_jdk_42_method_149_code_35 : decode jdk_42_method_149_code 35 = .ok (.iload_n 3, 1) := by decide +kernel
theorem d_jdk_42_method_149_code_36 : decode jdk_42_method_149_code 36 = .ok (.invokestatic 177, 3) := by decide +kernel
theorem d_jdk_42_method_149_code_39 : decode jdk_42_method_149_code 39 = .ok (.astore 5, 2) := by decide +kernel
theorem d_jdk_42_method_149_code_41 : decode jdk_42_method_149_code 41 = .ok (.aload_n 0, 1) := by decide +kernel
theorem d_jdk_42_method_149_code_42 : decode jdk_42_method_149_code 42 = .ok (.aload 5, 2) := by decide +kernel
theorem d_jdk_42_method_149_code_44 : decode jdk_42_method_149_code 44 = .ok (.iload_n 3, 1) := by decide +kernel
theorem d_jdk_42_method_149_code_45 : decode jdk_42_method_149_code 45 = .ok (.invokestatic 47, 3) := by decide +kernel
theorem pd_7 : parseMethodDescriptor "([BI)B" = some ⟨[(.array .byte), .int], some .byte⟩ := by decide +kernel
theorem d_jdk_42_method_149_code_48 : decode jdk_42_method_149_code 48 = .ok (.putfield 15, 3) := by decide +kernel
theorem d_jdk_42_method_149_code_51 : decode jdk_42_method_149_code 51 = .ok (.aload_n 0, 1) := by decide +kernel
theorem d_jdk_42_method_149_code_52 : decode jdk_42_method_149_code 52 = .ok (.aload 5, 2) := by decide +kernel
theorem d_jdk_42_method_149_code_54 : decode jdk_42_method_149_code 54 = .ok (.putfield 9, 3) := by decide +kernel
theorem d_jdk_42_method_149_code_57 : decode jdk_42_method_149_code 57 = .ok (.return_, 1) := by decide +kernel
set_option maxRecDepth 65536 in
set_option maxHeartbeats 40000000 in
theorem rm_new4_1_0 {l : Launch} {Z : State} {a0 : Array Value} (hw : ∀ d ∈ tables_1, d.before a0 Z = true) (hEL : EW Z a0 EL1) {zc : Int32} (Sc : Sta Z Z.heap "java/lang/String" "COMPACT_STRINGS" "Z" (.int zc)) (hzc : ¬ zc = 0) (a1 b : Addr) (kb : ClassId) (db : Value) (c0 : Int32) (h : Heap) (hX : Ext Z.heap h) (Sa : Sta Z Z.heap "java/lang/StringUTF16" "$assertionsDisabled" "Z" (.int (1 : Int32))) (Sh : Sta Z Z.heap "java/lang/StringUTF16" "HI_BYTE_SHIFT" "I" (.int (0 : Int32))) (Sl : Sta Z Z.heap "java/lang/StringUTF16" "LO_BYTE_SHIFT" "I" (.int (8 : Int32))) (g1 : Z.heap.size ≤ a1) (O1 : Obj Z h a1 "java/lang/String" [(("java/lang/String", "value", "[B"), .null), (("java/lang/String", "coder", "B"), (.int 0))]) (A1 : Arv Z h b kb .char (1 : Int32) [(.int c0)] db) (r0 : ¬ c0 < 0 ∧ ¬ (65535 : Int32) < c0) (q0 : (255 : Int32) < c0) : Met l Z EL1 NW (⟨"java/lang/String", "<init>", "([CIILjava/lang/Void;)V"⟩ : MethodName) jdk_42_method_149_code 6 none [] ({ frames := 4, cells := 2, slots := 3, locals := 70 } : Room) #[(.ref a1), (.ref b), (.int (0 : Int32)), (.int (1 : Int32)), .null] h [a1] (fun v h' => v = none ∧ Str Z h' a1 [c0]) := by
  refine Met.intro pf_0 hEL hX (allS ⟨g1, O1.lt⟩ all0) ?_
  intro p e s m below meth c T W
  refine Goes.cast (show entryFrame m #[(.ref a1), (.ref b), (.int (0 : Int32)), (.int (1 : Int32)), .null] 6 = mkF m 0 #[.val (.ref a1), .val (.ref b), .val (.int (0 : Int32)), .val (.int (1 : Int32)), .val .null, .unset] [] by first | (simp [entryFrame, mkF, argsToLocals, Value.category]; done) | rfl) ?_
  refine g_aload_n W d_jdk_42_method_149_code_0 (pc' := 1) rfl rfl rfl ?_
  refine g_initO W d_jdk_42_method_149_code_1 (pc' := 4) (Wd := 0) rfl (hw _ (List.mem_of_getElem? (i := 15) rfl)) (hw _ (List.mem_of_getElem? (i := 16) rfl)) (hw _ (List.mem_of_getElem? (i := 17) rfl)) rfl rfl (by decide) (by decide) fun T1 W2 => ?_
  refine g_iload_n W2 d_jdk_42_method_149_code_4 (pc' := 5) rfl rfl ?_
  refine g_ifY W2 d_jdk_42_method_149_code_5 (pc' := 27) (by decide) (by decide) (Jvm.Free.XT.i0_ne_t (by decide)) ?_
  refine g_getstatic W2 d_jdk_42_method_149_code_27 (pc' := 30) rfl (hw _ (List.mem_of_getElem? (i := 35) rfl)) Via.refl Sc fun T3 W4 => ?_
  refine g_ifN W4 d_jdk_42_method_149_code_30 (pc' := 33) rfl (Jvm.Free.XT.i0_eq_f hzc) ?_
  refine g_aload_n W4 d_jdk_42_method_149_code_33 (pc' := 34) rfl rfl rfl ?_
  refine g_iload_n W4 d_jdk_42_method_149_code_34 (pc' := 35) rfl rfl ?_
  refine g_iload_n W4 d_jdk_42_method_149_code_35 (pc' := 36) rfl rfl ?_
  refine g_static W4 d_jdk_42_method_149_code_36 (pc' := 39) (fr' := []) (argsL := [(.ref b), (.int (0 : Int32)), (.int (1 : Int32))]) (rest := []) (Wd := 0) (kc := 2) (ks := 3) rfl (hw _ (List.mem_of_getElem? (i := 36) rfl)) (hw _ (List.mem_of_getElem? (i := 37) rfl)) (hw _ (List.mem_of_getElem? (i := 38) rfl)) (hw _ (List.mem_of_getElem? (i := 39) rfl)) (by decide) rfl rfl (lenOf pd_5 rfl) rfl all0 (by decide) (by decide) (Met.pays (rm_c16_1_0 hw hEL Sc hzc b kb db c0 _ W4.ext Sa Sh Sl A1 r0 q0) (hw _ (List.mem_of_getElem? (i := 39) rfl)) (hw _ (List.mem_of_getElem? (i := 38) rfl)) hEL (by decide) (by decide)) fun v10 T5 h7 W6 K8 q9 => ?_
  obtain ⟨d, kd, rfl, gd, Ad⟩ := q9
  show Goes _ _ _ _ _ _ _ _ _ _ _ T5 (mkF m 39 #[.val (.ref a1), .val (.ref b), .val (.int (0 : Int32)), .val (.int (1 : Int32)), .val .null, .unset] [(.ref d)])
  have nda : d ≠ a1 := Nat.ne_of_gt (Nat.lt_of_lt_of_le O1.lt gd)
  refine g_astore W6 d_jdk_42_method_149_code_39 (pc' := 41) (L' := #[.val (.ref a1), .val (.ref b), .val (.int (0 : Int32)), .val (.int (1 : Int32)), .val .null, .val (.ref d)]) rfl rfl rfl ?_
  refine g_aload_n W6 d_jdk_42_method_149_code_41 (pc' := 42) rfl rfl rfl ?_
  refine g_aload W6 d_jdk_42_method_149_code_42 (pc' := 44) rfl rfl rfl ?_
  refine g_iload_n W6 d_jdk_42_method_149_code_44 (pc' := 45) rfl rfl ?_
  refine g_static W6 d_jdk_42_method_149_code_45 (pc' := 48) (fr' := []) (argsL := [(.ref d), (.int (1 : Int32))]) (rest := [(.ref a1)]) (Wd := 1) (kc := 0) (ks := 0) rfl (hw _ (List.mem_of_getElem? (i := 43) rfl)) (hw _ (List.mem_of_getElem? (i := 44) rfl)) (hw _ (List.mem_of_getElem? (i := 38) rfl)) (hw _ (List.mem_of_getElem? (i := 45) rfl)) (by decide) rfl rfl (lenOf pd_7 rfl) rfl all0 (by decide) (by decide) (Met.pays (rm_cfa_1 hw hEL Sc hzc d kd _ _ _ W6.ext Ad) (hw _ (List.mem_of_getElem? (i := 45) rfl)) (hw _ (List.mem_of_getElem? (i := 38) rfl)) hEL (by decide) (by decide)) fun v16 T11 h13 W12 K14 q15 => ?_
  obtain ⟨rfl, rfl⟩ := q15
  show Goes _ _ _ _ _ _ _ _ _ _ _ T11 (mkF m 48 #[.val (.ref a1), .val (.ref b), .val (.int (0 : Int32)), .val (.int (1 : Int32)), .val .null, .val (.ref d)] [(.int (1 : Int32)), (.ref a1)])
  have K22 : Keep h h7 [] := ((Keep.refl h []).trans K8 fun _ q => nomatch q)
  have F23 := O1.mv K22
  refine g_putfield W12 d_jdk_42_method_149_code_48 (pc' := 51) (host := "") (ty := .byte) rfl (Or.inl (hw _ (List.mem_of_getElem? (i := 25) rfl))) Via.refl (F23.get 1 rfl) F23.1 (Or.inr ⟨(hw _ (List.mem_of_getElem? (i := 21) rfl)), rfl, rfl⟩) (hw _ (List.mem_of_getElem? (i := 5) rfl)) (by decide) rfl rfl (List.mem_of_getElem? (i := 0) rfl) fun T17 h19 W18 R20 => ?_
  have O21 : Obj Z h19 a1 "java/lang/String" [(("java/lang/String", "value", "[B"), .null), (("java/lang/String", "coder", "B"), (.int (1 : Int32)))] := F23.put R20 1 rfl (dis_Str hw)
  refine g_aload_n W18 d_jdk_42_method_149_code_51 (pc' := 52) rfl rfl rfl ?_
  refine g_aload W18 d_jdk_42_method_149_code_52 (pc' := 54) rfl rfl rfl ?_
  refine g_putfield W18 d_jdk_42_method_149_code_54 (pc' := 57) (host := "") (ty := (.array .byte)) rfl (Or.inl (hw _ (List.mem_of_getElem? (i := 24) rfl))) Via.refl (O21.get 0 rfl) O21.1 (Or.inr ⟨(hw _ (List.mem_of_getElem? (i := 20) rfl)), rfl, rfl⟩) (hw _ (List.mem_of_getElem? (i := 5) rfl)) (by decide) rfl rfl (List.mem_of_getElem? (i := 0) rfl) fun T24 h26 W25 R27 => ?_
  have O28 : Obj Z h26 a1 "java/lang/String" [(("java/lang/String", "value", "[B"), (.ref d)), (("java/lang/String", "coder", "B"), (.int (1 : Int32)))] := O21.put R27 0 rfl (dis_Str hw)
  have K29 : Keep h7 h26 [a1] := (((Keep.refl h7 [a1]).wr R20 (Or.inl (List.mem_of_getElem? (i := 0) rfl))).wr R27 (Or.inl (List.mem_of_getElem? (i := 0) rfl)))
  have F30 := Ad.keep K29 (ninS nda nin0)
  have K31 : Keep h h26 [a1] := ((((Keep.refl h [a1]).trans K8 fun _ q => nomatch q).wr R20 (Or.inl (List.mem_of_getElem? (i := 0) rfl))).wr R27 (Or.inl (List.mem_of_getElem? (i := 0) rfl)))
  exact g_return W25 d_jdk_42_method_149_code_57 K31 ⟨rfl, ⟨_, _, _, _, _, O28.1, O28.get 0 rfl, O28.get 1 rfl, F30, Or.inr ⟨rfl, rfl, rfl, c0, List.mem_of_getElem? (i := 0) rfl, q0⟩, (rngC r0 rngN), Nat.le_of_ble_eq_true rfl⟩⟩ (by decide) (by decide)
set_option maxRecDepth 65536 in
set_option maxHeartbeats 40000000 in
theorem rm_new1_1_0 {l : Launch} {Z : State} {a0 : Array Value} (hw : ∀ d ∈ tables_1, d.before a0 Z = true) (hEL : EW Z a0 EL1) {zc : Int32} (Sc : Sta Z Z.heap "java/lang/String" "COMPACT_STRINGS" "Z" (.int zc)) (hzc : ¬ zc = 0) (a1 b : Addr) (kb : ClassId) (db : Value) (c0 : Int32) (h : Heap) (hX : Ext Z.heap h) (Sa : Sta Z Z.heap "java/lang/StringUTF16" "$assertionsDisabled" "Z" (.int (1 : Int32))) (Sh : Sta Z Z.heap "java/lang/StringUTF16" "HI_BYTE_SHIFT" "I" (.int (0 : Int32))) (Sl : Sta Z Z.heap "java/lang/StringUTF16" "LO_BYTE_SHIFT" "I" (.int (8 : Int32))) (g1 : Z.heap.size ≤ a1) (O1 : Obj Z h a1 "java/lang/String" [(("java/lang/String", "value", "[B"), .null), (("java/lang/String", "coder", "B"), (.int 0))]) (A1 : Arv Z h b kb .char (1 : Int32) [(.int c0)] db) (r0 : ¬ c0 < 0 ∧ ¬ (65535 : Int32) < c0) (q0 : (255 : Int32) < c0) : Met l Z EL1 NW (⟨"java/lang/String", "<init>", "([C)V"⟩ : MethodName) jdk_42_method_3_code 2 none [] ({ frames := 5, cells := 2, slots := 3, locals := 90 } : Room) #[(.ref a1), (.ref b)] h [a1] (fun v h' => v = none ∧ Str Z h' a1 [c0]) := by
  refine Met.intro pf_1 hEL hX (allS ⟨g1, O1.lt⟩ all0) ?_
  intro p e s m below meth c T W
  refine Goes.cast (show entryFrame m #[(.ref a1), (.ref b)] 2 = mkF m 0 #[.val (.ref a1), .val (.ref b)] [] by first | (simp [entryFrame, mkF, argsToLocals, Value.category]; done) | rfl) ?_
  refine g_aload_n W d_jdk_42_method_3_code_0 (pc' := 1) rfl rfl rfl ?_
  refine g_aload_n W d_jdk_42_method_3_code_1 (pc' := 2) rfl rfl rfl ?_
  refine g_iconst W d_jdk_42_method_3_code_2 (pc' := 3) (v := (0 : Int32)) rfl rfl ?_
  refine g_aload_n W d_jdk_42_method_3_code_3 (pc' := 4) rfl rfl rfl ?_
  refine g_arraylength W d_jdk_42_method_3_code_4 (pc' := 5) rfl A1 ?_
  refine g_aconst_null W d_jdk_42_method_3_code_5 (pc' := 6) rfl ?_
  refine g_special W d_jdk_42_method_3_code_6 (pc' := 9) (a := a1) (fr' := [a1]) (argsL := [(.ref b), (.int (0 : Int32)), (.int (1 : Int32)), .null]) (rest := []) (Wd := 0) (kc := 2) (ks := 3) rfl rfl (hw _ (List.mem_of_getElem? (i := 11) rfl)) (hw _ (List.mem_of_getElem? (i := 12) rfl)) (hw _ (List.mem_of_getElem? (i := 14) rfl)) (by decide) rfl rfl (lenOf pd_0 rfl) rfl (allS (List.mem_of_getElem? (i := 0) rfl) (all0)) (by decide) (by decide) (Met.pays (rm_new4_1_0 hw hEL Sc hzc a1 b kb db c0 _ W.ext Sa Sh Sl g1 O1 A1 r0 q0) (hw _ (List.mem_of_getElem? (i := 14) rfl)) (hw _ (List.mem_of_getElem? (i := 6) rfl)) hEL (by decide) (by decide)) fun v6 T1 h3 W2 K4 q5 => ?_
  obtain ⟨rfl, S1⟩ := q5
  show Goes _ _ _ _ _ _ _ _ _ _ _ T1 (mkF m 9 #[.val (.ref a1), .val (.ref b)] [])
  have K7 : Keep h h3 [a1] := ((Keep.refl h [a1]).trans K4 fun x q => by cases List.mem_singleton.mp q; exact Or.inl (List.mem_of_getElem? (i := 0) rfl))
  exact g_return W2 d_jdk_42_method_3_code_9 K7 ⟨rfl, S1⟩ (by decide) (by decide)
theorem pays_str_1 {l : Launch} {Z : State} {a0 : Array Value} (hw : ∀ d ∈ tables_1, d.before a0 Z = true) (hEL : EW Z a0 EL1) {zc : Int32} (Sc : Sta Z Z.heap "java/lang/String" "COMPACT_STRINGS" "Z" (.int zc)) (hzc : ¬ zc = 0) (Sa : Sta Z Z.heap "java/lang/StringUTF16" "$assertionsDisabled" "Z" (.int (1 : Int32))) (Sh : Sta Z Z.heap "java/lang/StringUTF16" "HI_BYTE_SHIFT" "I" (.int (0 : Int32))) (Sl : Sta Z Z.heap "java/lang/StringUTF16" "LO_BYTE_SHIFT" "I" (.int (8 : Int32))) {p : Program} {e : Env} {R : Room} {s : State} {args : Array Value} {below : List Frame} {Wd len : Nat} (x b : Addr) (kb : ClassId) (db : Value) (c0 : Int32) (h : Heap) (hX : Ext Z.heap h) (g1 : Z.heap.size ≤ x) (O1 : Obj Z h x "java/lang/String" [(("java/lang/String", "value", "[B"), .null), (("java/lang/String", "coder", "B"), (.int 0))]) (A1 : Arv Z h b kb .char (1 : Int32) [(.int c0)] db) (r0 : ¬ c0 < 0 ∧ ¬ (65535 : Int32) < c0) (hfr : 6 ≤ R.frames) (hlo : Wd + 103 ≤ R.locals) : Pays l R p e below s args Z EL1 NW (⟨"java/lang/String", "<init>", "([C)V"⟩ : MethodName) len Wd #[.ref x, .ref b] h [x] (fun v h' => v = none ∧ Str Z h' x [c0]) 2 3 := by
  by_cases q0 : (255 : Int32) < c0
  · exact Met.pays (rm_new1_1_0 hw hEL Sc hzc x b kb db c0 h hX Sa Sh Sl g1 O1 A1 r0 q0) (hw _ (List.mem_of_getElem? (i := 10) rfl)) (hw _ (List.mem_of_getElem? (i := 6) rfl)) hEL hfr (by show Wd + (2 + 11) + 90 ≤ _; omega)
  exact (pays_newStr (cs := [c0]) (n := 1) hEL (fun d hd => hw d ((by decide +kernel : ∀ d ∈ StrChars.Road.words, d ∈ tables_1) d hd)) (hw _ (List.mem_of_getElem? (i := 5) rfl)) O1 A1 Sc hzc hX g1 rfl (by decide) (by decide) (by decide) (lowK ⟨r0.1, q0⟩ lowN) (by omega) (by omega)).more (by decide) (by decide)
set_option maxRecDepth 65536 in
set_option maxHeartbeats 40000000 in
theorem rm_nbl_2 {l : Launch} {Z : State} {a0 : Array Value} (hw : ∀ d ∈ tables_1, d.before a0 Z = true) (hEL : EW Z a0 EL1) {zc : Int32} (Sc : Sta Z Z.heap "java/lang/String" "COMPACT_STRINGS" "Z" (.int zc)) (hzc : ¬ zc = 0)  (h : Heap) (hX : Ext Z.heap h)  : Met l Z EL1 NW (⟨"java/lang/StringUTF16", "newBytesLength", "(I)I"⟩ : MethodName) jdk_52_method_3_code 1 (some .int) [] ({ frames := 0, cells := 0, slots := 0, locals := 0 } : Room) #[(.int (2 : Int32))] h [] (fun v h' => h = h' ∧ v = some (.int (4 : Int32))) := by
  refine Met.intro pf_4 hEL hX (fun _ q => nomatch q) ?_
  intro p e s m below meth c T W
  refine Goes.cast (show entryFrame m #[(.int (2 : Int32))] 1 = mkF m 0 #[.val (.int (2 : Int32))] [] by first | (simp [entryFrame, mkF, argsToLocals, Value.category]; done) | rfl) ?_
  refine g_iload_n W d_jdk_52_method_3_code_0 (pc' := 1) rfl rfl ?_
  refine g_ifY W d_jdk_52_method_3_code_1 (pc' := 12) (by decide) (by decide) (Jvm.Free.XT.i0_ge_t (by decide)) ?_
  refine g_iload_n W d_jdk_52_method_3_code_12 (pc' := 13) rfl rfl ?_
  refine g_ldcI W d_jdk_52_method_3_code_13 (pc' := 15) (v := (1073741823 : Int32)) rfl (hw _ (List.mem_of_getElem? (i := 55) rfl)) ?_
  refine g_icmpY W d_jdk_52_method_3_code_15 (pc' := 55) (by decide) (by decide) (Jvm.Free.XT.ii_lt_t (by decide)) ?_
  refine g_iload_n W d_jdk_52_method_3_code_55 (pc' := 56) rfl rfl ?_
  refine g_iconst W d_jdk_52_method_3_code_56 (pc' := 57) (v := (1 : Int32)) rfl rfl ?_
  refine g_ishl W d_jdk_52_method_3_code_57 (pc' := 58) rfl ?_
  rw [show ((2 : Int32) <<< ((1 : Int32) &&& 31)) = (4 : Int32) from by decide]
  exact g_ireturn W d_jdk_52_method_3_code_58 (by decide) rfl (Keep.refl h []) ⟨rfl, rfl⟩ (by decide) (by decide)
set_option maxRecDepth 65536 in
set_option maxHeartbeats 40000000 in
theorem rm_nbf_2 {l : Launch} {Z : State} {a0 : Array Value} (hw : ∀ d ∈ tables_1, d.before a0 Z = true) (hEL : EW Z a0 EL1) {zc : Int32} (Sc : Sta Z Z.heap "java/lang/String" "COMPACT_STRINGS" "Z" (.int zc)) (hzc : ¬ zc = 0)  (h : Heap) (hX : Ext Z.heap h)  : Met l Z EL1 NW (⟨"java/lang/StringUTF16", "newBytesFor", "(I)[B"⟩ : MethodName) jdk_52_method_2_code 1 (some (.array .byte)) [] ({ frames := 1, cells := 1, slots := 4, locals := 12 } : Room) #[(.int (2 : Int32))] h [] (fun v h' => ∃ a k, v = some (.ref a) ∧ h.size ≤ a ∧ Arv Z h' a k .byte (4 : Int32) [(.int (0 : Int32)), (.int (0 : Int32)), (.int (0 : Int32)), (.int (0 : Int32))] (.int (0 : Int32))) := by
  refine Met.intro pf_5 hEL hX (fun _ q => nomatch q) ?_
  intro p e s m below meth c T W
  refine Goes.cast (show entryFrame m #[(.int (2 : Int32))] 1 = mkF m 0 #[.val (.int (2 : Int32))] [] by first | (simp [entryFrame, mkF, argsToLocals, Value.category]; done) | rfl) ?_
  refine g_iload_n W d_jdk_52_method_2_code_0 (pc' := 1) rfl rfl ?_
  refine g_static W d_jdk_52_method_2_code_1 (pc' := 4) (fr' := []) (argsL := [(.int (2 : Int32))]) (rest := []) (Wd := 0) (kc := 0) (ks := 0) rfl (hw _ (List.mem_of_getElem? (i := 52) rfl)) (hw _ (List.mem_of_getElem? (i := 53) rfl)) (hw _ (List.mem_of_getElem? (i := 38) rfl)) (hw _ (List.mem_of_getElem? (i := 54) rfl)) (by decide) rfl rfl (lenOf pd_1 rfl) rfl all0 (by decide) (by decide) (Met.pays (rm_nbl_2 hw hEL Sc hzc _ W.ext) (hw _ (List.mem_of_getElem? (i := 54) rfl)) (hw _ (List.mem_of_getElem? (i := 38) rfl)) hEL (by decide) (by decide)) fun v6 T1 h3 W2 K4 q5 => ?_
  obtain ⟨rfl, rfl⟩ := q5
  show Goes _ _ _ _ _ _ _ _ _ _ _ T1 (mkF m 4 #[.val (.int (2 : Int32))] [(.int (4 : Int32))])
  refine g_newarray W2 d_jdk_52_method_2_code_4 (pc' := 6) (cap := 4) rfl (hw _ (List.mem_of_getElem? (i := 19) rfl)) (by decide) (by decide) (by decide) (by decide) (by decide) fun T7 h9 b1 kA13 g10 W8 E11 A12 => ?_
  have A14 : Arv Z h9 b1 kA13 .byte (4 : Int32) [(.int (0 : Int32)), (.int (0 : Int32)), (.int (0 : Int32)), (.int (0 : Int32))] (.int (0 : Int32)) := A12.pad (pad_rep [] (.int (0 : Int32)) 4)
  have K15 : Keep h h9 [] := ((Keep.refl h []).ext E11)
  exact g_areturn W8 d_jdk_52_method_2_code_6 rfl rfl rfl K15 ⟨_, _, rfl, Nat.le_of_eq g10.symm, A14⟩ (by decide) (by decide)
set_option maxRecDepth 65536 in
set_option maxHeartbeats 40000000 in
theorem rm_tb_2 {l : Launch} {Z : State} {a0 : Array Value} (hw : ∀ d ∈ tables_1, d.before a0 Z = true) (hEL : EW Z a0 EL1) {zc : Int32} (Sc : Sta Z Z.heap "java/lang/String" "COMPACT_STRINGS" "Z" (.int zc)) (hzc : ¬ zc = 0) (b : Addr) (kb : ClassId) (db : Value) (c0 c1 : Int32) (h : Heap) (hX : Ext Z.heap h) (Sa : Sta Z Z.heap "java/lang/StringUTF16" "$assertionsDisabled" "Z" (.int (1 : Int32))) (Sh : Sta Z Z.heap "java/lang/StringUTF16" "HI_BYTE_SHIFT" "I" (.int (0 : Int32))) (Sl : Sta Z Z.heap "java/lang/StringUTF16" "LO_BYTE_SHIFT" "I" (.int (8 : Int32))) (A1 : Arv Z h b kb .char (2 : Int32) [(.int c0), (.int c1)] db) : Met l Z EL1 NW (⟨"java/lang/StringUTF16", "toBytes", "([CII)[B"⟩ : MethodName) jdk_52_method_14_code 5 (some (.array .byte)) [] ({ frames := 2, cells := 1, slots := 4, locals := 30 } : Room) #[(.ref b), (.int (0 : Int32)), (.int (2 : Int32))] h [] (fun v h' => ∃ a k, v = some (.ref a) ∧ h.size ≤ a ∧ Arv Z h' a k .byte (4 : Int32) (StrChars.Road.wideBytes [c0, c1]) (.int (0 : Int32))) := by
  refine Met.intro pf_6 hEL hX (fun _ q => nomatch q) ?_
  intro p e s m below meth c T W
  refine Goes.cast (show entryFrame m #[(.ref b), (.int (0 : Int32)), (.int (2 : Int32))] 5 = mkF m 0 #[.val (.ref b), .val (.int (0 : Int32)), .val (.int (2 : Int32)), .unset, .unset] [] by first | (simp [entryFrame, mkF, argsToLocals, Value.category]; done) | rfl) ?_
  refine g_iload_n W d_jdk_52_method_14_code_0 (pc' := 1) rfl rfl ?_
  have hXa := W.ext
  refine g_static W d_jdk_52_method_14_code_1 (pc' := 4) (fr' := []) (argsL := [(.int (2 : Int32))]) (rest := []) (Wd := 0) (kc := 1) (ks := 4) rfl (hw _ (List.mem_of_getElem? (i := 49) rfl)) (hw _ (List.mem_of_getElem? (i := 50) rfl)) (hw _ (List.mem_of_getElem? (i := 38) rfl)) (hw _ (List.mem_of_getElem? (i := 51) rfl)) (by decide) rfl rfl (lenOf pd_2 rfl) rfl all0 (by decide) (by decide) (Met.pays (rm_nbf_2 hw hEL Sc hzc _ W.ext) (hw _ (List.mem_of_getElem? (i := 51) rfl)) (hw _ (List.mem_of_getElem? (i := 38) rfl)) hEL (by decide) (by decide)) fun v6 T1 h3 W2 K4 q5 => ?_
  obtain ⟨d, kd, rfl, gd, Ad⟩ := q5
  show Goes _ _ _ _ _ _ _ _ _ _ _ T1 (mkF m 4 #[.val (.ref b), .val (.int (0 : Int32)), .val (.int (2 : Int32)), .unset, .unset] [(.ref d)])
  have W7 := W2.addByte (hw _ (List.mem_of_getElem? (i := 5) rfl)) (hT1 hw) Ad (by decide) (Nat.le_trans hXa.1 gd)
  refine g_astore_n W7 d_jdk_52_method_14_code_4 (pc' := 5) (L' := #[.val (.ref b), .val (.int (0 : Int32)), .val (.int (2 : Int32)), .val (.ref d), .unset]) rfl rfl rfl ?_
  refine g_iconst W7 d_jdk_52_method_14_code_5 (pc' := 6) (v := (0 : Int32)) rfl rfl ?_
  refine g_istore W7 d_jdk_52_method_14_code_6 (pc' := 8) (L' := #[.val (.ref b), .val (.int (0 : Int32)), .val (.int (2 : Int32)), .val (.ref d), .val (.int (0 : Int32))]) rfl rfl ?_
  refine g_iload W7 d_jdk_52_method_14_code_8 (pc' := 10) rfl rfl ?_
  refine g_iload_n W7 d_jdk_52_method_14_code_10 (pc' := 11) rfl rfl ?_
  refine g_icmpN W7 d_jdk_52_method_14_code_11 (pc' := 14) rfl (Jvm.Free.XT.ii_ge_f (by decide)) ?_
  refine g_aload_n W7 d_jdk_52_method_14_code_14 (pc' := 15) rfl rfl rfl ?_
  refine g_iload W7 d_jdk_52_method_14_code_15 (pc' := 17) rfl rfl ?_
  refine g_aload_n W7 d_jdk_52_method_14_code_17 (pc' := 18) rfl rfl rfl ?_
  refine g_iload_n W7 d_jdk_52_method_14_code_18 (pc' := 19) rfl rfl ?_
  have K8 : Keep h h3 [] := ((Keep.refl h []).trans K4 fun _ q => nomatch q)
  have F9 := A1.mv K8
  refine g_caload W7 d_jdk_52_method_14_code_19 (pc' := 20) rfl F9 ⟨by decide, by decide⟩ rfl ?_
  refine g_static W7 d_jdk_52_method_14_code_20 (pc' := 23) (fr' := [d]) (argsL := [(.ref d), (.int (0 : Int32)), (.int c0)]) (rest := []) (Wd := 0) (kc := 0) (ks := 0) rfl (hw _ (List.mem_of_getElem? (i := 56) rfl)) (hw _ (List.mem_of_getElem? (i := 57) rfl)) (hw _ (List.mem_of_getElem? (i := 38) rfl)) (hw _ (List.mem_of_getElem? (i := 58) rfl)) (by decide) rfl rfl (lenOf pd_3 rfl) rfl (allS (List.mem_of_getElem? (i := 0) rfl) (all0)) (by decide) (by decide) (Met.pays (rm_putChar hw hEL Sc hzc d kd (4 : Int32) (0 : Int32) c0 _ 0 1 _ W7.ext Sa Sh Sl (W7.frs d (List.mem_of_getElem? (i := 0) rfl)).1 Ad (by decide) (by decide) (Nat.le_of_ble_eq_true rfl) (by decide) (by decide) (Nat.le_of_ble_eq_true rfl)) (hw _ (List.mem_of_getElem? (i := 58) rfl)) (hw _ (List.mem_of_getElem? (i := 38) rfl)) hEL (by decide) (by decide)) fun v15 T10 h12 W11 K13 q14 => ?_
  obtain ⟨rfl, Ad0⟩ := q14
  show Goes _ _ _ _ _ _ _ _ _ _ _ T10 (mkF m 23 #[.val (.ref b), .val (.int (0 : Int32)), .val (.int (2 : Int32)), .val (.ref d), .val (.int (0 : Int32))] [])
  have Ae0 : Arv Z h12 d kd .byte (4 : Int32) [(.int (StrChars.lo8 c0)), (.int (StrChars.hi8 c0)), (.int (0 : Int32)), (.int (0 : Int32))] (.int (0 : Int32)) := Ad0
  refine g_iinc W11 d_jdk_52_method_14_code_23 (pc' := 26) (v := (1 : Int32)) (L' := #[.val (.ref b), .val (.int ((0 : Int32) + (1 : Int32))), .val (.int (2 : Int32)), .val (.ref d), .val (.int (0 : Int32))]) rfl rfl rfl rfl ?_
  refine g_iinc W11 d_jdk_52_method_14_code_26 (pc' := 29) (v := (1 : Int32)) (L' := #[.val (.ref b), .val (.int ((0 : Int32) + (1 : Int32))), .val (.int (2 : Int32)), .val (.ref d), .val (.int ((0 : Int32) + (1 : Int32)))]) rfl rfl rfl rfl ?_
  refine g_goto W11 d_jdk_52_method_14_code_29 (pc' := 8) (by decide) (by decide) ?_
  show Goes _ _ _ _ _ _ _ _ _ _ _ T10 (mkF m 8 #[.val (.ref b), .val (.int (1 : Int32)), .val (.int (2 : Int32)), .val (.ref d), .val (.int (1 : Int32))] [])
  refine g_iload W11 d_jdk_52_method_14_code_8 (pc' := 10) rfl rfl ?_
  refine g_iload_n W11 d_jdk_52_method_14_code_10 (pc' := 11) rfl rfl ?_
  refine g_icmpN W11 d_jdk_52_method_14_code_11 (pc' := 14) rfl (Jvm.Free.XT.ii_ge_f (by decide)) ?_
  refine g_aload_n W11 d_jdk_52_method_14_code_14 (pc' := 15) rfl rfl rfl ?_
  refine g_iload W11 d_jdk_52_method_14_code_15 (pc' := 17) rfl rfl ?_
  refine g_aload_n W11 d_jdk_52_method_14_code_17 (pc' := 18) rfl rfl rfl ?_
  refine g_iload_n W11 d_jdk_52_method_14_code_18 (pc' := 19) rfl rfl ?_
  have K16 : Keep h h12 [] := (((Keep.refl h []).trans K4 fun _ q => nomatch q).trans K13 fun x q => by cases List.mem_singleton.mp q; exact Or.inr gd)
  have F17 := A1.mv K16
  refine g_caload W11 d_jdk_52_method_14_code_19 (pc' := 20) rfl F17 ⟨by decide, by decide⟩ rfl ?_
  refine g_static W11 d_jdk_52_method_14_code_20 (pc' := 23) (fr' := [d]) (argsL := [(.ref d), (.int (1 : Int32)), (.int c1)]) (rest := []) (Wd := 0) (kc := 0) (ks := 0) rfl (hw _ (List.mem_of_getElem? (i := 56) rfl)) (hw _ (List.mem_of_getElem? (i := 57) rfl)) (hw _ (List.mem_of_getElem? (i := 38) rfl)) (hw _ (List.mem_of_getElem? (i := 58) rfl)) (by decide) rfl rfl (lenOf pd_3 rfl) rfl (allS (List.mem_of_getElem? (i := 0) rfl) (all0)) (by decide) (by decide) (Met.pays (rm_putChar hw hEL Sc hzc d kd (4 : Int32) (1 : Int32) c1 _ 2 3 _ W11.ext Sa Sh Sl (W11.frs d (List.mem_of_getElem? (i := 0) rfl)).1 Ae0 (by decide) (by decide) (Nat.le_of_ble_eq_true rfl) (by decide) (by decide) (Nat.le_of_ble_eq_true rfl)) (hw _ (List.mem_of_getElem? (i := 58) rfl)) (hw _ (List.mem_of_getElem? (i := 38) rfl)) hEL (by decide) (by decide)) fun v23 T18 h20 W19 K21 q22 => ?_
  obtain ⟨rfl, Ad1⟩ := q22
  show Goes _ _ _ _ _ _ _ _ _ _ _ T18 (mkF m 23 #[.val (.ref b), .val (.int (1 : Int32)), .val (.int (2 : Int32)), .val (.ref d), .val (.int (1 : Int32))] [])
  have Ae1 : Arv Z h20 d kd .byte (4 : Int32) [(.int (StrChars.lo8 c0)), (.int (StrChars.hi8 c0)), (.int (StrChars.lo8 c1)), (.int (StrChars.hi8 c1))] (.int (0 : Int32)) := Ad1
  refine g_iinc W19 d_jdk_52_method_14_code_23 (pc' := 26) (v := (1 : Int32)) (L' := #[.val (.ref b), .val (.int ((1 : Int32) + (1 : Int32))), .val (.int (2 : Int32)), .val (.ref d), .val (.int (1 : Int32))]) rfl rfl rfl rfl ?_
  refine g_iinc W19 d_jdk_52_method_14_code_26 (pc' := 29) (v := (1 : Int32)) (L' := #[.val (.ref b), .val (.int ((1 : Int32) + (1 : Int32))), .val (.int (2 : Int32)), .val (.ref d), .val (.int ((1 : Int32) + (1 : Int32)))]) rfl rfl rfl rfl ?_
  refine g_goto W19 d_jdk_52_method_14_code_29 (pc' := 8) (by decide) (by decide) ?_
  show Goes _ _ _ _ _ _ _ _ _ _ _ T18 (mkF m 8 #[.val (.ref b), .val (.int (2 : Int32)), .val (.int (2 : Int32)), .val (.ref d), .val (.int (2 : Int32))] [])
  refine g_iload W19 d_jdk_52_method_14_code_8 (pc' := 10) rfl rfl ?_
  refine g_iload_n W19 d_jdk_52_method_14_code_10 (pc' := 11) rfl rfl ?_
  refine g_icmpY W19 d_jdk_52_method_14_code_11 (pc' := 32) (by decide) (by decide) (Jvm.Free.XT.ii_ge_t (by decide)) ?_
  refine g_aload_n W19 d_jdk_52_method_14_code_32 (pc' := 33) rfl rfl rfl ?_
  have K24 : Keep h h20 [] := ((((Keep.refl h []).trans K4 fun _ q => nomatch q).trans K13 fun x q => by cases List.mem_singleton.mp q; exact Or.inr gd).trans K21 fun x q => by cases List.mem_singleton.mp q; exact Or.inr gd)
  exact g_areturn W19 d_jdk_52_method_14_code_33 rfl rfl rfl K24 ⟨_, _, rfl, gd, Ae1⟩ (by decide) (by decide)
set_option maxRecDepth 65536 in
set_option maxHeartbeats 40000000 in
theorem rm_cfa_2 {l : Launch} {Z : State} {a0 : Array Value} (hw : ∀ d ∈ tables_1, d.before a0 Z = true) (hEL : EW Z a0 EL1) {zc : Int32} (Sc : Sta Z Z.heap "java/lang/String" "COMPACT_STRINGS" "Z" (.int zc)) (hzc : ¬ zc = 0) (d : Addr) (kd : ClassId) (vs : List Value) (dv : Value) (h : Heap) (hX : Ext Z.heap h) (A : Arv Z h d kd .byte (4 : Int32) vs dv) : Met l Z EL1 NW (⟨"java/lang/StringUTF16", "coderFromArrayLen", "([BI)B"⟩ : MethodName) jdk_52_method_15_code 2 (some .byte) [] ({ frames := 0, cells := 0, slots := 0, locals := 0 } : Room) #[(.ref d), (.int (2 : Int32))] h [] (fun v h' => h = h' ∧ v = some (.int (1 : Int32))) := by
  refine Met.intro pf_7 hEL hX (fun _ q => nomatch q) ?_
  intro p e s m below meth c T W
  refine Goes.cast (show entryFrame m #[(.ref d), (.int (2 : Int32))] 2 = mkF m 0 #[.val (.ref d), .val (.int (2 : Int32))] [] by first | (simp [entryFrame, mkF, argsToLocals, Value.category]; done) | rfl) ?_
  refine g_iload_n W d_jdk_52_method_15_code_0 (pc' := 1) rfl rfl ?_
  refine g_aload_n W d_jdk_52_method_15_code_1 (pc' := 2) rfl rfl rfl ?_
  refine g_arraylength W d_jdk_52_method_15_code_2 (pc' := 3) rfl A ?_
  refine g_isub W d_jdk_52_method_15_code_3 (pc' := 4) rfl ?_
  refine g_bipush W d_jdk_52_method_15_code_4 (pc' := 6) (v := (31 : Int32)) rfl (by decide) ?_
  refine g_iushr W d_jdk_52_method_15_code_6 (pc' := 7) rfl ?_
  refine g_i2b W d_jdk_52_method_15_code_7 (pc' := 8) rfl ?_
  rw [show ((((2 : Int32) - (4 : Int32)).toUInt32 >>> ((31 : Int32) &&& 31).toUInt32).toInt32).toInt8.toInt32 = (1 : Int32) from by decide]
  exact g_ireturn W d_jdk_52_method_15_code_8 (by decide) rfl (Keep.refl h []) ⟨rfl, rfl⟩ (by decide) (by decide)
set_option maxRecDepth 65536 in
set_option maxHeartbeats 40000000 in
theorem rm_cl_2_0 {l : Launch} {Z : State} {a0 : Array Value} (hw : ∀ d ∈ tables_1, d.before a0 Z = true) (hEL : EW Z a0 EL1) {zc : Int32} (Sc : Sta Z Z.heap "java/lang/String" "COMPACT_STRINGS" "Z" (.int zc)) (hzc : ¬ zc = 0) (b t : Addr) (kb kt : ClassId) (db : Value) (c0 c1 : Int32) (h : Heap) (hX : Ext Z.heap h) (A1 : Arv Z h b kb .char (2 : Int32) [(.int c0), (.int c1)] db) (A2 : Arv Z h t kt .byte (2 : Int32) [(.int (0 : Int32)), (.int (0 : Int32))] (.int (0 : Int32))) (nbt : b ≠ t) (gt : Z.heap.size ≤ t) (q0 : (255 : Int32) < c0) : Met l Z EL1 NW (⟨"java/lang/StringUTF16", "compress", "([CI[BII)I"⟩ : MethodName) jdk_52_method_21_code 7 (some .int) [] ({ frames := 0, cells := 0, slots := 0, locals := 0 } : Room) #[(.ref b), (.int (0 : Int32)), (.ref t), (.int (0 : Int32)), (.int (2 : Int32))] h [t] (fun v _ => v = some (.int (0 : Int32))) := by
  refine Met.intro pf_8 hEL hX (allS ⟨gt, A2.lt⟩ all0) ?_
  intro p e s m below meth c T W
  refine Goes.cast (show entryFrame m #[(.ref b), (.int (0 : Int32)), (.ref t), (.int (0 : Int32)), (.int (2 : Int32))] 7 = mkF m 0 #[.val (.ref b), .val (.int (0 : Int32)), .val (.ref t), .val (.int (0 : Int32)), .val (.int (2 : Int32)), .unset, .unset] [] by first | (simp [entryFrame, mkF, argsToLocals, Value.category]; done) | rfl) ?_
  refine g_iconst W d_jdk_52_method_21_code_0 (pc' := 1) (v := (0 : Int32)) rfl rfl ?_
  refine g_istore W d_jdk_52_method_21_code_1 (pc' := 3) (L' := #[.val (.ref b), .val (.int (0 : Int32)), .val (.ref t), .val (.int (0 : Int32)), .val (.int (2 : Int32)), .val (.int (0 : Int32)), .unset]) rfl rfl ?_
  refine g_iload W d_jdk_52_method_21_code_3 (pc' := 5) rfl rfl ?_
  refine g_iload W d_jdk_52_method_21_code_5 (pc' := 7) rfl rfl ?_
  refine g_icmpN W d_jdk_52_method_21_code_7 (pc' := 10) rfl (Jvm.Free.XT.ii_ge_f (by decide)) ?_
  refine g_aload_n W d_jdk_52_method_21_code_10 (pc' := 11) rfl rfl rfl ?_
  refine g_iload_n W d_jdk_52_method_21_code_11 (pc' := 12) rfl rfl ?_
  refine g_caload W d_jdk_52_method_21_code_12 (pc' := 13) rfl A1 ⟨by decide, by decide⟩ rfl ?_
  refine g_istore W d_jdk_52_method_21_code_13 (pc' := 15) (L' := #[.val (.ref b), .val (.int (0 : Int32)), .val (.ref t), .val (.int (0 : Int32)), .val (.int (2 : Int32)), .val (.int (0 : Int32)), .val (.int c0)]) rfl rfl ?_
  refine g_iload W d_jdk_52_method_21_code_15 (pc' := 17) rfl rfl ?_
  refine g_sipush W d_jdk_52_method_21_code_17 (pc' := 20) (v := (255 : Int32)) rfl (by decide) ?_
  refine g_icmpN W d_jdk_52_method_21_code_20 (pc' := 23) rfl (Jvm.Free.XT.ii_le_f q0) ?_
  refine g_iload W d_jdk_52_method_21_code_23 (pc' := 25) rfl rfl ?_
  exact g_ireturn W d_jdk_52_method_21_code_25 (by decide) rfl (Keep.refl h [t]) rfl (by decide) (by decide)
set_option maxRecDepth 65536 in
set_option maxHeartbeats 40000000 in
theorem rm_c16_2_0 {l : Launch} {Z : State} {a0 : Array Value} (hw : ∀ d ∈ tables_1, d.before a0 Z = true) (hEL : EW Z a0 EL1) {zc : Int32} (Sc : Sta Z Z.heap "java/lang/String" "COMPACT_STRINGS" "Z" (.int zc)) (hzc : ¬ zc = 0) (b : Addr) (kb : ClassId) (db : Value) (c0 c1 : Int32) (h : Heap) (hX : Ext Z.heap h) (Sa : Sta Z Z.heap "java/lang/StringUTF16" "$assertionsDisabled" "Z" (.int (1 : Int32))) (Sh : Sta Z Z.heap "java/lang/StringUTF16" "HI_BYTE_SHIFT" "I" (.int (0 : Int32))) (Sl : Sta Z Z.heap "java/lang/StringUTF16" "LO_BYTE_SHIFT" "I" (.int (8 : Int32))) (A1 : Arv Z h b kb .char (2 : Int32) [(.int c0), (.int c1)] db) (r0 : ¬ c0 < 0 ∧ ¬ (65535 : Int32) < c0) (r1 : ¬ c1 < 0 ∧ ¬ (65535 : Int32) < c1) (q0 : (255 : Int32) < c0) : Met l Z EL1 NW (⟨"java/lang/StringUTF16", "compress", "([CII)[B"⟩ : MethodName) jdk_52_method_16_code 6 (some (.array .byte)) [] ({ frames := 3, cells := 2, slots := 6, locals := 50 } : Room) #[(.ref b), (.int (0 : Int32)), (.int (2 : Int32))] h [] (fun v h' => ∃ a k, v = some (.ref a) ∧ h.size ≤ a ∧ Arv Z h' a k .byte (4 : Int32) (StrChars.Road.wideBytes [c0, c1]) (.int (0 : Int32))) := by
  refine Met.intro pf_9 hEL hX (fun _ q => nomatch q) ?_
  intro p e s m below meth c T W
  refine Goes.cast (show entryFrame m #[(.ref b), (.int (0 : Int32)), (.int (2 : Int32))] 6 = mkF m 0 #[.val (.ref b), .val (.int (0 : Int32)), .val (.int (2 : Int32)), .unset, .unset, .unset] [] by first | (simp [entryFrame, mkF, argsToLocals, Value.category]; done) | rfl) ?_
  refine g_iload_n W d_jdk_52_method_16_code_0 (pc' := 1) rfl rfl ?_
  refine g_newarray W d_jdk_52_method_16_code_1 (pc' := 3) (cap := 2) rfl (hw _ (List.mem_of_getElem? (i := 19) rfl)) (by decide) (by decide) (by decide) (by decide) (by decide) fun T1 h3 t kA7 g4 W2 E5 A6 => ?_
  have A8 : Arv Z h3 t kA7 .byte (2 : Int32) [(.int (0 : Int32)), (.int (0 : Int32))] (.int (0 : Int32)) := A6.pad (pad_rep [] (.int (0 : Int32)) 2)
  refine g_astore_n W2 d_jdk_52_method_16_code_3 (pc' := 4) (L' := #[.val (.ref b), .val (.int (0 : Int32)), .val (.int (2 : Int32)), .val (.ref t), .unset, .unset]) rfl rfl rfl ?_
  refine g_aload_n W2 d_jdk_52_method_16_code_4 (pc' := 5) rfl rfl rfl ?_
  refine g_iload_n W2 d_jdk_52_method_16_code_5 (pc' := 6) rfl rfl ?_
  refine g_aload_n W2 d_jdk_52_method_16_code_6 (pc' := 7) rfl rfl rfl ?_
  refine g_iconst W2 d_jdk_52_method_16_code_7 (pc' := 8) (v := (0 : Int32)) rfl rfl ?_
  refine g_iload_n W2 d_jdk_52_method_16_code_8 (pc' := 9) rfl rfl ?_
  have nbt : b ≠ t := Nat.ne_of_lt (Nat.lt_of_lt_of_le A1.lt (Nat.le_of_eq g4.symm))
  have hXa := W2.ext
  have K15 : Keep h h3 [] := ((Keep.refl h []).ext E5)
  have F16 := A1.mv K15
  refine g_static W2 d_jdk_52_method_16_code_9 (pc' := 12) (fr' := [t]) (argsL := [(.ref b), (.int (0 : Int32)), (.ref t), (.int (0 : Int32)), (.int (2 : Int32))]) (rest := []) (Wd := 0) (kc := 0) (ks := 0) rfl (hw _ (List.mem_of_getElem? (i := 40) rfl)) (hw _ (List.mem_of_getElem? (i := 41) rfl)) (hw _ (List.mem_of_getElem? (i := 38) rfl)) (hw _ (List.mem_of_getElem? (i := 42) rfl)) (by decide) rfl rfl (lenOf pd_4 rfl) rfl (allS (List.mem_of_getElem? (i := 0) rfl) (all0)) (by decide) (by decide) (Met.pays (rm_cl_2_0 hw hEL Sc hzc b t kb _ db c0 c1 _ W2.ext F16 A8 nbt (W2.frs t (List.mem_of_getElem? (i := 0) rfl)).1 q0) (hw _ (List.mem_of_getElem? (i := 42) rfl)) (hw _ (List.mem_of_getElem? (i := 38) rfl)) hEL (by decide) (by decide)) fun v14 T9 h11 W10 K12 q13 => ?_
  obtain rfl := q13
  show Goes _ _ _ _ _ _ _ _ _ _ _ T9 (mkF m 12 #[.val (.ref b), .val (.int (0 : Int32)), .val (.int (2 : Int32)), .val (.ref t), .unset, .unset] [(.int (0 : Int32))])
  refine g_istore W10 d_jdk_52_method_16_code_12 (pc' := 14) (L' := #[.val (.ref b), .val (.int (0 : Int32)), .val (.int (2 : Int32)), .val (.ref t), .val (.int (0 : Int32)), .unset]) rfl rfl ?_
  refine g_iload W10 d_jdk_52_method_16_code_14 (pc' := 16) rfl rfl ?_
  refine g_iload_n W10 d_jdk_52_method_16_code_16 (pc' := 17) rfl rfl ?_
  refine g_icmpN W10 d_jdk_52_method_16_code_17 (pc' := 20) rfl (Jvm.Free.XT.ii_eq_f (by decide)) ?_
  refine g_aload_n W10 d_jdk_52_method_16_code_20 (pc' := 21) rfl rfl rfl ?_
  refine g_iload_n W10 d_jdk_52_method_16_code_21 (pc' := 22) rfl rfl ?_
  refine g_iload_n W10 d_jdk_52_method_16_code_22 (pc' := 23) rfl rfl ?_
  have K23 : Keep h h11 [] := (((Keep.refl h []).ext E5).trans K12 fun x q => by cases List.mem_singleton.mp q; exact Or.inr (Nat.le_of_eq g4.symm))
  have F24 := A1.mv K23
  refine g_static W10 d_jdk_52_method_16_code_23 (pc' := 26) (fr' := []) (argsL := [(.ref b), (.int (0 : Int32)), (.int (2 : Int32))]) (rest := []) (Wd := 0) (kc := 1) (ks := 4) rfl (hw _ (List.mem_of_getElem? (i := 46) rfl)) (hw _ (List.mem_of_getElem? (i := 47) rfl)) (hw _ (List.mem_of_getElem? (i := 38) rfl)) (hw _ (List.mem_of_getElem? (i := 48) rfl)) (by decide) rfl rfl (lenOf pd_5 rfl) rfl all0 (by decide) (by decide) (Met.pays (rm_tb_2 hw hEL Sc hzc b kb db c0 c1 _ W10.ext Sa Sh Sl F24) (hw _ (List.mem_of_getElem? (i := 48) rfl)) (hw _ (List.mem_of_getElem? (i := 38) rfl)) hEL (by decide) (by decide)) fun v22 T17 h19 W18 K20 q21 => ?_
  obtain ⟨d, kd, rfl, gd, Ad⟩ := q21
  show Goes _ _ _ _ _ _ _ _ _ _ _ T17 (mkF m 26 #[.val (.ref b), .val (.int (0 : Int32)), .val (.int (2 : Int32)), .val (.ref t), .val (.int (0 : Int32)), .unset] [(.ref d)])
  refine g_astore W18 d_jdk_52_method_16_code_26 (pc' := 28) (L' := #[.val (.ref b), .val (.int (0 : Int32)), .val (.int (2 : Int32)), .val (.ref t), .val (.int (0 : Int32)), .val (.ref d)]) rfl rfl rfl ?_
  refine g_aload W18 d_jdk_52_method_16_code_28 (pc' := 30) rfl rfl rfl ?_
  refine g_iload W18 d_jdk_52_method_16_code_30 (pc' := 32) rfl rfl ?_
  refine g_static W18 d_jdk_52_method_16_code_32 (pc' := 35) (fr' := []) (argsL := [(.ref d), (.int (0 : Int32))]) (rest := []) (Wd := 0) (kc := 0) (ks := 0) rfl (hw _ (List.mem_of_getElem? (i := 62) rfl)) (hw _ (List.mem_of_getElem? (i := 63) rfl)) (hw _ (List.mem_of_getElem? (i := 38) rfl)) (hw _ (List.mem_of_getElem? (i := 64) rfl)) (by decide) rfl rfl (lenOf pd_6 rfl) rfl all0 (by decide) (by decide) (Met.pays (rm_getChar hw hEL Sc hzc d kd (4 : Int32) (0 : Int32) c0 _ _ W18.ext Sa Sh Sl Ad (by decide) rfl (by decide) rfl r0) (hw _ (List.mem_of_getElem? (i := 64) rfl)) (hw _ (List.mem_of_getElem? (i := 38) rfl)) hEL (by decide) (by decide)) fun v30 T25 h27 W26 K28 q29 => ?_
  obtain ⟨rfl, rfl⟩ := q29
  show Goes _ _ _ _ _ _ _ _ _ _ _ T25 (mkF m 35 #[.val (.ref b), .val (.int (0 : Int32)), .val (.int (2 : Int32)), .val (.ref t), .val (.int (0 : Int32)), .val (.ref d)] [(.int c0)])
  refine g_sipush W26 d_jdk_52_method_16_code_35 (pc' := 38) (v := (255 : Int32)) rfl (by decide) ?_
  refine g_icmpY W26 d_jdk_52_method_16_code_38 (pc' := 54) (by decide) (by decide) (Jvm.Free.XT.ii_gt_t q0) ?_
  refine g_aload W26 d_jdk_52_method_16_code_54 (pc' := 56) rfl rfl rfl ?_
  have K31 : Keep h h19 [] := ((((Keep.refl h []).ext E5).trans K12 fun x q => by cases List.mem_singleton.mp q; exact Or.inr (Nat.le_of_eq g4.symm)).trans K20 fun _ q => nomatch q)
  exact g_areturn W26 d_jdk_52_method_16_code_56 rfl rfl rfl K31 ⟨_, _, rfl, Nat.le_trans K23.1 gd, Ad⟩ (by decide) (by decide)
set_option maxRecDepth 65536 in
set_option maxHeartbeats 40000000 in
theorem rm_new4_2_0 {l : Launch} {Z : State} {a0 : Array Value} (hw : ∀ d ∈ tables_1, d.before a0 Z = true) (hEL : EW Z a0 EL1) {zc : Int32} (Sc : Sta Z Z.heap "java/lang/String" "COMPACT_STRINGS" "Z" (.int zc)) (hzc : ¬ zc = 0) (a1 b : Addr) (kb : ClassId) (db : Value) (c0 c1 : Int32) (h : Heap) (hX : Ext Z.heap h) (Sa : Sta Z Z.heap "java/lang/StringUTF16" "$assertionsDisabled" "Z" (.int (1 : Int32))) (Sh : Sta Z Z.heap "java/lang/StringUTF16" "HI_BYTE_SHIFT" "I" (.int (0 : Int32))) (Sl : Sta Z Z.heap "java/lang/StringUTF16" "LO_BYTE_SHIFT" "I" (.int (8 : Int32))) (g1 : Z.heap.size ≤ a1) (O1 : Obj Z h a1 "java/lang/String" [(("java/lang/String", "value", "[B"), .null), (("java/lang/String", "coder", "B"), (.int 0))]) (A1 : Arv Z h b kb .char (2 : Int32) [(.int c0), (.int c1)] db) (r0 : ¬ c0 < 0 ∧ ¬ (65535 : Int32) < c0) (r1 : ¬ c1 < 0 ∧ ¬ (65535 : Int32) < c1) (q0 : (255 : Int32) < c0) : Met l Z EL1 NW (⟨"java/lang/String", "<init>", "([CIILjava/lang/Void;)V"⟩ : MethodName) jdk_42_method_149_code 6 none [] ({ frames := 4, cells := 2, slots := 6, locals := 70 } : Room) #[(.ref a1), (.ref b), (.int (0 : Int32)), (.int (2 : Int32)), .null] h [a1] (fun v h' => v = none ∧ Str Z h' a1 [c0, c1]) := by
  refine Met.intro pf_0 hEL hX (allS ⟨g1, O1.lt⟩ all0) ?_
  intro p e s m below meth c T W
  refine Goes.cast (show entryFrame m #[(.ref a1), (.ref b), (.int (0 : Int32)), (.int (2 : Int32)), .null] 6 = mkF m 0 #[.val (.ref a1), .val (.ref b), .val (.int (0 : Int32)), .val (.int (2 : Int32)), .val .null, .unset] [] by first | (simp [entryFrame, mkF, argsToLocals, Value.category]; done) | rfl) ?_
  refine g_aload_n W d_jdk_42_method_149_code_0 (pc' := 1) rfl rfl rfl ?_
  refine g_initO W d_jdk_42_method_149_code_1 (pc' := 4) (Wd := 0) rfl (hw _ (List.mem_of_getElem? (i := 15) rfl)) (hw _ (List.mem_of_getElem? (i := 16) rfl)) (hw _ (List.mem_of_getElem? (i := 17) rfl)) rfl rfl (by decide) (by decide) fun T1 W2 => ?_
  refine g_iload_n W2 d_jdk_42_method_149_code_4 (pc' := 5) rfl rfl ?_
  refine g_ifY W2 d_jdk_42_method_149_code_5 (pc' := 27) (by decide) (by decide) (Jvm.Free.XT.i0_ne_t (by decide)) ?_
  refine g_getstatic W2 d_jdk_42_method_149_code_27 (pc' := 30) rfl (hw _ (List.mem_of_getElem? (i := 35) rfl)) Via.refl Sc fun T3 W4 => ?_
  refine g_ifN W4 d_jdk_42_method_149_code_30 (pc' := 33) rfl (Jvm.Free.XT.i0_eq_f hzc) ?_
  refine g_aload_n W4 d_jdk_42_method_149_code_33 (pc' := 34) rfl rfl rfl ?_
  refine g_iload_n W4 d_jdk_42_method_149_code_34 (pc' := 35) rfl rfl ?_
  refine g_iload_n W4 d_jdk_42_method_149_code_35 (pc' := 36) rfl rfl ?_
  refine g_static W4 d_jdk_42_method_149_code_36 (pc' := 39) (fr' := []) (argsL := [(.ref b), (.int (0 : Int32)), (.int (2 : Int32))]) (rest := []) (Wd := 0) (kc := 2) (ks := 6) rfl (hw _ (List.mem_of_getElem? (i := 36) rfl)) (hw _ (List.mem_of_getElem? (i := 37) rfl)) (hw _ (List.mem_of_getElem? (i := 38) rfl)) (hw _ (List.mem_of_getElem? (i := 39) rfl)) (by decide) rfl rfl (lenOf pd_5 rfl) rfl all0 (by decide) (by decide) (Met.pays (rm_c16_2_0 hw hEL Sc hzc b kb db c0 c1 _ W4.ext Sa Sh Sl A1 r0 r1 q0) (hw _ (List.mem_of_getElem? (i := 39) rfl)) (hw _ (List.mem_of_getElem? (i := 38) rfl)) hEL (by decide) (by decide)) fun v10 T5 h7 W6 K8 q9 => ?_
  obtain ⟨d, kd, rfl, gd, Ad⟩ := q9
  show Goes _ _ _ _ _ _ _ _ _ _ _ T5 (mkF m 39 #[.val (.ref a1), .val (.ref b), .val (.int (0 : Int32)), .val (.int (2 : Int32)), .val .null, .unset] [(.ref d)])
  have nda : d ≠ a1 := Nat.ne_of_gt (Nat.lt_of_lt_of_le O1.lt gd)
  refine g_astore W6 d_jdk_42_method_149_code_39 (pc' := 41) (L' := #[.val (.ref a1), .val (.ref b), .val (.int (0 : Int32)), .val (.int (2 : Int32)), .val .null, .val (.ref d)]) rfl rfl rfl ?_
  refine g_aload_n W6 d_jdk_42_method_149_code_41 (pc' := 42) rfl rfl rfl ?_
  refine g_aload W6 d_jdk_42_method_149_code_42 (pc' := 44) rfl rfl rfl ?_
  refine g_iload_n W6 d_jdk_42_method_149_code_44 (pc' := 45) rfl rfl ?_
  refine g_static W6 d_jdk_42_method_149_code_45 (pc' := 48) (fr' := []) (argsL := [(.ref d), (.int (2 : Int32))]) (rest := [(.ref a1)]) (Wd := 1) (kc := 0) (ks := 0) rfl (hw _ (List.mem_of_getElem? (i := 43) rfl)) (hw _ (List.mem_of_getElem? (i := 44) rfl)) (hw _ (List.mem_of_getElem? (i := 38) rfl)) (hw _ (List.mem_of_getElem? (i := 45) rfl)) (by decide) rfl rfl (lenOf pd_7 rfl) rfl all0 (by decide) (by decide) (Met.pays (rm_cfa_2 hw hEL Sc hzc d kd _ _ _ W6.ext Ad) (hw _ (List.mem_of_getElem? (i := 45) rfl)) (hw _ (List.mem_of_getElem? (i := 38) rfl)) hEL (by decide) (by decide)) fun v16 T11 h13 W12 K14 q15 => ?_
  obtain ⟨rfl, rfl⟩ := q15
  show Goes _ _ _ _ _ _ _ _ _ _ _ T11 (mkF m 48 #[.val (.ref a1), .val (.ref b), .val (.int (0 : Int32)), .val (.int (2 : Int32)), .val .null, .val (.ref d)] [(.int (1 : Int32)), (.ref a1)])
  have K22 : Keep h h7 [] := ((Keep.refl h []).trans K8 fun _ q => nomatch q)
  have F23 := O1.mv K22
  refine g_putfield W12 d_jdk_42_method_149_code_48 (pc' := 51) (host := "") (ty := .byte) rfl (Or.inl (hw _ (List.mem_of_getElem? (i := 25) rfl))) Via.refl (F23.get 1 rfl) F23.1 (Or.inr ⟨(hw _ (List.mem_of_getElem? (i := 21) rfl)), rfl, rfl⟩) (hw _ (List.mem_of_getElem? (i := 5) rfl)) (by decide) rfl rfl (List.mem_of_getElem? (i := 0) rfl) fun T17 h19 W18 R20 => ?_
  have O21 : Obj Z h19 a1 "java/lang/String" [(("java/lang/String", "value", "[B"), .null), (("java/lang/String", "coder", "B"), (.int (1 : Int32)))] := F23.put R20 1 rfl (dis_Str hw)
  refine g_aload_n W18 d_jdk_42_method_149_code_51 (pc' := 52) rfl rfl rfl ?_
  refine g_aload W18 d_jdk_42_method_149_code_52 (pc' := 54) rfl rfl rfl ?_
  refine g_putfield W18 d_jdk_42_method_149_code_54 (pc' := 57) (host := "") (ty := (.array .byte)) rfl (Or.inl (hw _ (List.mem_of_getElem? (i := 24) rfl))) Via.refl (O21.get 0 rfl) O21.1 (Or.inr ⟨(hw _ (List.mem_of_getElem? (i := 20) rfl)), rfl, rfl⟩) (hw _ (List.mem_of_getElem? (i := 5) rfl)) (by decide) rfl rfl (List.mem_of_getElem? (i := 0) rfl) fun T24 h26 W25 R27 => ?_
  have O28 : Obj Z h26 a1 "java/lang/String" [(("java/lang/String", "value", "[B"), (.ref d)), (("java/lang/String", "coder", "B"), (.int (1 : Int32)))] := O21.put R27 0 rfl (dis_Str hw)
  have K29 : Keep h7 h26 [a1] := (((Keep.refl h7 [a1]).wr R20 (Or.inl (List.mem_of_getElem? (i := 0) rfl))).wr R27 (Or.inl (List.mem_of_getElem? (i := 0) rfl)))
  have F30 := Ad.keep K29 (ninS nda nin0)
  have K31 : Keep h h26 [a1] := ((((Keep.refl h [a1]).trans K8 fun _ q => nomatch q).wr R20 (Or.inl (List.mem_of_getElem? (i := 0) rfl))).wr R27 (Or.inl (List.mem_of_getElem? (i := 0) rfl)))
  exact g_return W25 d_jdk_42_method_149_code_57 K31 ⟨rfl, ⟨_, _, _, _, _, O28.1, O28.get 0 rfl, O28.get 1 rfl, F30, Or.inr ⟨rfl, rfl, rfl, c0, List.mem_of_getElem? (i := 0) rfl, q0⟩, (rngC r0 (rngC r1 rngN)), Nat.le_of_ble_eq_true rfl⟩⟩ (by decide) (by decide)
set_option maxRecDepth 65536 in
set_option maxHeartbeats 40000000 in
theorem rm_new1_2_0 {l : Launch} {Z : State} {a0 : Array Value} (hw : ∀ d ∈ tables_1, d.before a0 Z = true) (hEL : EW Z a0 EL1) {zc : Int32} (Sc : Sta Z Z.heap "java/lang/String" "COMPACT_STRINGS" "Z" (.int zc)) (hzc : ¬ zc = 0) (a1 b : Addr) (kb : ClassId) (db : Value) (c0 c1 : Int32) (h : Heap) (hX : Ext Z.heap h) (Sa : Sta Z Z.heap "java/lang/StringUTF16" "$assertionsDisabled" "Z" (.int (1 : Int32))) (Sh : Sta Z Z.heap "java/lang/StringUTF16" "HI_BYTE_SHIFT" "I" (.int (0 : Int32))) (Sl : Sta Z Z.heap "java/lang/StringUTF16" "LO_BYTE_SHIFT" "I" (.int (8 : Int32))) (g1 : Z.heap.size ≤ a1) (O1 : Obj Z h a1 "java/lang/String" [(("java/lang/String", "value", "[B"), .null), (("java/lang/String", "coder", "B"), (.int 0))]) (A1 : Arv Z h b kb .char (2 : Int32) [(.int c0), (.int c1)] db) (r0 : ¬ c0 < 0 ∧ ¬ (65535 : Int32) < c0) (r1 : ¬ c1 < 0 ∧ ¬ (65535 : Int32) < c1) (q0 : (255 : Int32) < c0) : Met l Z EL1 NW (⟨"java/lang/String", "<init>", "([C)V"⟩ : MethodName) jdk_42_method_3_code 2 none [] ({ frames := 5, cells := 2, slots := 6, locals := 90 } : Room) #[(.ref a1), (.ref b)] h [a1] (fun v h' => v = none ∧ Str Z h' a1 [c0, c1]) := by
  refine Met.intro pf_1 hEL hX (allS ⟨g1, O1.lt⟩ all0) ?_
  intro p e s m below meth c T W
  refine Goes.cast (show entryFrame m #[(.ref a1), (.ref b)] 2 = mkF m 0 #[.val (.ref a1), .val (.ref b)] [] by first | (simp [entryFrame, mkF, argsToLocals, Value.category]; done) | rfl) ?_
  refine g_aload_n W d_jdk_42_method_3_code_0 (pc' := 1) rfl rfl rfl ?_
  refine g_aload_n W d_jdk_42_method_3_code_1 (pc' := 2) rfl rfl rfl ?_
  refine g_iconst W d_jdk_42_method_3_code_2 (pc' := 3) (v := (0 : Int32)) rfl rfl ?_
  refine g_aload_n W d_jdk_42_method_3_code_3 (pc' := 4) rfl rfl rfl ?_
  refine g_arraylength W d_jdk_42_method_3_code_4 (pc' := 5) rfl A1 ?_
  refine g_aconst_null W d_jdk_42_method_3_code_5 (pc' := 6) rfl ?_
  refine g_special W d_jdk_42_method_3_code_6 (pc' := 9) (a := a1) (fr' := [a1]) (argsL := [(.ref b), (.int (0 : Int32)), (.int (2 : Int32)), .null]) (rest := []) (Wd := 0) (kc := 2) (ks := 6) rfl rfl (hw _ (List.mem_of_getElem? (i := 11) rfl)) (hw _ (List.mem_of_getElem? (i := 12) rfl)) (hw _ (List.mem_of_getElem? (i := 14) rfl)) (by decide) rfl rfl (lenOf pd_0 rfl) rfl (allS (List.mem_of_getElem? (i := 0) rfl) (all0)) (by decide) (by decide) (Met.pays (rm_new4_2_0 hw hEL Sc hzc a1 b kb db c0 c1 _ W.ext Sa Sh Sl g1 O1 A1 r0 r1 q0) (hw _ (List.mem_of_getElem? (i := 14) rfl)) (hw _ (List.mem_of_getElem? (i := 6) rfl)) hEL (by decide) (by decide)) fun v6 T1 h3 W2 K4 q5 => ?_
  obtain ⟨rfl, S1⟩ := q5
  show Goes _ _ _ _ _ _ _ _ _ _ _ T1 (mkF m 9 #[.val (.ref a1), .val (.ref b)] [])
  have K7 : Keep h h3 [a1] := ((Keep.refl h [a1]).trans K4 fun x q => by cases List.mem_singleton.mp q; exact Or.inl (List.mem_of_getElem? (i := 0) rfl))
  exact g_return W2 d_jdk_42_method_3_code_9 K7 ⟨rfl, S1⟩ (by decide) (by decide)
theorem d_jdk_52_method_21_code_26 : decode jdk_52_method_21_code 26 = .ok (.aload_n 2, 1) := by decide +kernel
theorem d_jdk_52_method_21_code_27 : decode jdk_52_method_21_code 27 = .ok (.iload_n 3, 1) := by decide +kernel
theorem d_jdk_52_method_21_code_28 : decode jdk_52_method_21_code 28 = .ok (.iload 6, 2) := by decide +kernel
theorem d_jdk_52_method_21_code_30 : decode jdk_52_method_21_code 30 = .ok (.i2b, 1) := by decide +kernel
theorem d_jdk_52_method_21_code_31 : decode jdk_52_method_21_code 31 = .ok (.bastore, 1) := by decide +kernel
theorem d_jdk_52_method_21_code_32 : decode jdk_52_method_21_code 32 = .ok (.iinc 1 1, 3) := by decide +kernel
theorem d_jdk_52_method_21_code_35 : decode jdk_52_method_21_code 35 = .ok (.iinc 3 1, 3) := by decide +kernel
theorem d_jdk_52_method_21_code_38 : decode jdk_52_method_21_code 38 = .ok (.iinc 5 1, 3) := by decide +kernel
theorem d_jdk_52_method_21_code_41 : decode jdk_52_method_21_code 41 = .ok (.goto (-38), 3) := by decide +kernel
set_option maxRecDepth 65536 in
set_option maxHeartbeats 40000000 in
theorem rm_cl_2_1 {l : Launch} {Z : State} {a0 : Array Value} (hw : ∀ d ∈ tables_1, d.before a0 Z = true) (hEL : EW Z a0 EL1) {zc : Int32} (Sc : Sta Z Z.heap "java/lang/String" "COMPACT_STRINGS" "Z" (.int zc)) (hzc : ¬ zc = 0) (b t : Addr) (kb kt : ClassId) (db : Value) (c0 c1 : Int32) (h : Heap) (hX : Ext Z.heap h) (A1 : Arv Z h b kb .char (2 : Int32) [(.int c0), (.int c1)] db) (A2 : Arv Z h t kt .byte (2 : Int32) [(.int (0 : Int32)), (.int (0 : Int32))] (.int (0 : Int32))) (nbt : b ≠ t) (gt : Z.heap.size ≤ t) (q0 : ¬ (255 : Int32) < c0) (q1 : (255 : Int32) < c1) : Met l Z EL1 NW (⟨"java/lang/StringUTF16", "compress", "([CI[BII)I"⟩ : MethodName) jdk_52_method_21_code 7 (some .int) [] ({ frames := 0, cells := 0, slots := 0, locals := 0 } : Room) #[(.ref b), (.int (0 : Int32)), (.ref t), (.int (0 : Int32)), (.int (2 : Int32))] h [t] (fun v _ => v = some (.int (1 : Int32))) := by
  refine Met.intro pf_8 hEL hX (allS ⟨gt, A2.lt⟩ all0) ?_
  intro p e s m below meth c T W
  refine Goes.cast (show entryFrame m #[(.ref b), (.int (0 : Int32)), (.ref t), (.int (0 : Int32)), (.int (2 : Int32))] 7 = mkF m 0 #[.val (.ref b), .val (.int (0 : Int32)), .val (.ref t), .val (.int (0 : Int32)), .val (.int (2 : Int32)), .unset, .unset] [] by first | (simp [entryFrame, mkF, argsToLocals, Value.category]; done) | rfl) ?_
  refine g_iconst W d_jdk_52_method_21_code_0 (pc' := 1) (v := (0 : Int32)) rfl rfl ?_
  refine g_istore W d_jdk_52_method_21_code_1 (pc' := 3) (L' := #[.val (.ref b), .val (.int (0 : Int32)), .val (.ref t), .val (.int (0 : Int32)), .val (.int (2 : Int32)), .val (.int (0 : Int32)), .unset]) rfl rfl ?_
  refine g_iload W d_jdk_52_method_21_code_3 (pc' := 5) rfl rfl ?_
  refine g_iload W d_jdk_52_method_21_code_5 (pc' := 7) rfl rfl ?_
  refine g_icmpN W d_jdk_52_method_21_code_7 (pc' := 10) rfl (Jvm.Free.XT.ii_ge_f (by decide)) ?_
  refine g_aload_n W d_jdk_52_method_21_code_10 (pc' := 11) rfl rfl rfl ?_
  refine g_iload_n W d_jdk_52_method_21_code_11 (pc' := 12) rfl rfl ?_
  refine g_caload W d_jdk_52_method_21_code_12 (pc' := 13) rfl A1 ⟨by decide, by decide⟩ rfl ?_
  refine g_istore W d_jdk_52_method_21_code_13 (pc' := 15) (L' := #[.val (.ref b), .val (.int (0 : Int32)), .val (.ref t), .val (.int (0 : Int32)), .val (.int (2 : Int32)), .val (.int (0 : Int32)), .val (.int c0)]) rfl rfl ?_
  refine g_iload W d_jdk_52_method_21_code_15 (pc' := 17) rfl rfl ?_
  refine g_sipush W d_jdk_52_method_21_code_17 (pc' := 20) (v := (255 : Int32)) rfl (by decide) ?_
  refine g_icmpY W d_jdk_52_method_21_code_20 (pc' := 26) (by decide) (by decide) (Jvm.Free.XT.ii_le_t q0) ?_
  refine g_aload_n W d_jdk_52_method_21_code_26 (pc' := 27) rfl rfl rfl ?_
  refine g_iload_n W d_jdk_52_method_21_code_27 (pc' := 28) rfl rfl ?_
  refine g_iload W d_jdk_52_method_21_code_28 (pc' := 30) rfl rfl ?_
  refine g_i2b W d_jdk_52_method_21_code_30 (pc' := 31) rfl ?_
  refine g_bastore W d_jdk_52_method_21_code_31 (pc' := 32) (i := 0) (x' := RoadKit.nar .byte c0.toInt8.toInt32) rfl rfl A2 ⟨by decide, by decide⟩ rfl (Nat.le_of_ble_eq_true rfl) (List.mem_of_getElem? (i := 0) rfl) fun T1 h3 W2 R4 A5 => ?_
  have A6 : Arv Z h3 t kt .byte (2 : Int32) [(.int (RoadKit.nar .byte c0.toInt8.toInt32)), (.int (0 : Int32))] (.int (0 : Int32)) := A5
  refine g_iinc W2 d_jdk_52_method_21_code_32 (pc' := 35) (v := (1 : Int32)) (L' := #[.val (.ref b), .val (.int ((0 : Int32) + (1 : Int32))), .val (.ref t), .val (.int (0 : Int32)), .val (.int (2 : Int32)), .val (.int (0 : Int32)), .val (.int c0)]) rfl rfl rfl rfl ?_
  refine g_iinc W2 d_jdk_52_method_21_code_35 (pc' := 38) (v := (1 : Int32)) (L' := #[.val (.ref b), .val (.int ((0 : Int32) + (1 : Int32))), .val (.ref t), .val (.int ((0 : Int32) + (1 : Int32))), .val (.int (2 : Int32)), .val (.int (0 : Int32)), .val (.int c0)]) rfl rfl rfl rfl ?_
  refine g_iinc W2 d_jdk_52_method_21_code_38 (pc' := 41) (v := (1 : Int32)) (L' := #[.val (.ref b), .val (.int ((0 : Int32) + (1 : Int32))), .val (.ref t), .val (.int ((0 : Int32) + (1 : Int32))), .val (.int (2 : Int32)), .val (.int ((0 : Int32) + (1 : Int32))), .val (.int c0)]) rfl rfl rfl rfl ?_
  refine g_goto W2 d_jdk_52_method_21_code_41 (pc' := 3) (by decide) (by decide) ?_
  show Goes _ _ _ _ _ _ _ _ _ _ _ T1 (mkF m 3 #[.val (.ref b), .val (.int (1 : Int32)), .val (.ref t), .val (.int (1 : Int32)), .val (.int (2 : Int32)), .val (.int (1 : Int32)), .val (.int c0)] [])
  refine g_iload W2 d_jdk_52_method_21_code_3 (pc' := 5) rfl rfl ?_
  refine g_iload W2 d_jdk_52_method_21_code_5 (pc' := 7) rfl rfl ?_
  refine g_icmpN W2 d_jdk_52_method_21_code_7 (pc' := 10) rfl (Jvm.Free.XT.ii_ge_f (by decide)) ?_
  refine g_aload_n W2 d_jdk_52_method_21_code_10 (pc' := 11) rfl rfl rfl ?_
  refine g_iload_n W2 d_jdk_52_method_21_code_11 (pc' := 12) rfl rfl ?_
  have K7 : Keep h h3 [t] := ((Keep.refl h [t]).wr R4 (Or.inl (List.mem_of_getElem? (i := 0) rfl)))
  have F8 := A1.keep K7 (ninS nbt nin0)
  refine g_caload W2 d_jdk_52_method_21_code_12 (pc' := 13) rfl F8 ⟨by decide, by decide⟩ rfl ?_
  refine g_istore W2 d_jdk_52_method_21_code_13 (pc' := 15) (L' := #[.val (.ref b), .val (.int (1 : Int32)), .val (.ref t), .val (.int (1 : Int32)), .val (.int (2 : Int32)), .val (.int (1 : Int32)), .val (.int c1)]) rfl rfl ?_
  refine g_iload W2 d_jdk_52_method_21_code_15 (pc' := 17) rfl rfl ?_
  refine g_sipush W2 d_jdk_52_method_21_code_17 (pc' := 20) (v := (255 : Int32)) rfl (by decide) ?_
  refine g_icmpN W2 d_jdk_52_method_21_code_20 (pc' := 23) rfl (Jvm.Free.XT.ii_le_f q1) ?_
  refine g_iload W2 d_jdk_52_method_21_code_23 (pc' := 25) rfl rfl ?_
  exact g_ireturn W2 d_jdk_52_method_21_code_25 (by decide) rfl K7 rfl (by decide) (by decide)
set_option maxRecDepth 65536 in
set_option maxHeartbeats 40000000 in
theorem rm_c16_2_1 {l : Launch} {Z : State} {a0 : Array Value} (hw : ∀ d ∈ tables_1, d.before a0 Z = true) (hEL : EW Z a0 EL1) {zc : Int32} (Sc : Sta Z Z.heap "java/lang/String" "COMPACT_STRINGS" "Z" (.int zc)) (hzc : ¬ zc = 0) (b : Addr) (kb : ClassId) (db : Value) (c0 c1 : Int32) (h : Heap) (hX : Ext Z.heap h) (Sa : Sta Z Z.heap "java/lang/StringUTF16" "$assertionsDisabled" "Z" (.int (1 : Int32))) (Sh : Sta Z Z.heap "java/lang/StringUTF16" "HI_BYTE_SHIFT" "I" (.int (0 : Int32))) (Sl : Sta Z Z.heap "java/lang/StringUTF16" "LO_BYTE_SHIFT" "I" (.int (8 : Int32))) (A1 : Arv Z h b kb .char (2 : Int32) [(.int c0), (.int c1)] db) (r0 : ¬ c0 < 0 ∧ ¬ (65535 : Int32) < c0) (r1 : ¬ c1 < 0 ∧ ¬ (65535 : Int32) < c1) (q0 : ¬ (255 : Int32) < c0) (q1 : (255 : Int32) < c1) : Met l Z EL1 NW (⟨"java/lang/StringUTF16", "compress", "([CII)[B"⟩ : MethodName) jdk_52_method_16_code 6 (some (.array .byte)) [] ({ frames := 3, cells := 2, slots := 6, locals := 50 } : Room) #[(.ref b), (.int (0 : Int32)), (.int (2 : Int32))] h [] (fun v h' => ∃ a k, v = some (.ref a) ∧ h.size ≤ a ∧ Arv Z h' a k .byte (4 : Int32) (StrChars.Road.wideBytes [c0, c1]) (.int (0 : Int32))) := by
  refine Met.intro pf_9 hEL hX (fun _ q => nomatch q) ?_
  intro p e s m below meth c T W
  refine Goes.cast (show entryFrame m #[(.ref b), (.int (0 : Int32)), (.int (2 : Int32))] 6 = mkF m 0 #[.val (.ref b), .val (.int (0 : Int32)), .val (.int (2 : Int32)), .unset, .unset, .unset] [] by first | (simp [entryFrame, mkF, argsToLocals, Value.category]; done) | rfl) ?_
  refine g_iload_n W d_jdk_52_method_16_code_0 (pc' := 1) rfl rfl ?_
  refine g_newarray W d_jdk_52_method_16_code_1 (pc' := 3) (cap := 2) rfl (hw _ (List.mem_of_getElem? (i := 19) rfl)) (by decide) (by decide) (by decide) (by decide) (by decide) fun T1 h3 t kA7 g4 W2 E5 A6 => ?_
  have A8 : Arv Z h3 t kA7 .byte (2 : Int32) [(.int (0 : Int32)), (.int (0 : Int32))] (.int (0 : Int32)) := A6.pad (pad_rep [] (.int (0 : Int32)) 2)
  refine g_astore_n W2 d_jdk_52_method_16_code_3 (pc' := 4) (L' := #[.val (.ref b), .val (.int (0 : Int32)), .val (.int (2 : Int32)), .val (.ref t), .unset, .unset]) rfl rfl rfl ?_
  refine g_aload_n W2 d_jdk_52_method_16_code_4 (pc' := 5) rfl rfl rfl ?_
  refine g_iload_n W2 d_jdk_52_method_16_code_5 (pc' := 6) rfl rfl ?_
  refine g_aload_n W2 d_jdk_52_method_16_code_6 (pc' := 7) rfl rfl rfl ?_
  refine g_iconst W2 d_jdk_52_method_16_code_7 (pc' := 8) (v := (0 : Int32)) rfl rfl ?_
  refine g_iload_n W2 d_jdk_52_method_16_code_8 (pc' := 9) rfl rfl ?_
  have nbt : b ≠ t := Nat.ne_of_lt (Nat.lt_of_lt_of_le A1.lt (Nat.le_of_eq g4.symm))
  have hXa := W2.ext
  have K15 : Keep h h3 [] := ((Keep.refl h []).ext E5)
  have F16 := A1.mv K15
  refine g_static W2 d_jdk_52_method_16_code_9 (pc' := 12) (fr' := [t]) (argsL := [(.ref b), (.int (0 : Int32)), (.ref t), (.int (0 : Int32)), (.int (2 : Int32))]) (rest := []) (Wd := 0) (kc := 0) (ks := 0) rfl (hw _ (List.mem_of_getElem? (i := 40) rfl)) (hw _ (List.mem_of_getElem? (i := 41) rfl)) (hw _ (List.mem_of_getElem? (i := 38) rfl)) (hw _ (List.mem_of_getElem? (i := 42) rfl)) (by decide) rfl rfl (lenOf pd_4 rfl) rfl (allS (List.mem_of_getElem? (i := 0) rfl) (all0)) (by decide) (by decide) (Met.pays (rm_cl_2_1 hw hEL Sc hzc b t kb _ db c0 c1 _ W2.ext F16 A8 nbt (W2.frs t (List.mem_of_getElem? (i := 0) rfl)).1 q0 q1) (hw _ (List.mem_of_getElem? (i := 42) rfl)) (hw _ (List.mem_of_getElem? (i := 38) rfl)) hEL (by decide) (by decide)) fun v14 T9 h11 W10 K12 q13 => ?_
  obtain rfl := q13
  show Goes _ _ _ _ _ _ _ _ _ _ _ T9 (mkF m 12 #[.val (.ref b), .val (.int (0 : Int32)), .val (.int (2 : Int32)), .val (.ref t), .unset, .unset] [(.int (1 : Int32))])
  refine g_istore W10 d_jdk_52_method_16_code_12 (pc' := 14) (L' := #[.val (.ref b), .val (.int (0 : Int32)), .val (.int (2 : Int32)), .val (.ref t), .val (.int (1 : Int32)), .unset]) rfl rfl ?_
  refine g_iload W10 d_jdk_52_method_16_code_14 (pc' := 16) rfl rfl ?_
  refine g_iload_n W10 d_jdk_52_method_16_code_16 (pc' := 17) rfl rfl ?_
  refine g_icmpN W10 d_jdk_52_method_16_code_17 (pc' := 20) rfl (Jvm.Free.XT.ii_eq_f (by decide)) ?_
  refine g_aload_n W10 d_jdk_52_method_16_code_20 (pc' := 21) rfl rfl rfl ?_
  refine g_iload_n W10 d_jdk_52_method_16_code_21 (pc' := 22) rfl rfl ?_
  refine g_iload_n W10 d_jdk_52_method_16_code_22 (pc' := 23) rfl rfl ?_
  have K23 : Keep h h11 [] := (((Keep.refl h []).ext E5).trans K12 fun x q => by cases List.mem_singleton.mp q; exact Or.inr (Nat.le_of_eq g4.symm))
  have F24 := A1.mv K23
  refine g_static W10 d_jdk_52_method_16_code_23 (pc' := 26) (fr' := []) (argsL := [(.ref b), (.int (0 : Int32)), (.int (2 : Int32))]) (rest := []) (Wd := 0) (kc := 1) (ks := 4) rfl (hw _ (List.mem_of_getElem? (i := 46) rfl)) (hw _ (List.mem_of_getElem? (i := 47) rfl)) (hw _ (List.mem_of_getElem? (i := 38) rfl)) (hw _ (List.mem_of_getElem? (i := 48) rfl)) (by decide) rfl rfl (lenOf pd_5 rfl) rfl all0 (by decide) (by decide) (Met.pays (rm_tb_2 hw hEL Sc hzc b kb db c0 c1 _ W10.ext Sa Sh Sl F24) (hw _ (List.mem_of_getElem? (i := 48) rfl)) (hw _ (List.mem_of_getElem? (i := 38) rfl)) hEL (by decide) (by decide)) fun v22 T17 h19 W18 K20 q21 => ?_
  obtain ⟨d, kd, rfl, gd, Ad⟩ := q21
  show Goes _ _ _ _ _ _ _ _ _ _ _ T17 (mkF m 26 #[.val (.ref b), .val (.int (0 : Int32)), .val (.int (2 : Int32)), .val (.ref t), .val (.int (1 : Int32)), .unset] [(.ref d)])
  refine g_astore W18 d_jdk_52_method_16_code_26 (pc' := 28) (L' := #[.val (.ref b), .val (.int (0 : Int32)), .val (.int (2 : Int32)), .val (.ref t), .val (.int (1 : Int32)), .val (.ref d)]) rfl rfl rfl ?_
  refine g_aload W18 d_jdk_52_method_16_code_28 (pc' := 30) rfl rfl rfl ?_
  refine g_iload W18 d_jdk_52_method_16_code_30 (pc' := 32) rfl rfl ?_
  refine g_static W18 d_jdk_52_method_16_code_32 (pc' := 35) (fr' := []) (argsL := [(.ref d), (.int (1 : Int32))]) (rest := []) (Wd := 0) (kc := 0) (ks := 0) rfl (hw _ (List.mem_of_getElem? (i := 62) rfl)) (hw _ (List.mem_of_getElem? (i := 63) rfl)) (hw _ (List.mem_of_getElem? (i := 38) rfl)) (hw _ (List.mem_of_getElem? (i := 64) rfl)) (by decide) rfl rfl (lenOf pd_6 rfl) rfl all0 (by decide) (by decide) (Met.pays (rm_getChar hw hEL Sc hzc d kd (4 : Int32) (1 : Int32) c1 _ _ W18.ext Sa Sh Sl Ad (by decide) rfl (by decide) rfl r1) (hw _ (List.mem_of_getElem? (i := 64) rfl)) (hw _ (List.mem_of_getElem? (i := 38) rfl)) hEL (by decide) (by decide)) fun v30 T25 h27 W26 K28 q29 => ?_
  obtain ⟨rfl, rfl⟩ := q29
  show Goes _ _ _ _ _ _ _ _ _ _ _ T25 (mkF m 35 #[.val (.ref b), .val (.int (0 : Int32)), .val (.int (2 : Int32)), .val (.ref t), .val (.int (1 : Int32)), .val (.ref d)] [(.int c1)])
  refine g_sipush W26 d_jdk_52_method_16_code_35 (pc' := 38) (v := (255 : Int32)) rfl (by decide) ?_
  refine g_icmpY W26 d_jdk_52_method_16_code_38 (pc' := 54) (by decide) (by decide) (Jvm.Free.XT.ii_gt_t q1) ?_
  refine g_aload W26 d_jdk_52_method_16_code_54 (pc' := 56) rfl rfl rfl ?_
  have K31 : Keep h h19 [] := ((((Keep.refl h []).ext E5).trans K12 fun x q => by cases List.mem_singleton.mp q; exact Or.inr (Nat.le_of_eq g4.symm)).trans K20 fun _ q => nomatch q)
  exact g_areturn W26 d_jdk_52_method_16_code_56 rfl rfl rfl K31 ⟨_, _, rfl, Nat.le_trans K23.1 gd, Ad⟩ (by decide) (by decide)
set_option maxRecDepth 65536 in
set_option maxHeartbeats 40000000 in
theorem rm_new4_2_1 {l : Launch} {Z : State} {a0 : Array Value} (hw : ∀ d ∈ tables_1, d.before a0 Z = true) (hEL : EW Z a0 EL1) {zc : Int32} (Sc : Sta Z Z.heap "java/lang/String" "COMPACT_STRINGS" "Z" (.int zc)) (hzc : ¬ zc = 0) (a1 b : Addr) (kb : ClassId) (db : Value) (c0 c1 : Int32) (h : Heap) (hX : Ext Z.heap h) (Sa : Sta Z Z.heap "java/lang/StringUTF16" "$assertionsDisabled" "Z" (.int (1 : Int32))) (Sh : Sta Z Z.heap "java/lang/StringUTF16" "HI_BYTE_SHIFT" "I" (.int (0 : Int32))) (Sl : Sta Z Z.heap "java/lang/StringUTF16" "LO_BYTE_SHIFT" "I" (.int (8 : Int32))) (g1 : Z.heap.size ≤ a1) (O1 : Obj Z h a1 "java/lang/String" [(("java/lang/String", "value", "[B"), .null), (("java/lang/String", "coder", "B"), (.int 0))]) (A1 : Arv Z h b kb .char (2 : Int32) [(.int c0), (.int c1)] db) (r0 : ¬ c0 < 0 ∧ ¬ (65535 : Int32) < c0) (r1 : ¬ c1 < 0 ∧ ¬ (65535 : Int32) < c1) (q0 : ¬ (255 : Int32) < c0) (q1 : (255 : Int32) < c1) : Met l Z EL1 NW (⟨"java/lang/String", "<init>", "([CIILjava/lang/Void;)V"⟩ : MethodName) jdk_42_method_149_code 6 none [] ({ frames := 4, cells := 2, slots := 6, locals := 70 } : Room) #[(.ref a1), (.ref b), (.int (0 : Int32)), (.int (2 : Int32)), .null] h [a1] (fun v h' => v = none ∧ Str Z h' a1 [c0, c1]) := by
  refine Met.intro pf_0 hEL hX (allS ⟨g1, O1.lt⟩ all0) ?_
  intro p e s m below meth c T W
  refine Goes.cast (show entryFrame m #[(.ref a1), (.ref b), (.int (0 : Int32)), (.int (2 : Int32)), .null] 6 = mkF m 0 #[.val (.ref a1), .val (.ref b), .val (.int (0 : Int32)), .val (.int (2 : Int32)), .val .null, .unset] [] by first | (simp [entryFrame, mkF, argsToLocals, Value.category]; done) | rfl) ?_
  refine g_aload_n W d_jdk_42_method_149_code_0 (pc' := 1) rfl rfl rfl ?_
  refine g_initO W d_jdk_42_method_149_code_1 (pc' := 4) (Wd := 0) rfl (hw _ (List.mem_of_getElem? (i := 15) rfl)) (hw _ (List.mem_of_getElem? (i := 16) rfl)) (hw _ (List.mem_of_getElem? (i := 17) rfl)) rfl rfl (by decide) (by decide) fun T1 W2 => ?_
  refine g_iload_n W2 d_jdk_42_method_149_code_4 (pc' := 5) rfl rfl ?_
  refine g_ifY W2 d_jdk_42_method_149_code_5 (pc' := 27) (by decide) (by decide) (Jvm.Free.XT.i0_ne_t (by decide)) ?_
  refine g_getstatic W2 d_jdk_42_method_149_code_27 (pc' := 30) rfl (hw _ (List.mem_of_getElem? (i := 35) rfl)) Via.refl Sc fun T3 W4 => ?_
  refine g_ifN W4 d_jdk_42_method_149_code_30 (pc' := 33) rfl (Jvm.Free.XT.i0_eq_f hzc) ?_
  refine g_aload_n W4 d_jdk_42_method_149_code_33 (pc' := 34) rfl rfl rfl ?_
  refine g_iload_n W4 d_jdk_42_method_149_code_34 (pc' := 35) rfl rfl ?_
  refine g_iload_n W4 d_jdk_42_method_149_code_35 (pc' := 36) rfl rfl ?_
  refine g_static W4 d_jdk_42_method_149_code_36 (pc' := 39) (fr' := []) (argsL := [(.ref b), (.int (0 : Int32)), (.int (2 : Int32))]) (rest := []) (Wd := 0) (kc := 2) (ks := 6) rfl (hw _ (List.mem_of_getElem? (i := 36) rfl)) (hw _ (List.mem_of_getElem? (i := 37) rfl)) (hw _ (List.mem_of_getElem? (i := 38) rfl)) (hw _ (List.mem_of_getElem? (i := 39) rfl)) (by decide) rfl rfl (lenOf pd_5 rfl) rfl all0 (by decide) (by decide) (Met.pays (rm_c16_2_1 hw hEL Sc hzc b kb db c0 c1 _ W4.ext Sa Sh Sl A1 r0 r1 q0 q1) (hw _ (List.mem_of_getElem? (i := 39) rfl)) (hw _ (List.mem_of_getElem? (i := 38) rfl)) hEL (by decide) (by decide)) fun v10 T5 h7 W6 K8 q9 => ?_
  obtain ⟨d, kd, rfl, gd, Ad⟩ := q9
  show Goes _ _ _ _ _ _ _ _ _ _ _ T5 (mkF m 39 #[.val (.ref a1), .val (.ref b), .val (.int (0 : Int32)), .val (.int (2 : Int32)), .val .null, .unset] [(.ref d)])
  have nda : d ≠ a1 := Nat.ne_of_gt (Nat.lt_of_lt_of_le O1.lt gd)
  refine g_astore W6 d_jdk_42_method_149_code_39 (pc' := 41) (L' := #[.val (.ref a1), .val (.ref b), .val (.int (0 : Int32)), .val (.int (2 : Int32)), .val .null, .val (.ref d)]) rfl rfl rfl ?_
  refine g_aload_n W6 d_jdk_42_method_149_code_41 (pc' := 42) rfl rfl rfl ?_
  refine g_aload W6 d_jdk_42_method_149_code_42 (pc' := 44) rfl rfl rfl ?_
  refine g_iload_n W6 d_jdk_42_method_149_code_44 (pc' := 45) rfl rfl ?_
  refine g_static W6 d_jdk_42_method_149_code_45 (pc' := 48) (fr' := []) (argsL := [(.ref d), (.int (2 : Int32))]) (rest := [(.ref a1)]) (Wd := 1) (kc := 0) (ks := 0) rfl (hw _ (List.mem_of_getElem? (i := 43) rfl)) (hw _ (List.mem_of_getElem? (i := 44) rfl)) (hw _ (List.mem_of_getElem? (i := 38) rfl)) (hw _ (List.mem_of_getElem? (i := 45) rfl)) (by decide) rfl rfl (lenOf pd_7 rfl) rfl all0 (by decide) (by decide) (Met.pays (rm_cfa_2 hw hEL Sc hzc d kd _ _ _ W6.ext Ad) (hw _ (List.mem_of_getElem? (i := 45) rfl)) (hw _ (List.mem_of_getElem? (i := 38) rfl)) hEL (by decide) (by decide)) fun v16 T11 h13 W12 K14 q15 => ?_
  obtain ⟨rfl, rfl⟩ := q15
  show Goes _ _ _ _ _ _ _ _ _ _ _ T11 (mkF m 48 #[.val (.ref a1), .val (.ref b), .val (.int (0 : Int32)), .val (.int (2 : Int32)), .val .null, .val (.ref d)] [(.int (1 : Int32)), (.ref a1)])
  have K22 : Keep h h7 [] := ((Keep.refl h []).trans K8 fun _ q => nomatch q)
  have F23 := O1.mv K22
  refine g_putfield W12 d_jdk_42_method_149_code_48 (pc' := 51) (host := "") (ty := .byte) rfl (Or.inl (hw _ (List.mem_of_getElem? (i := 25) rfl))) Via.refl (F23.get 1 rfl) F23.1 (Or.inr ⟨(hw _ (List.mem_of_getElem? (i := 21) rfl)), rfl, rfl⟩) (hw _ (List.mem_of_getElem? (i := 5) rfl)) (by decide) rfl rfl (List.mem_of_getElem? (i := 0) rfl) fun T17 h19 W18 R20 => ?_
  have O21 : Obj Z h19 a1 "java/lang/String" [(("java/lang/String", "value", "[B"), .null), (("java/lang/String", "coder", "B"), (.int (1 : Int32)))] := F23.put R20 1 rfl (dis_Str hw)
  refine g_aload_n W18 d_jdk_42_method_149_code_51 (pc' := 52) rfl rfl rfl ?_
  refine g_aload W18 d_jdk_42_method_149_code_52 (pc' := 54) rfl rfl rfl ?_
  refine g_putfield W18 d_jdk_42_method_149_code_54 (pc' := 57) (host := "") (ty := (.array .byte)) rfl (Or.inl (hw _ (List.mem_of_getElem? (i := 24) rfl))) Via.refl (O21.get 0 rfl) O21.1 (Or.inr ⟨(hw _ (List.mem_of_getElem? (i := 20) rfl)), rfl, rfl⟩) (hw _ (List.mem_of_getElem? (i := 5) rfl)) (by decide) rfl rfl (List.mem_of_getElem? (i := 0) rfl) fun T24 h26 W25 R27 => ?_
  have O28 : Obj Z h26 a1 "java/lang/String" [(("java/lang/String", "value", "[B"), (.ref d)), (("java/lang/String", "coder", "B"), (.int (1 : Int32)))] := O21.put R27 0 rfl (dis_Str hw)
  have K29 : Keep h7 h26 [a1] := (((Keep.refl h7 [a1]).wr R20 (Or.inl (List.mem_of_getElem? (i := 0) rfl))).wr R27 (Or.inl (List.mem_of_getElem? (i := 0) rfl)))
  have F30 := Ad.keep K29 (ninS nda nin0)
  have K31 : Keep h h26 [a1] := ((((Keep.refl h [a1]).trans K8 fun _ q => nomatch q).wr R20 (Or.inl (List.mem_of_getElem? (i := 0) rfl))).wr R27 (Or.inl (List.mem_of_getElem? (i := 0) rfl)))
  exact g_return W25 d_jdk_42_method_149_code_57 K31 ⟨rfl, ⟨_, _, _, _, _, O28.1, O28.get 0 rfl, O28.get 1 rfl, F30, Or.inr ⟨rfl, rfl, rfl, c1, List.mem_of_getElem? (i := 1) rfl, q1⟩, (rngC r0 (rngC r1 rngN)), Nat.le_of_ble_eq_true rfl⟩⟩ (by decide) (by decide)
set_option maxRecDepth 65536 in
set_option maxHeartbeats 40000000 in
theorem rm_new1_2_1 {l : Launch} {Z : State} {a0 : Array Value} (hw : ∀ d ∈ tables_1, d.before a0 Z = true) (hEL : EW Z a0 EL1) {zc : Int32} (Sc : Sta Z Z.heap "java/lang/String" "COMPACT_STRINGS" "Z" (.int zc)) (hzc : ¬ zc = 0) (a1 b : Addr) (kb : ClassId) (db : Value) (c0 c1 : Int32) (h : Heap) (hX : Ext Z.heap h) (Sa : Sta Z Z.heap "java/lang/StringUTF16" "$assertionsDisabled" "Z" (.int (1 : Int32))) (Sh : Sta Z Z.heap "java/lang/StringUTF16" "HI_BYTE_SHIFT" "I" (.int (0 : Int32))) (Sl : Sta Z Z.heap "java/lang/StringUTF16" "LO_BYTE_SHIFT" "I" (.int (8 : Int32))) (g1 : Z.heap.size ≤ a1) (O1 : Obj Z h a1 "java/lang/String" [(("java/lang/String", "value", "[B"), .null), (("java/lang/String", "coder", "B"), (.int 0))]) (A1 : Arv Z h b kb .char (2 : Int32) [(.int c0), (.int c1)] db) (r0 : ¬ c0 < 0 ∧ ¬ (65535 : Int32) < c0) (r1 : ¬ c1 < 0 ∧ ¬ (65535 : Int32) < c1) (q0 : ¬ (255 : Int32) < c0) (q1 : (255 : Int32) < c1) : Met l Z EL1 NW (⟨"java/lang/String", "<init>", "([C)V"⟩ : MethodName) jdk_42_method_3_code 2 none [] ({ frames := 5, cells := 2, slots := 6, locals := 90 } : Room) #[(.ref a1), (.ref b)] h [a1] (fun v h' => v = none ∧ Str Z h' a1 [c0, c1]) := by
  refine Met.intro pf_1 hEL hX (allS ⟨g1, O1.lt⟩ all0) ?_
  intro p e s m below meth c T W
  refine Goes.cast (show entryFrame m #[(.ref a1), (.ref b)] 2 = mkF m 0 #[.val (.ref a1), .val (.ref b)] [] by first | (simp [entryFrame, mkF, argsToLocals, Value.category]; done) | rfl) ?_
  refine g_aload_n W d_jdk_42_method_3_code_0 (pc' := 1) rfl rfl rfl ?_
  refine g_aload_n W d_jdk_42_method_3_code_1 (pc' := 2) rfl rfl rfl ?_
  refine g_iconst W d_jdk_42_method_3_code_2 (pc' := 3) (v := (0 : Int32)) rfl rfl ?_
  refine g_aload_n W d_jdk_42_method_3_code_3 (pc' := 4) rfl rfl rfl ?_
  refine g_arraylength W d_jdk_42_method_3_code_4 (pc' := 5) rfl A1 ?_
  refine g_aconst_null W d_jdk_42_method_3_code_5 (pc' := 6) rfl ?_
  refine g_special W d_jdk_42_method_3_code_6 (pc' := 9) (a := a1) (fr' := [a1]) (argsL := [(.ref b), (.int (0 : Int32)), (.int (2 : Int32)), .null]) (rest := []) (Wd := 0) (kc := 2) (ks := 6) rfl rfl (hw _ (List.mem_of_getElem? (i := 11) rfl)) (hw _ (List.mem_of_getElem? (i := 12) rfl)) (hw _ (List.mem_of_getElem? (i := 14) rfl)) (by decide) rfl rfl (lenOf pd_0 rfl) rfl (allS (List.mem_of_getElem? (i := 0) rfl) (all0)) (by decide) (by decide) (Met.pays (rm_new4_2_1 hw hEL Sc hzc a1 b kb db c0 c1 _ W.ext Sa Sh Sl g1 O1 A1 r0 r1 q0 q1) (hw _ (List.mem_of_getElem? (i := 14) rfl)) (hw _ (List.mem_of_getElem? (i := 6) rfl)) hEL (by decide) (by decide)) fun v6 T1 h3 W2 K4 q5 => ?_
  obtain ⟨rfl, S1⟩ := q5
  show Goes _ _ _ _ _ _ _ _ _ _ _ T1 (mkF m 9 #[.val (.ref a1), .val (.ref b)] [])
  have K7 : Keep h h3 [a1] := ((Keep.refl h [a1]).trans K4 fun x q => by cases List.mem_singleton.mp q; exact Or.inl (List.mem_of_getElem? (i := 0) rfl))
  exact g_return W2 d_jdk_42_method_3_code_9 K7 ⟨rfl, S1⟩ (by decide) (by decide)
theorem pays_str_2 {l : Launch} {Z : State} {a0 : Array Value} (hw : ∀ d ∈ tables_1, d.before a0 Z = true) (hEL : EW Z a0 EL1) {zc : Int32} (Sc : Sta Z Z.heap "java/lang/String" "COMPACT_STRINGS" "Z" (.int zc)) (hzc : ¬ zc = 0) (Sa : Sta Z Z.heap "java/lang/StringUTF16" "$assertionsDisabled" "Z" (.int (1 : Int32))) (Sh : Sta Z Z.heap "java/lang/StringUTF16" "HI_BYTE_SHIFT" "I" (.int (0 : Int32))) (Sl : Sta Z Z.heap "java/lang/StringUTF16" "LO_BYTE_SHIFT" "I" (.int (8 : Int32))) {p : Program} {e : Env} {R : Room} {s : State} {args : Array Value} {below : List Frame} {Wd len : Nat} (x b : Addr) (kb : ClassId) (db : Value) (c0 c1 : Int32) (h : Heap) (hX : Ext Z.heap h) (g1 : Z.heap.size ≤ x) (O1 : Obj Z h x "java/lang/String" [(("java/lang/String", "value", "[B"), .null), (("java/lang/String", "coder", "B"), (.int 0))]) (A1 : Arv Z h b kb .char (2 : Int32) [(.int c0), (.int c1)] db) (r0 : ¬ c0 < 0 ∧ ¬ (65535 : Int32) < c0) (r1 : ¬ c1 < 0 ∧ ¬ (65535 : Int32) < c1) (hfr : 6 ≤ R.frames) (hlo : Wd + 103 ≤ R.locals) : Pays l R p e below s args Z EL1 NW (⟨"java/lang/String", "<init>", "([C)V"⟩ : MethodName) len Wd #[.ref x, .ref b] h [x] (fun v h' => v = none ∧ Str Z h' x [c0, c1]) 2 6 := by
  by_cases q0 : (255 : Int32) < c0
  · exact Met.pays (rm_new1_2_0 hw hEL Sc hzc x b kb db c0 c1 h hX Sa Sh Sl g1 O1 A1 r0 r1 q0) (hw _ (List.mem_of_getElem? (i := 10) rfl)) (hw _ (List.mem_of_getElem? (i := 6) rfl)) hEL hfr (by show Wd + (2 + 11) + 90 ≤ _; omega)
  by_cases q1 : (255 : Int32) < c1
  · exact Met.pays (rm_new1_2_1 hw hEL Sc hzc x b kb db c0 c1 h hX Sa Sh Sl g1 O1 A1 r0 r1 q0 q1) (hw _ (List.mem_of_getElem? (i := 10) rfl)) (hw _ (List.mem_of_getElem? (i := 6) rfl)) hEL hfr (by show Wd + (2 + 11) + 90 ≤ _; omega)
  exact (pays_newStr (cs := [c0, c1]) (n := 2) hEL (fun d hd => hw d ((by decide +kernel : ∀ d ∈ StrChars.Road.words, d ∈ tables_1) d hd)) (hw _ (List.mem_of_getElem? (i := 5) rfl)) O1 A1 Sc hzc hX g1 rfl (by decide) (by decide) (by decide) (lowK ⟨r0.1, q0⟩ (lowK ⟨r1.1, q1⟩ lowN)) (by omega) (by omega)).more (by decide) (by decide)
set_option maxRecDepth 65536 in
set_option maxHeartbeats 40000000 in
theorem rm_nbl_3 {l : Launch} {Z : State} {a0 : Array Value} (hw : ∀ d ∈ tables_1, d.before a0 Z = true) (hEL : EW Z a0 EL1) {zc : Int32} (Sc : Sta Z Z.heap "java/lang/String" "COMPACT_STRINGS" "Z" (.int zc)) (hzc : ¬ zc = 0)  (h : Heap) (hX : Ext Z.heap h)  : Met l Z EL1 NW (⟨"java/lang/StringUTF16", "newBytesLength", "(I)I"⟩ : MethodName) jdk_52_method_3_code 1 (some .int) [] ({ frames := 0, cells := 0, slots := 0, locals := 0 } : Room) #[(.int (3 : Int32))] h [] (fun v h' => h = h' ∧ v = some (.int (6 : Int32))) := by
  refine Met.intro pf_4 hEL hX (fun _ q => nomatch q) ?_
  intro p e s m below meth c T W
  refine Goes.cast (show entryFrame m #[(.int (3 : Int32))] 1 = mkF m 0 #[.val (.int (3 : Int32))] [] by first | (simp [entryFrame, mkF, argsToLocals, Value.category]; done) | rfl) ?_
  refine g_iload_n W d_jdk_52_method_3_code_0 (pc' := 1) rfl rfl ?_
  refine g_ifY W d_jdk_52_method_3_code_1 (pc' := 12) (by decide) (by decide) (Jvm.Free.XT.i0_ge_t (by decide)) ?_
  refine g_iload_n W d_jdk_52_method_3_code_12 (pc' := 13) rfl rfl ?_
  refine g_ldcI W d_jdk_52_method_3_code_13 (pc' := 15) (v := (1073741823 : Int32)) rfl (hw _ (List.mem_of_getElem? (i := 55) rfl)) ?_
  refine g_icmpY W d_jdk_52_method_3_code_15 (pc' := 55) (by decide) (by decide) (Jvm.Free.XT.ii_lt_t (by decide)) ?_
  refine g_iload_n W d_jdk_52_method_3_code_55 (pc' := 56) rfl rfl ?_
  refine g_iconst W d_jdk_52_method_3_code_56 (pc' := 57) (v := (1 : Int32)) rfl rfl ?_
  refine g_ishl W d_jdk_52_method_3_code_57 (pc' := 58) rfl ?_
  rw [show ((3 : Int32) <<< ((1 : Int32) &&& 31)) = (6 : Int32) from by decide]
  exact g_ireturn W d_jdk_52_method_3_code_58 (by decide) rfl (Keep.refl h []) ⟨rfl, rfl⟩ (by decide) (by decide)
set_option maxRecDepth 65536 in
set_option maxHeartbeats 40000000 in
theorem rm_nbf_3 {l : Launch} {Z : State} {a0 : Array Value} (hw : ∀ d ∈ tables_1, d.before a0 Z = true) (hEL : EW Z a0 EL1) {zc : Int32} (Sc : Sta Z Z.heap "java/lang/String" "COMPACT_STRINGS" "Z" (.int zc)) (hzc : ¬ zc = 0)  (h : Heap) (hX : Ext Z.heap h)  : Met l Z EL1 NW (⟨"java/lang/StringUTF16", "newBytesFor", "(I)[B"⟩ : MethodName) jdk_52_method_2_code 1 (some (.array .byte)) [] ({ frames := 1, cells := 1, slots := 6, locals := 12 } : Room) #[(.int (3 : Int32))] h [] (fun v h' => ∃ a k, v = some (.ref a) ∧ h.size ≤ a ∧ Arv Z h' a k .byte (6 : Int32) [(.int (0 : Int32)), (.int (0 : Int32)), (.int (0 : Int32)), (.int (0 : Int32)), (.int (0 : Int32)), (.int (0 : Int32))] (.int (0 : Int32))) := by
  refine Met.intro pf_5 hEL hX (fun _ q => nomatch q) ?_
  intro p e s m below meth c T W
  refine Goes.cast (show entryFrame m #[(.int (3 : Int32))] 1 = mkF m 0 #[.val (.int (3 : Int32))] [] by first | (simp [entryFrame, mkF, argsToLocals, Value.category]; done) | rfl) ?_
  refine g_iload_n W d_jdk_52_method_2_code_0 (pc' := 1) rfl rfl ?_
  refine g_static W d_jdk_52_method_2_code_1 (pc' := 4) (fr' := []) (argsL := [(.int (3 : Int32))]) (rest := []) (Wd := 0) (kc := 0) (ks := 0) rfl (hw _ (List.mem_of_getElem? (i := 52) rfl)) (hw _ (List.mem_of_getElem? (i := 53) rfl)) (hw _ (List.mem_of_getElem? (i := 38) rfl)) (hw _ (List.mem_of_getElem? (i := 54) rfl)) (by decide) rfl rfl (lenOf pd_1 rfl) rfl all0 (by decide) (by decide) (Met.pays (rm_nbl_3 hw hEL Sc hzc _ W.ext) (hw _ (List.mem_of_getElem? (i := 54) rfl)) (hw _ (List.mem_of_getElem? (i := 38) rfl)) hEL (by decide) (by decide)) fun v6 T1 h3 W2 K4 q5 => ?_
  obtain ⟨rfl, rfl⟩ := q5
  show Goes _ _ _ _ _ _ _ _ _ _ _ T1 (mkF m 4 #[.val (.int (3 : Int32))] [(.int (6 : Int32))])
  refine g_newarray W2 d_jdk_52_method_2_code_4 (pc' := 6) (cap := 6) rfl (hw _ (List.mem_of_getElem? (i := 19) rfl)) (by decide) (by decide) (by decide) (by decide) (by decide) fun T7 h9 b1 kA13 g10 W8 E11 A12 => ?_
  have A14 : Arv Z h9 b1 kA13 .byte (6 : Int32) [(.int (0 : Int32)), (.int (0 : Int32)), (.int (0 : Int32)), (.int (0 : Int32)), (.int (0 : Int32)), (.int (0 : Int32))] (.int (0 : Int32)) := A12.pad (pad_rep [] (.int (0 : Int32)) 6)
  have K15 : Keep h h9 [] := ((Keep.refl h []).ext E11)
  exact g_areturn W8 d_jdk_52_method_2_code_6 rfl rfl rfl K15 ⟨_, _, rfl, Nat.le_of_eq g10.symm, A14⟩ (by decide) (by decide)
set_option maxRecDepth 65536 in
set_option maxHeartbeats 40000000 in
theorem rm_tb_3 {l : Launch} {Z : State} {a0 : Array Value} (hw : ∀ d ∈ tables_1, d.before a0 Z = true) (hEL : EW Z a0 EL1) {zc : Int32} (Sc : Sta Z Z.heap "java/lang/String" "COMPACT_STRINGS" "Z" (.int zc)) (hzc : ¬ zc = 0) (b : Addr) (kb : ClassId) (db : Value) (c0 c1 c2 : Int32) (h : Heap) (hX : Ext Z.heap h) (Sa : Sta Z Z.heap "java/lang/StringUTF16" "$assertionsDisabled" "Z" (.int (1 : Int32))) (Sh : Sta Z Z.heap "java/lang/StringUTF16" "HI_BYTE_SHIFT" "I" (.int (0 : Int32))) (Sl : Sta Z Z.heap "java/lang/StringUTF16" "LO_BYTE_SHIFT" "I" (.int (8 : Int32))) (A1 : Arv Z h b kb .char (3 : Int32) [(.int c0), (.int c1), (.int c2)] db) : Met l Z EL1 NW (⟨"java/lang/StringUTF16", "toBytes", "([CII)[B"⟩ : MethodName) jdk_52_method_14_code 5 (some (.array .byte)) [] ({ frames := 2, cells := 1, slots := 6, locals := 30 } : Room) #[(.ref b), (.int (0 : Int32)), (.int (3 : Int32))] h [] (fun v h' => ∃ a k, v = some (.ref a) ∧ h.size ≤ a ∧ Arv Z h' a k .byte (6 : Int32) (StrChars.Road.wideBytes [c0, c1, c2]) (.int (0 : Int32))) := by
  refine Met.intro pf_6 hEL hX (fun _ q => nomatch q) ?_
  intro p e s m below meth c T W
  refine Goes.cast (show entryFrame m #[(.ref b), (.int (0 : Int32)), (.int (3 : Int32))] 5 = mkF m 0 #[.val (.ref b), .val (.int (0 : Int32)), .val (.int (3 : Int32)), .unset, .unset] [] by first | (simp [entryFrame, mkF, argsToLocals, Value.category]; done) | rfl) ?_
  refine g_iload_n W d_jdk_52_method_14_code_0 (pc' := 1) rfl rfl ?_
  have hXa := W.ext
  refine g_static W d_jdk_52_method_14_code_1 (pc' := 4) (fr' := []) (argsL := [(.int (3 : Int32))]) (rest := []) (Wd := 0) (kc := 1) (ks := 6) rfl (hw _ (List.mem_of_getElem? (i := 49) rfl)) (hw _ (List.mem_of_getElem? (i := 50) rfl)) (hw _ (List.mem_of_getElem? (i := 38) rfl)) (hw _ (List.mem_of_getElem? (i := 51) rfl)) (by decide) rfl rfl (lenOf pd_2 rfl) rfl all0 (by decide) (by decide) (Met.pays (rm_nbf_3 hw hEL Sc hzc _ W.ext) (hw _ (List.mem_of_getElem? (i := 51) rfl)) (hw _ (List.mem_of_getElem? (i := 38) rfl)) hEL (by decide) (by decide)) fun v6 T1 h3 W2 K4 q5 => ?_
  obtain ⟨d, kd, rfl, gd, Ad⟩ := q5
  show Goes _ _ _ _ _ _ _ _ _ _ _ T1 (mkF m 4 #[.val (.ref b), .val (.int (0 : Int32)), .val (.int (3 : Int32)), .unset, .unset] [(.ref d)])
  have W7 := W2.addByte (hw _ (List.mem_of_getElem? (i := 5) rfl)) (hT1 hw) Ad (by decide) (Nat.le_trans hXa.1 gd)
  refine g_astore_n W7 d_jdk_52_method_14_code_4 (pc' := 5) (L' := #[.val (.ref b), .val (.int (0 : Int32)), .val (.int (3 : Int32)), .val (.ref d), .unset]) rfl rfl rfl ?_
  refine g_iconst W7 d_jdk_52_method_14_code_5 (pc' := 6) (v := (0 : Int32)) rfl rfl ?_
  refine g_istore W7 d_jdk_52_method_14_code_6 (pc' := 8) (L' := #[.val (.ref b), .val (.int (0 : Int32)), .val (.int (3 : Int32)), .val (.ref d), .val (.int (0 : Int32))]) rfl rfl ?_
  refine g_iload W7 d_jdk_52_method_14_code_8 (pc' := 10) rfl rfl ?_
  refine g_iload_n W7 d_jdk_52_method_14_code_10 (pc' := 11) rfl rfl ?_
  refine g_icmpN W7 d_jdk_52_method_14_code_11 (pc' := 14) rfl (Jvm.Free.XT.ii_ge_f (by decide)) ?_
  refine g_aload_n W7 d_jdk_52_method_14_code_14 (pc' := 15) rfl rfl rfl ?_
  refine g_iload W7 d_jdk_52_method_14_code_15 (pc' := 17) rfl rfl ?_
  refine g_aload_n W7 d_jdk_52_method_14_code_17 (pc' := 18) rfl rfl rfl ?_
  refine g_iload_n W7 d_jdk_52_method_14_code_18 (pc' := 19) rfl rfl ?_
  have K8 : Keep h h3 [] := ((Keep.refl h []).trans K4 fun _ q => nomatch q)
  have F9 := A1.mv K8
  refine g_caload W7 d_jdk_52_method_14_code_19 (pc' := 20) rfl F9 ⟨by decide, by decide⟩ rfl ?_
  refine g_static W7 d_jdk_52_method_14_code_20 (pc' := 23) (fr' := [d]) (argsL := [(.ref d), (.int (0 : Int32)), (.int c0)]) (rest := []) (Wd := 0) (kc := 0) (ks := 0) rfl (hw _ (List.mem_of_getElem? (i := 56) rfl)) (hw _ (List.mem_of_getElem? (i := 57) rfl)) (hw _ (List.mem_of_getElem? (i := 38) rfl)) (hw _ (List.mem_of_getElem? (i := 58) rfl)) (by decide) rfl rfl (lenOf pd_3 rfl) rfl (allS (List.mem_of_getElem? (i := 0) rfl) (all0)) (by decide) (by decide) (Met.pays (rm_putChar hw hEL Sc hzc d kd (6 : Int32) (0 : Int32) c0 _ 0 1 _ W7.ext Sa Sh Sl (W7.frs d (List.mem_of_getElem? (i := 0) rfl)).1 Ad (by decide) (by decide) (Nat.le_of_ble_eq_true rfl) (by decide) (by decide) (Nat.le_of_ble_eq_true rfl)) (hw _ (List.mem_of_getElem? (i := 58) rfl)) (hw _ (List.mem_of_getElem? (i := 38) rfl)) hEL (by decide) (by decide)) fun v15 T10 h12 W11 K13 q14 => ?_
  obtain ⟨rfl, Ad0⟩ := q14
  show Goes _ _ _ _ _ _ _ _ _ _ _ T10 (mkF m 23 #[.val (.ref b), .val (.int (0 : Int32)), .val (.int (3 : Int32)), .val (.ref d), .val (.int (0 : Int32))] [])
  have Ae0 : Arv Z h12 d kd .byte (6 : Int32) [(.int (StrChars.lo8 c0)), (.int (StrChars.hi8 c0)), (.int (0 : Int32)), (.int (0 : Int32)), (.int (0 : Int32)), (.int (0 : Int32))] (.int (0 : Int32)) := Ad0
  refine g_iinc W11 d_jdk_52_method_14_code_23 (pc' := 26) (v := (1 : Int32)) (L' := #[.val (.ref b), .val (.int ((0 : Int32) + (1 : Int32))), .val (.int (3 : Int32)), .val (.ref d), .val (.int (0 : Int32))]) rfl rfl rfl rfl ?_
  refine g_iinc W11 d_jdk_52_method_14_code_26 (pc' := 29) (v := (1 : Int32)) (L' := #[.val (.ref b), .val (.int ((0 : Int32) + (1 : Int32))), .val (.int (3 : Int32)), .val (.ref d), .val (.int ((0 : Int32) + (1 : Int32)))]) rfl rfl rfl rfl ?_
  refine g_goto W11 d_jdk_52_method_14_code_29 (pc' := 8) (by decide) (by decide) ?_
  show Goes _ _ _ _ _ _ _ _ _ _ _ T10 (mkF m 8 #[.val (.ref b), .val (.int (1 : Int32)), .val (.int (3 : Int32)), .val (.ref d), .val (.int (1 : Int32))] [])
  refine g_iload W11 d_jdk_52_method_14_code_8 (pc' := 10) rfl rfl ?_
  refine g_iload_n W11 d_jdk_52_method_14_code_10 (pc' := 11) rfl rfl ?_
  refine g_icmpN W11 d_jdk_52_method_14_code_11 (pc' := 14) rfl (Jvm.Free.XT.ii_ge_f (by decide)) ?_
  refine g_aload_n W11 d_jdk_52_method_14_code_14 (pc' := 15) rfl rfl rfl ?_
  refine g_iload W11 d_jdk_52_method_14_code_15 (pc' := 17) rfl rfl ?_
  refine g_aload_n W11 d_jdk_52_method_14_code_17 (pc' := 18) rfl rfl rfl ?_
  refine g_iload_n W11 d_jdk_52_method_14_code_18 (pc' := 19) rfl rfl ?_
  have K16 : Keep h h12 [] := (((Keep.refl h []).trans K4 fun _ q => nomatch q).trans K13 fun x q => by cases List.mem_singleton.mp q; exact Or.inr gd)
  have F17 := A1.mv K16
  refine g_caload W11 d_jdk_52_method_14_code_19 (pc' := 20) rfl F17 ⟨by decide, by decide⟩ rfl ?_
  refine g_static W11 d_jdk_52_method_14_code_20 (pc' := 23) (fr' := [d]) (argsL := [(.ref d), (.int (1 : Int32)), (.int c1)]) (rest := []) (Wd := 0) (kc := 0) (ks := 0) rfl (hw _ (List.mem_of_getElem? (i := 56) rfl)) (hw _ (List.mem_of_getElem? (i := 57) rfl)) (hw _ (List.mem_of_getElem? (i := 38) rfl)) (hw _ (List.mem_of_getElem? (i := 58) rfl)) (by decide) rfl rfl (lenOf pd_3 rfl) rfl (allS (List.mem_of_getElem? (i := 0) rfl) (all0)) (by decide) (by decide) (Met.pays (rm_putChar hw hEL Sc hzc d kd (6 : Int32) (1 : Int32) c1 _ 2 3 _ W11.ext Sa Sh Sl (W11.frs d (List.mem_of_getElem? (i := 0) rfl)).1 Ae0 (by decide) (by decide) (Nat.le_of_ble_eq_true rfl) (by decide) (by decide) (Nat.le_of_ble_eq_true rfl)) (hw _ (List.mem_of_getElem? (i := 58) rfl)) (hw _ (List.mem_of_getElem? (i := 38) rfl)) hEL (by decide) (by decide)) fun v23 T18 h20 W19 K21 q22 => ?_
  obtain ⟨rfl, Ad1⟩ := q22
  show Goes _ _ _ _ _ _ _ _ _ _ _ T18 (mkF m 23 #[.val (.ref b), .val (.int (1 : Int32)), .val (.int (3 : Int32)), .val (.ref d), .val (.int (1 : Int32))] [])
  have Ae1 : Arv Z h20 d kd .byte (6 : Int32) [(.int (StrChars.lo8 c0)), (.int (StrChars.hi8 c0)), (.int (StrChars.lo8 c1)), (.int (StrChars.hi8 c1)), (.int (0 : Int32)), (.int (0 : Int32))] (.int (0 : Int32)) := Ad1
  refine g_iinc W19 d_jdk_52_method_14_code_23 (pc' := 26) (v := (1 : Int32)) (L' := #[.val (.ref b), .val (.int ((1 : Int32) + (1 : Int32))), .val (.int (3 : Int32)), .val (.ref d), .val (.int (1 : Int32))]) rfl rfl rfl rfl ?_
  refine g_iinc W19 d_jdk_52_method_14_code_26 (pc' := 29) (v := (1 : Int32)) (L' := #[.val (.ref b), .val (.int ((1 : Int32) + (1 : Int32))), .val (.int (3 : Int32)), .val (.ref d), .val (.int ((1 : Int32) + (1 : Int32)))]) rfl rfl rfl rfl ?_
  refine g_goto W19 d_jdk_52_method_14_code_29 (pc' := 8) (by decide) (by decide) ?_
  show Goes _ _ _ _ _ _ _ _ _ _ _ T18 (mkF m 8 #[.val (.ref b), .val (.int (2 : Int32)), .val (.int (3 : Int32)), .val (.ref d), .val (.int (2 : Int32))] [])
  refine g_iload W19 d_jdk_52_method_14_code_8 (pc' := 10) rfl rfl ?_
  refine g_iload_n W19 d_jdk_52_method_14_code_10 (pc' := 11) rfl rfl ?_
  refine g_icmpN W19 d_jdk_52_method_14_code_11 (pc' := 14) rfl (Jvm.Free.XT.ii_ge_f (by decide)) ?_
  refine g_aload_n W19 d_jdk_52_method_14_code_14 (pc' := 15) rfl rfl rfl ?_
  refine g_iload W19 d_jdk_52_method_14_code_15 (pc' := 17) rfl rfl ?_
  refine g_aload_n W19 d_jdk_52_method_14_code_17 (pc' := 18) rfl rfl rfl ?_
  refine g_iload_n W19 d_jdk_52_method_14_code_18 (pc' := 19) rfl rfl ?_
  have K24 : Keep h h20 [] := ((((Keep.refl h []).trans K4 fun _ q => nomatch q).trans K13 fun x q => by cases List.mem_singleton.mp q; exact Or.inr gd).trans K21 fun x q => by cases List.mem_singleton.mp q; exact Or.inr gd)
  have F25 := A1.mv K24
  refine g_caload W19 d_jdk_52_method_14_code_19 (pc' := 20) rfl F25 ⟨by decide, by decide⟩ rfl ?_
  refine g_static W19 d_jdk_52_method_14_code_20 (pc' := 23) (fr' := [d]) (argsL := [(.ref d), (.int (2 : Int32)), (.int c2)]) (rest := []) (Wd := 0) (kc := 0) (ks := 0) rfl (hw _ (List.mem_of_getElem? (i := 56) rfl)) (hw _ (List.mem_of_getElem? (i := 57) rfl)) (hw _ (List.mem_of_getElem? (i := 38) rfl)) (hw _ (List.mem_of_getElem? (i := 58) rfl)) (by decide) rfl rfl (lenOf pd_3 rfl) rfl (allS (List.mem_of_getElem? (i := 0) rfl) (all0)) (by decide) (by decide) (Met.pays (rm_putChar hw hEL Sc hzc d kd (6 : Int32) (2 : Int32) c2 _ 4 5 _ W19.ext Sa Sh Sl (W19.frs d (List.mem_of_getElem? (i := 0) rfl)).1 Ae1 (by decide) (by decide) (Nat.le_of_ble_eq_true rfl) (by decide) (by decide) (Nat.le_of_ble_eq_true rfl)) (hw _ (List.mem_of_getElem? (i := 58) rfl)) (hw _ (List.mem_of_getElem? (i := 38) rfl)) hEL (by decide) (by decide)) fun v31 T26 h28 W27 K29 q30 => ?_
  obtain ⟨rfl, Ad2⟩ := q30
  show Goes _ _ _ _ _ _ _ _ _ _ _ T26 (mkF m 23 #[.val (.ref b), .val (.int (2 : Int32)), .val (.int (3 : Int32)), .val (.ref d), .val (.int (2 : Int32))] [])
  have Ae2 : Arv Z h28 d kd .byte (6 : Int32) [(.int (StrChars.lo8 c0)), (.int (StrChars.hi8 c0)), (.int (StrChars.lo8 c1)), (.int (StrChars.hi8 c1)), (.int (StrChars.lo8 c2)), (.int (StrChars.hi8 c2))] (.int (0 : Int32)) := Ad2
  refine g_iinc W27 d_jdk_52_method_14_code_23 (pc' := 26) (v := (1 : Int32)) (L' := #[.val (.ref b), .val (.int ((2 : Int32) + (1 : Int32))), .val (.int (3 : Int32)), .val (.ref d), .val (.int (2 : Int32))]) rfl rfl rfl rfl ?_
  refine g_iinc W27 d_jdk_52_method_14_code_26 (pc' := 29) (v := (1 : Int32)) (L' := #[.val (.ref b), .val (.int ((2 : Int32) + (1 : Int32))), .val (.int (3 : Int32)), .val (.ref d), .val (.int ((2 : Int32) + (1 : Int32)))]) rfl rfl rfl rfl ?_
  refine g_goto W27 d_jdk_52_method_14_code_29 (pc' := 8) (by decide) (by decide) ?_
  show Goes _ _ _ _ _ _ _ _ _ _ _ T26 (mkF m 8 #[.val (.ref b), .val (.int (3 : Int32)), .val (.int (3 : Int32)), .val (.ref d), .val (.int (3 : Int32))] [])
  refine g_iload W27 d_jdk_52_method_14_code_8 (pc' := 10) rfl rfl ?_
  refine g_iload_n W27 d_jdk_52_method_14_code_10 (pc' := 11) rfl rfl ?_
  refine g_icmpY W27 d_jdk_52_method_14_code_11 (pc' := 32) (by decide) (by decide) (Jvm.Free.XT.ii_ge_t (by decide)) ?_
  refine g_aload_n W27 d_jdk_52_method_14_code_32 (pc' := 33) rfl rfl rfl ?_
  have K32 : Keep h h28 [] := (((((Keep.refl h []).trans K4 fun _ q => nomatch q).trans K13 fun x q => by cases List.mem_singleton.mp q; exact Or.inr gd).trans K21 fun x q => by cases List.mem_singleton.mp q; exact Or.inr gd).trans K29 fun x q => by cases List.mem_singleton.mp q; exact Or.inr gd)
  exact g_areturn W27 d_jdk_52_method_14_code_33 rfl rfl rfl K32 ⟨_, _, rfl, gd, Ae2⟩ (by decide) (by decide)
set_option maxRecDepth 65536 in
set_option maxHeartbeats 40000000 in
theorem rm_cfa_3 {l : Launch} {Z : State} {a0 : Array Value} (hw : ∀ d ∈ tables_1, d.before a0 Z = true) (hEL : EW Z a0 EL1) {zc : Int32} (Sc : Sta Z Z.heap "java/lang/String" "COMPACT_STRINGS" "Z" (.int zc)) (hzc : ¬ zc = 0) (d : Addr) (kd : ClassId) (vs : List Value) (dv : Value) (h : Heap) (hX : Ext Z.heap h) (A : Arv Z h d kd .byte (6 : Int32) vs dv) : Met l Z EL1 NW (⟨"java/lang/StringUTF16", "coderFromArrayLen", "([BI)B"⟩ : MethodName) jdk_52_method_15_code 2 (some .byte) [] ({ frames := 0, cells := 0, slots := 0, locals := 0 } : Room) #[(.ref d), (.int (3 : Int32))] h [] (fun v h' => h = h' ∧ v = some (.int (1 : Int32))) := by
  refine Met.intro pf_7 hEL hX (fun _ q => nomatch q) ?_
  intro p e s m below meth c T W
  refine Goes.cast (show entryFrame m #[(.ref d), (.int (3 : Int32))] 2 = mkF m 0 #[.val (.ref d), .val (.int (3 : Int32))] [] by first | (simp [entryFrame, mkF, argsToLocals, Value.category]; done) | rfl) ?_
  refine g_iload_n W d_jdk_52_method_15_code_0 (pc' := 1) rfl rfl ?_
  refine g_aload_n W d_jdk_52_method_15_code_1 (pc' := 2) rfl rfl rfl ?_
  refine g_arraylength W d_jdk_52_method_15_code_2 (pc' := 3) rfl A ?_
  refine g_isub W d_jdk_52_method_15_code_3 (pc' := 4) rfl ?_
  refine g_bipush W d_jdk_52_method_15_code_4 (pc' := 6) (v := (31 : Int32)) rfl (by decide) ?_
  refine g_iushr W d_jdk_52_method_15_code_6 (pc' := 7) rfl ?_
  refine g_i2b W d_jdk_52_method_15_code_7 (pc' := 8) rfl ?_
  rw [show ((((3 : Int32) - (6 : Int32)).toUInt32 >>> ((31 : Int32) &&& 31).toUInt32).toInt32).toInt8.toInt32 = (1 : Int32) from by decide]
  exact g_ireturn W d_jdk_52_method_15_code_8 (by decide) rfl (Keep.refl h []) ⟨rfl, rfl⟩ (by decide) (by decide)
set_option maxRecDepth 65536 in
set_option maxHeartbeats 40000000 in
theorem rm_cl_3_0 {l : Launch} {Z : State} {a0 : Array Value} (hw : ∀ d ∈ tables_1, d.before a0 Z = true) (hEL : EW Z a0 EL1) {zc : Int32} (Sc : Sta Z Z.heap "java/lang/String" "COMPACT_STRINGS" "Z" (.int zc)) (hzc : ¬ zc = 0) (b t : Addr) (kb kt : ClassId) (db : Value) (c0 c1 c2 : Int32) (h : Heap) (hX : Ext Z.heap h) (A1 : Arv Z h b kb .char (3 : Int32) [(.int c0), (.int c1), (.int c2)] db) (A2 : Arv Z h t kt .byte (3 : Int32) [(.int (0 : Int32)), (.int (0 : Int32)), (.int (0 : Int32))] (.int (0 : Int32))) (nbt : b ≠ t) (gt : Z.heap.size ≤ t) (q0 : (255 : Int32) < c0) : Met l Z EL1 NW (⟨"java/lang/StringUTF16", "compress", "([CI[BII)I"⟩ : MethodName) jdk_52_method_21_code 7 (some .int) [] ({ frames := 0, cells := 0, slots := 0, locals := 0 } : Room) #[(.ref b), (.int (0 : Int32)), (.ref t), (.int (0 : Int32)), (.int (3 : Int32))] h [t] (fun v _ => v = some (.int (0 : Int32))) := by
  refine Met.intro pf_8 hEL hX (allS ⟨gt, A2.lt⟩ all0) ?_
  intro p e s m below meth c T W
  refine Goes.cast (show entryFrame m #[(.ref b), (.int (0 : Int32)), (.ref t), (.int (0 : Int32)), (.int (3 : Int32))] 7 = mkF m 0 #[.val (.ref b), .val (.int (0 : Int32)), .val (.ref t), .val (.int (0 : Int32)), .val (.int (3 : Int32)), .unset, .unset] [] by first | (simp [entryFrame, mkF, argsToLocals, Value.category]; done) | rfl) ?_
  refine g_iconst W d_jdk_52_method_21_code_0 (pc' := 1) (v := (0 : Int32)) rfl rfl ?_
  refine g_istore W d_jdk_52_method_21_code_1 (pc' := 3) (L' := #[.val (.ref b), .val (.int (0 : Int32)), .val (.ref t), .val (.int (0 : Int32)), .val (.int (3 : Int32)), .val (.int (0 : Int32)), .unset]) rfl rfl ?_
  refine g_iload W d_jdk_52_method_21_code_3 (pc' := 5) rfl rfl ?_
  refine g_iload W d_jdk_52_method_21_code_5 (pc' := 7) rfl rfl ?_
  refine g_icmpN W d_jdk_52_method_21_code_7 (pc' := 10) rfl (Jvm.Free.XT.ii_ge_f (by decide)) ?_
  refine g_aload_n W d_jdk_52_method_21_code_10 (pc' := 11) rfl rfl rfl ?_
  refine g_iload_n W d_jdk_52_method_21_code_11 (pc' := 12) rfl rfl ?_
  refine g_caload W d_jdk_52_method_21_code_12 (pc' := 13) rfl A1 ⟨by decide, by decide⟩ rfl ?_
  refine g_istore W d_jdk_52_method_21_code_13 (pc' := 15) (L' := #[.val (.ref b), .val (.int (0 : Int32)), .val (.ref t), .val (.int (0 : Int32)), .val (.int (3 : Int32)), .val (.int (0 : Int32)), .val (.int c0)]) rfl rfl ?_
  refine g_iload W d_jdk_52_method_21_code_15 (pc' := 17) rfl rfl ?_
  refine g_sipush W d_jdk_52_method_21_code_17 (pc' := 20) (v := (255 : Int32)) rfl (by decide) ?_
  refine g_icmpN W d_jdk_52_method_21_code_20 (pc' := 23) rfl (Jvm.Free.XT.ii_le_f q0) ?_
  refine g_iload W d_jdk_52_method_21_code_23 (pc' := 25) rfl rfl ?_
  exact g_ireturn W d_jdk_52_method_21_code_25 (by decide) rfl (Keep.refl h [t]) rfl (by decide) (by decide)
set_option maxRecDepth 65536 in
set_option maxHeartbeats 40000000 in
theorem rm_c16_3_0 {l : Launch} {Z : State} {a0 : Array Value} (hw : ∀ d ∈ tables_1, d.before a0 Z = true) (hEL : EW Z a0 EL1) {zc : Int32} (Sc : Sta Z Z.heap "java/lang/String" "COMPACT_STRINGS" "Z" (.int zc)) (hzc : ¬ zc = 0) (b : Addr) (kb : ClassId) (db : Value) (c0 c1 c2 : Int32) (h : Heap) (hX : Ext Z.heap h) (Sa : Sta Z Z.heap "java/lang/StringUTF16" "$assertionsDisabled" "Z" (.int (1 : Int32))) (Sh : Sta Z Z.heap "java/lang/StringUTF16" "HI_BYTE_SHIFT" "I" (.int (0 : Int32))) (Sl : Sta Z Z.heap "java/lang/StringUTF16" "LO_BYTE_SHIFT" "I" (.int (8 : Int32))) (A1 : Arv Z h b kb .char (3 : Int32) [(.int c0), (.int c1), (.int c2)] db) (r0 : ¬ c0 < 0 ∧ ¬ (65535 : Int32) < c0) (r1 : ¬ c1 < 0 ∧ ¬ (65535 : Int32) < c1) (r2 : ¬ c2 < 0 ∧ ¬ (65535 : Int32) < c2) (q0 : (255 : Int32) < c0) : Met l Z EL1 NW (⟨"java/lang/StringUTF16", "compress", "([CII)[B"⟩ : MethodName) jdk_52_method_16_code 6 (some (.array .byte)) [] ({ frames := 3, cells := 2, slots := 9, locals := 50 } : Room) #[(.ref b), (.int (0 : Int32)), (.int (3 : Int32))] h [] (fun v h' => ∃ a k, v = some (.ref a) ∧ h.size ≤ a ∧ Arv Z h' a k .byte (6 : Int32) (StrChars.Road.wideBytes [c0, c1, c2]) (.int (0 : Int32))) := by
  refine Met.intro pf_9 hEL hX (fun _ q => nomatch q) ?_
  intro p e s m below meth c T W
  refine Goes.cast (show entryFrame m #[(.ref b), (.int (0 : Int32)), (.int (3 : Int32))] 6 = mkF m 0 #[.val (.ref b), .val (.int (0 : Int32)), .val (.int (3 : Int32)), .unset, .unset, .unset] [] by first | (simp [entryFrame, mkF, argsToLocals, Value.category]; done) | rfl) ?_
  refine g_iload_n W d_jdk_52_method_16_code_0 (pc' := 1) rfl rfl ?_
  refine g_newarray W d_jdk_52_method_16_code_1 (pc' := 3) (cap := 3) rfl (hw _ (List.mem_of_getElem? (i := 19) rfl)) (by decide) (by decide) (by decide) (by decide) (by decide) fun T1 h3 t kA7 g4 W2 E5 A6 => ?_
  have A8 : Arv Z h3 t kA7 .byte (3 : Int32) [(.int (0 : Int32)), (.int (0 : Int32)), (.int (0 : Int32))] (.int (0 : Int32)) := A6.pad (pad_rep [] (.int (0 : Int32)) 3)
  refine g_astore_n W2 d_jdk_52_method_16_code_3 (pc' := 4) (L' := #[.val (.ref b), .val (.int (0 : Int32)), .val (.int (3 : Int32)), .val (.ref t), .unset, .unset]) rfl rfl rfl ?_
  refine g_aload_n W2 d_jdk_52_method_16_code_4 (pc' := 5) rfl rfl rfl ?_
  refine g_iload_n W2 d_jdk_52_method_16_code_5 (pc' := 6) rfl rfl ?_
  refine g_aload_n W2 d_jdk_52_method_16_code_6 (pc' := 7) rfl rfl rfl ?_
  refine g_iconst W2 d_jdk_52_method_16_code_7 (pc' := 8) (v := (0 : Int32)) rfl rfl ?_
  refine g_iload_n W2 d_jdk_52_method_16_code_8 (pc' := 9) rfl rfl ?_
  have nbt : b ≠ t := Nat.ne_of_lt (Nat.lt_of_lt_of_le A1.lt (Nat.le_of_eq g4.symm))
  have hXa := W2.ext
  have K15 : Keep h h3 [] := ((Keep.refl h []).ext E5)
  have F16 := A1.mv K15
  refine g_static W2 d_jdk_52_method_16_code_9 (pc' := 12) (fr' := [t]) (argsL := [(.ref b), (.int (0 : Int32)), (.ref t), (.int (0 : Int32)), (.int (3 : Int32))]) (rest := []) (Wd := 0) (kc := 0) (ks := 0) rfl (hw _ (List.mem_of_getElem? (i := 40) rfl)) (hw _ (List.mem_of_getElem? (i := 41) rfl)) (hw _ (List.mem_of_getElem? (i := 38) rfl)) (hw _ (List.mem_of_getElem? (i := 42) rfl)) (by decide) rfl rfl (lenOf pd_4 rfl) rfl (allS (List.mem_of_getElem? (i := 0) rfl) (all0)) (by decide) (by decide) (Met.pays (rm_cl_3_0 hw hEL Sc hzc b t kb _ db c0 c1 c2 _ W2.ext F16 A8 nbt (W2.frs t (List.mem_of_getElem? (i := 0) rfl)).1 q0) (hw _ (List.mem_of_getElem? (i := 42) rfl)) (hw _ (List.mem_of_getElem? (i := 38) rfl)) hEL (by decide) (by decide)) fun v14 T9 h11 W10 K12 q13 => ?_
  obtain rfl := q13
  show Goes _ _ _ _ _ _ _ _ _ _ _ T9 (mkF m 12 #[.val (.ref b), .val (.int (0 : Int32)), .val (.int (3 : Int32)), .val (.ref t), .unset, .unset] [(.int (0 : Int32))])
  refine g_istore W10 d_jdk_52_method_16_code_12 (pc' := 14) (L' := #[.val (.ref b), .val (.int (0 : Int32)), .val (.int (3 : Int32)), .val (.ref t), .val (.int (0 : Int32)), .unset]) rfl rfl ?_
  refine g_iload W10 d_jdk_52_method_16_code_14 (pc' := 16) rfl rfl ?_
  refine g_iload_n W10 d_jdk_52_method_16_code_16 (pc' := 17) rfl rfl ?_
  refine g_icmpN W10 d_jdk_52_method_16_code_17 (pc' := 20) rfl (Jvm.Free.XT.ii_eq_f (by decide)) ?_
  refine g_aload_n W10 d_jdk_52_method_16_code_20 (pc' := 21) rfl rfl rfl ?_
  refine g_iload_n W10 d_jdk_52_method_16_code_21 (pc' := 22) rfl rfl ?_
  refine g_iload_n W10 d_jdk_52_method_16_code_22 (pc' := 23) rfl rfl ?_
  have K23 : Keep h h11 [] := (((Keep.refl h []).ext E5).trans K12 fun x q => by cases List.mem_singleton.mp q; exact Or.inr (Nat.le_of_eq g4.symm))
  have F24 := A1.mv K23
  refine g_static W10 d_jdk_52_method_16_code_23 (pc' := 26) (fr' := []) (argsL := [(.ref b), (.int (0 : Int32)), (.int (3 : Int32))]) (rest := []) (Wd := 0) (kc := 1) (ks := 6) rfl (hw _ (List.mem_of_getElem? (i := 46) rfl)) (hw _ (List.mem_of_getElem? (i := 47) rfl)) (hw _ (List.mem_of_getElem? (i := 38) rfl)) (hw _ (List.mem_of_getElem? (i := 48) rfl)) (by decide) rfl rfl (lenOf pd_5 rfl) rfl all0 (by decide) (by decide) (Met.pays (rm_tb_3 hw hEL Sc hzc b kb db c0 c1 c2 _ W10.ext Sa Sh Sl F24) (hw _ (List.mem_of_getElem? (i := 48) rfl)) (hw _ (List.mem_of_getElem? (i := 38) rfl)) hEL (by decide) (by decide)) fun v22 T17 h19 W18 K20 q21 => ?_
  obtain ⟨d, kd, rfl, gd, Ad⟩ := q21
  show Goes _ _ _ _ _ _ _ _ _ _ _ T17 (mkF m 26 #[.val (.ref b), .val (.int (0 : Int32)), .val (.int (3 : Int32)), .val (.ref t), .val (.int (0 : Int32)), .unset] [(.ref d)])
  refine g_astore W18 d_jdk_52_method_16_code_26 (pc' := 28) (L' := #[.val (.ref b), .val (.int (0 : Int32)), .val (.int (3 : Int32)), .val (.ref t), .val (.int (0 : Int32)), .val (.ref d)]) rfl rfl rfl ?_
  refine g_aload W18 d_jdk_52_method_16_code_28 (pc' := 30) rfl rfl rfl ?_
  refine g_iload W18 d_jdk_52_method_16_code_30 (pc' := 32) rfl rfl ?_
  refine g_static W18 d_jdk_52_method_16_code_32 (pc' := 35) (fr' := []) (argsL := [(.ref d), (.int (0 : Int32))]) (rest := []) (Wd := 0) (kc := 0) (ks := 0) rfl (hw _ (List.mem_of_getElem? (i := 62) rfl)) (hw _ (List.mem_of_getElem? (i := 63) rfl)) (hw _ (List.mem_of_getElem? (i := 38) rfl)) (hw _ (List.mem_of_getElem? (i := 64) rfl)) (by decide) rfl rfl (lenOf pd_6 rfl) rfl all0 (by decide) (by decide) (Met.pays (rm_getChar hw hEL Sc hzc d kd (6 : Int32) (0 : Int32) c0 _ _ W18.ext Sa Sh Sl Ad (by decide) rfl (by decide) rfl r0) (hw _ (List.mem_of_getElem? (i := 64) rfl)) (hw _ (List.mem_of_getElem? (i := 38) rfl)) hEL (by decide) (by decide)) fun v30 T25 h27 W26 K28 q29 => ?_
  obtain ⟨rfl, rfl⟩ := q29
  show Goes _ _ _ _ _ _ _ _ _ _ _ T25 (mkF m 35 #[.val (.ref b), .val (.int (0 : Int32)), .val (.int (3 : Int32)), .val (.ref t), .val (.int (0 : Int32)), .val (.ref d)] [(.int c0)])
  refine g_sipush W26 d_jdk_52_method_16_code_35 (pc' := 38) (v := (255 : Int32)) rfl (by decide) ?_
  refine g_icmpY W26 d_jdk_52_method_16_code_38 (pc' := 54) (by decide) (by decide) (Jvm.Free.XT.ii_gt_t q0) ?_
  refine g_aload W26 d_jdk_52_method_16_code_54 (pc' := 56) rfl rfl rfl ?_
  have K31 : Keep h h19 [] := ((((Keep.refl h []).ext E5).trans K12 fun x q => by cases List.mem_singleton.mp q; exact Or.inr (Nat.le_of_eq g4.symm)).trans K20 fun _ q => nomatch q)
  exact g_areturn W26 d_jdk_52_method_16_code_56 rfl rfl rfl K31 ⟨_, _, rfl, Nat.le_trans K23.1 gd, Ad⟩ (by decide) (by decide)
set_option maxRecDepth 65536 in
set_option maxHeartbeats 40000000 in
theorem rm_new4_3_0 {l : Launch} {Z : State} {a0 : Array Value} (hw : ∀ d ∈ tables_1, d.before a0 Z = true) (hEL : EW Z a0 EL1) {zc : Int32} (Sc : Sta Z Z.heap "java/lang/String" "COMPACT_STRINGS" "Z" (.int zc)) (hzc : ¬ zc = 0) (a1 b : Addr) (kb : ClassId) (db : Value) (c0 c1 c2 : Int32) (h : Heap) (hX : Ext Z.heap h) (Sa : Sta Z Z.heap "java/lang/StringUTF16" "$assertionsDisabled" "Z" (.int (1 : Int32))) (Sh : Sta Z Z.heap "java/lang/StringUTF16" "HI_BYTE_SHIFT" "I" (.int (0 : Int32))) (Sl : Sta Z Z.heap "java/lang/StringUTF16" "LO_BYTE_SHIFT" "I" (.int (8 : Int32))) (g1 : Z.heap.size ≤ a1) (O1 : Obj Z h a1 "java/lang/String" [(("java/lang/String", "value", "[B"), .null), (("java/lang/String", "coder", "B"), (.int 0))]) (A1 : Arv Z h b kb .char (3 : Int32) [(.int c0), (.int c1), (.int c2)] db) (r0 : ¬ c0 < 0 ∧ ¬ (65535 : Int32) < c0) (r1 : ¬ c1 < 0 ∧ ¬ (65535 : Int32) < c1) (r2 : ¬ c2 < 0 ∧ ¬ (65535 : Int32) < c2) (q0 : (255 : Int32) < c0) : Met l Z EL1 NW (⟨"java/lang/String", "<init>", "([CIILjava/lang/Void;)V"⟩ : MethodName) jdk_42_method_149_code 6 none [] ({ frames := 4, cells := 2, slots := 9, locals := 70 } : Room) #[(.ref a1), (.ref b), (.int (0 : Int32)), (.int (3 : Int32)), .null] h [a1] (fun v h' => v = none ∧ Str Z h' a1 [c0, c1, c2]) := by
  refine Met.intro pf_0 hEL hX (allS ⟨g1, O1.lt⟩ all0) ?_
  intro p e s m below meth c T W
  refine Goes.cast (show entryFrame m #[(.ref a1), (.ref b), (.int (0 : Int32)), (.int (3 : Int32)), .null] 6 = mkF m 0 #[.val (.ref a1), .val (.ref b), .val (.int (0 : Int32)), .val (.int (3 : Int32)), .val .null, .unset] [] by first | (simp [entryFrame, mkF, argsToLocals, Value.category]; done) | rfl) ?_
  refine g_aload_n W d_jdk_42_method_149_code_0 (pc' := 1) rfl rfl rfl ?_
  refine g_initO W d_jdk_42_method_149_code_1 (pc' := 4) (Wd := 0) rfl (hw _ (List.mem_of_getElem? (i := 15) rfl)) (hw _ (List.mem_of_getElem? (i := 16) rfl)) (hw _ (List.mem_of_getElem? (i := 17) rfl)) rfl rfl (by decide) (by decide) fun T1 W2 => ?_
  refine g_iload_n W2 d_jdk_42_method_149_code_4 (pc' := 5) rfl rfl ?_
  refine g_ifY W2 d_jdk_42_method_149_code_5 (pc' := 27) (by decide) (by decide) (Jvm.Free.XT.i0_ne_t (by decide)) ?_
  refine g_getstatic W2 d_jdk_42_method_149_code_27 (pc' := 30) rfl (hw _ (List.mem_of_getElem? (i := 35) rfl)) Via.refl Sc fun T3 W4 => ?_
  refine g_ifN W4 d_jdk_42_method_149_code_30 (pc' := 33) rfl (Jvm.Free.XT.i0_eq_f hzc) ?_
  refine g_aload_n W4 d_jdk_42_method_149_code_33 (pc' := 34) rfl rfl rfl ?_
  refine g_iload_n W4 d_jdk_42_method_149_code_34 (pc' := 35) rfl rfl ?_
  refine g_iload_n W4 d_jdk_42_method_149_code_35 (pc' := 36) rfl rfl ?_
  refine g_static W4 d_jdk_42_method_149_code_36 (pc' := 39) (fr' := []) (argsL := [(.ref b), (.int (0 : Int32)), (.int (3 : Int32))]) (rest := []) (Wd := 0) (kc := 2) (ks := 9) rfl (hw _ (List.mem_of_getElem? (i := 36) rfl)) (hw _ (List.mem_of_getElem? (i := 37) rfl)) (hw _ (List.mem_of_getElem? (i := 38) rfl)) (hw _ (List.mem_of_getElem? (i := 39) rfl)) (by decide) rfl rfl (lenOf pd_5 rfl) rfl all0 (by decide) (by decide) (Met.pays (rm_c16_3_0 hw hEL Sc hzc b kb db c0 c1 c2 _ W4.ext Sa Sh Sl A1 r0 r1 r2 q0) (hw _ (List.mem_of_getElem? (i := 39) rfl)) (hw _ (List.mem_of_getElem? (i := 38) rfl)) hEL (by decide) (by decide)) fun v10 T5 h7 W6 K8 q9 => ?_
  obtain ⟨d, kd, rfl, gd, Ad⟩ := q9
  show Goes _ _ _ _ _ _ _ _ _ _ _ T5 (mkF m 39 #[.val (.ref a1), .val (.ref b), .val (.int (0 : Int32)), .val (.int (3 : Int32)), .val .null, .unset] [(.ref d)])
  have nda : d ≠ a1 := Nat.ne_of_gt (Nat.lt_of_lt_of_le O1.lt gd)
  refine g_astore W6 d_jdk_42_method_149_code_39 (pc' := 41) (L' := #[.val (.ref a1), .val (.ref b), .val (.int (0 : Int32)), .val (.int (3 : Int32)), .val .null, .val (.ref d)]) rfl rfl rfl ?_
  refine g_aload_n W6 d_jdk_42_method_149_code_41 (pc' := 42) rfl rfl rfl ?_
  refine g_aload W6 d_jdk_42_method_149_code_42 (pc' := 44) rfl rfl rfl ?_
  refine g_iload_n W6 d_jdk_42_method_149_code_44 (pc' := 45) rfl rfl ?_
  refine g_static W6 d_jdk_42_method_149_code_45 (pc' := 48) (fr' := []) (argsL := [(.ref d), (.int (3 : Int32))]) (rest := [(.ref a1)]) (Wd := 1) (kc := 0) (ks := 0) rfl (hw _ (List.mem_of_getElem? (i := 43) rfl)) (hw _ (List.mem_of_getElem? (i := 44) rfl)) (hw _ (List.mem_of_getElem? (i := 38) rfl)) (hw _ (List.mem_of_getElem? (i := 45) rfl)) (by decide) rfl rfl (lenOf pd_7 rfl) rfl all0 (by decide) (by decide) (Met.pays (rm_cfa_3 hw hEL Sc hzc d kd _ _ _ W6.ext Ad) (hw _ (List.mem_of_getElem? (i := 45) rfl)) (hw _ (List.mem_of_getElem? (i := 38) rfl)) hEL (by decide) (by decide)) fun v16 T11 h13 W12 K14 q15 => ?_
  obtain ⟨rfl, rfl⟩ := q15
  show Goes _ _ _ _ _ _ _ _ _ _ _ T11 (mkF m 48 #[.val (.ref a1), .val (.ref b), .val (.int (0 : Int32)), .val (.int (3 : Int32)), .val .null, .val (.ref d)] [(.int (1 : Int32)), (.ref a1)])
  have K22 : Keep h h7 [] := ((Keep.refl h []).trans K8 fun _ q => nomatch q)
  have F23 := O1.mv K22
  refine g_putfield W12 d_jdk_42_method_149_code_48 (pc' := 51) (host := "") (ty := .byte) rfl (Or.inl (hw _ (List.mem_of_getElem? (i := 25) rfl))) Via.refl (F23.get 1 rfl) F23.1 (Or.inr ⟨(hw _ (List.mem_of_getElem? (i := 21) rfl)), rfl, rfl⟩) (hw _ (List.mem_of_getElem? (i := 5) rfl)) (by decide) rfl rfl (List.mem_of_getElem? (i := 0) rfl) fun T17 h19 W18 R20 => ?_
  have O21 : Obj Z h19 a1 "java/lang/String" [(("java/lang/String", "value", "[B"), .null), (("java/lang/String", "coder", "B"), (.int (1 : Int32)))] := F23.put R20 1 rfl (dis_Str hw)
  refine g_aload_n W18 d_jdk_42_method_149_code_51 (pc' := 52) rfl rfl rfl ?_
  refine g_aload W18 d_jdk_42_method_149_code_52 (pc' := 54) rfl rfl rfl ?_
  refine g_putfield W18 d_jdk_42_method_149_code_54 (pc' := 57) (host := "") (ty := (.array .byte)) rfl (Or.inl (hw _ (List.mem_of_getElem? (i := 24) rfl))) Via.refl (O21.get 0 rfl) O21.1 (Or.inr ⟨(hw _ (List.mem_of_getElem? (i := 20) rfl)), rfl, rfl⟩) (hw _ (List.mem_of_getElem? (i := 5) rfl)) (by decide) rfl rfl (List.mem_of_getElem? (i := 0) rfl) fun T24 h26 W25 R27 => ?_
  have O28 : Obj Z h26 a1 "java/lang/String" [(("java/lang/String", "value", "[B"), (.ref d)), (("java/lang/String", "coder", "B"), (.int (1 : Int32)))] := O21.put R27 0 rfl (dis_Str hw)
  have K29 : Keep h7 h26 [a1] := (((Keep.refl h7 [a1]).wr R20 (Or.inl (List.mem_of_getElem? (i := 0) rfl))).wr R27 (Or.inl (List.mem_of_getElem? (i := 0) rfl)))
  have F30 := Ad.keep K29 (ninS nda nin0)
  have K31 : Keep h h26 [a1] := ((((Keep.refl h [a1]).trans K8 fun _ q => nomatch q).wr R20 (Or.inl (List.mem_of_getElem? (i := 0) rfl))).wr R27 (Or.inl (List.mem_of_getElem? (i := 0) rfl)))
  exact g_return W25 d_jdk_42_method_149_code_57 K31 ⟨rfl, ⟨_, _, _, _, _, O28.1, O28.get 0 rfl, O28.get 1 rfl, F30, Or.inr ⟨rfl, rfl, rfl, c0, List.mem_of_getElem? (i := 0) rfl, q0⟩, (rngC r0 (rngC r1 (rngC r2 rngN))), Nat.le_of_ble_eq_true rfl⟩⟩ (by decide) (by decide)
set_option maxRecDepth 65536 in
set_option maxHeartbeats 40000000 in
theorem rm_new1_3_0 {l : Launch} {Z : State} {a0 : Array Value} (hw : ∀ d ∈ tables_1, d.before a0 Z = true) (hEL : EW Z a0 EL1) {zc : Int32} (Sc : Sta Z Z.heap "java/lang/String" "COMPACT_STRINGS" "Z" (.int zc)) (hzc : ¬ zc = 0) (a1 b : Addr) (kb : ClassId) (db : Value) (c0 c1 c2 : Int32) (h : Heap) (hX : Ext Z.heap h) (Sa : Sta Z Z.heap "java/lang/StringUTF16" "$assertionsDisabled" "Z" (.int (1 : Int32))) (Sh : Sta Z Z.heap "java/lang/StringUTF16" "HI_BYTE_SHIFT" "I" (.int (0 : Int32))) (Sl : Sta Z Z.heap "java/lang/StringUTF16" "LO_BYTE_SHIFT" "I" (.int (8 : Int32))) (g1 : Z.heap.size ≤ a1) (O1 : Obj Z h a1 "java/lang/String" [(("java/lang/String", "value", "[B"), .null), (("java/lang/String", "coder", "B"), (.int 0))]) (A1 : Arv Z h b kb .char (3 : Int32) [(.int c0), (.int c1), (.int c2)] db) (r0 : ¬ c0 < 0 ∧ ¬ (65535 : Int32) < c0) (r1 : ¬ c1 < 0 ∧ ¬ (65535 : Int32) < c1) (r2 : ¬ c2 < 0 ∧ ¬ (65535 : Int32) < c2) (q0 : (255 : Int32) < c0) : Met l Z EL1 NW (⟨"java/lang/String", "<init>", "([C)V"⟩ : MethodName) jdk_42_method_3_code 2 none [] ({ frames := 5, cells := 2, slots := 9, locals := 90 } : Room) #[(.ref a1), (.ref b)] h [a1] (fun v h' => v = none ∧ Str Z h' a1 [c0, c1, c2]) := by
  refine Met.intro pf_1 hEL hX (allS ⟨g1, O1.lt⟩ all0) ?_
  intro p e s m below meth c T W
  refine Goes.cast (show entryFrame m #[(.ref a1), (.ref b)] 2 = mkF m 0 #[.val (.ref a1), .val (.ref b)] [] by first | (simp [entryFrame, mkF, argsToLocals, Value.category]; done) | rfl) ?_
  refine g_aload_n W d_jdk_42_method_3_code_0 (pc' := 1) rfl rfl rfl ?_
  refine g_aload_n W d_jdk_42_method_3_code_1 (pc' := 2) rfl rfl rfl ?_
  refine g_iconst W d_jdk_42_method_3_code_2 (pc' := 3) (v := (0 : Int32)) rfl rfl ?_
  refine g_aload_n W d_jdk_42_method_3_code_3 (pc' := 4) rfl rfl rfl ?_
  refine g_arraylength W d_jdk_42_method_3_code_4 (pc' := 5) rfl A1 ?_
  refine g_aconst_null W d_jdk_42_method_3_code_5 (pc' := 6) rfl ?_
  refine g_special W d_jdk_42_method_3_code_6 (pc' := 9) (a := a1) (fr' := [a1]) (argsL := [(.ref b), (.int (0 : Int32)), (.int (3 : Int32)), .null]) (rest := []) (Wd := 0) (kc := 2) (ks := 9) rfl rfl (hw _ (List.mem_of_getElem? (i := 11) rfl)) (hw _ (List.mem_of_getElem? (i := 12) rfl)) (hw _ (List.mem_of_getElem? (i := 14) rfl)) (by decide) rfl rfl (lenOf pd_0 rfl) rfl (allS (List.mem_of_getElem? (i := 0) rfl) (all0)) (by decide) (by decide) (Met.pays (rm_new4_3_0 hw hEL Sc hzc a1 b kb db c0 c1 c2 _ W.ext Sa Sh Sl g1 O1 A1 r0 r1 r2 q0) (hw _ (List.mem_of_getElem? (i := 14) rfl)) (hw _ (List.mem_of_getElem? (i := 6) rfl)) hEL (by decide) (by decide)) fun v6 T1 h3 W2 K4 q5 => ?_
  obtain ⟨rfl, S1⟩ := q5
  show Goes _ _ _ _ _ _ _ _ _ _ _ T1 (mkF m 9 #[.val (.ref a1), .val (.ref b)] [])
  have K7 : Keep h h3 [a1] := ((Keep.refl h [a1]).trans K4 fun x q => by cases List.mem_singleton.mp q; exact Or.inl (List.mem_of_getElem? (i := 0) rfl))
  exact g_return W2 d_jdk_42_method_3_code_9 K7 ⟨rfl, S1⟩ (by decide) (by decide)
set_option maxRecDepth 65536 in
set_option maxHeartbeats 40000000 in
theorem rm_cl_3_1 {l : Launch} {Z : State} {a0 : Array Value} (hw : ∀ d ∈ tables_1, d.before a0 Z = true) (hEL : EW Z a0 EL1) {zc : Int32} (Sc : Sta Z Z.heap "java/lang/String" "COMPACT_STRINGS" "Z" (.int zc)) (hzc : ¬ zc = 0) (b t : Addr) (kb kt : ClassId) (db : Value) (c0 c1 c2 : Int32) (h : Heap) (hX : Ext Z.heap h) (A1 : Arv Z h b kb .char (3 : Int32) [(.int c0), (.int c1), (.int c2)] db) (A2 : Arv Z h t kt .byte (3 : Int32) [(.int (0 : Int32)), (.int (0 : Int32)), (.int (0 : Int32))] (.int (0 : Int32))) (nbt : b ≠ t) (gt : Z.heap.size ≤ t) (q0 : ¬ (255 : Int32) < c0) (q1 : (255 : Int32) < c1) : Met l Z EL1 NW (⟨"java/lang/StringUTF16", "compress", "([CI[BII)I"⟩ : MethodName) jdk_52_method_21_code 7 (some .int) [] ({ frames := 0, cells := 0, slots := 0, locals := 0 } : Room) #[(.ref b), (.int (0 : Int32)), (.ref t), (.int (0 : Int32)), (.int (3 : Int32))] h [t] (fun v _ => v = some (.int (1 : Int32))) := by
  refine Met.intro pf_8 hEL hX (allS ⟨gt, A2.lt⟩ all0) ?_
  intro p e s m below meth c T W
  refine Goes.cast (show entryFrame m #[(.ref b), (.int (0 : Int32)), (.ref t), (.int (0 : Int32)), (.int (3 : Int32))] 7 = mkF m 0 #[.val (.ref b), .val (.int (0 : Int32)), .val (.ref t), .val (.int (0 : Int32)), .val (.int (3 : Int32)), .unset, .unset] [] by first | (simp [entryFrame, mkF, argsToLocals, Value.category]; done) | rfl) ?_
  refine g_iconst W d_jdk_52_method_21_code_0 (pc' := 1) (v := (0 : Int32)) rfl rfl ?_
  refine g_istore W d_jdk_52_method_21_code_1 (pc' := 3) (L' := #[.val (.ref b), .val (.int (0 : Int32)), .val (.ref t), .val (.int (0 : Int32)), .val (.int (3 : Int32)), .val (.int (0 : Int32)), .unset]) rfl rfl ?_
  refine g_iload W d_jdk_52_method_21_code_3 (pc' := 5) rfl rfl ?_
  refine g_iload W d_jdk_52_method_21_code_5 (pc' := 7) rfl rfl ?_
  refine g_icmpN W d_jdk_52_method_21_code_7 (pc' := 10) rfl (Jvm.Free.XT.ii_ge_f (by decide)) ?_
  refine g_aload_n W d_jdk_52_method_21_code_10 (pc' := 11) rfl rfl rfl ?_
  refine g_iload_n W d_jdk_52_method_21_code_11 (pc' := 12) rfl rfl ?_
  refine g_caload W d_jdk_52_method_21_code_12 (pc' := 13) rfl A1 ⟨by decide, by decide⟩ rfl ?_
  refine g_istore W d_jdk_52_method_21_code_13 (pc' := 15) (L' := #[.val (.ref b), .val (.int (0 : Int32)), .val (.ref t), .val (.int (0 : Int32)), .val (.int (3 : Int32)), .val (.int (0 : Int32)), .val (.int c0)]) rfl rfl ?_
  refine g_iload W d_jdk_52_method_21_code_15 (pc' := 17) rfl rfl ?_
  refine g_sipush W d_jdk_52_method_21_code_17 (pc' := 20) (v := (255 : Int32)) rfl (by decide) ?_
  refine g_icmpY W d_jdk_52_method_21_code_20 (pc' := 26) (by decide) (by decide) (Jvm.Free.XT.ii_le_t q0) ?_
  refine g_aload_n W d_jdk_52_method_21_code_26 (pc' := 27) rfl rfl rfl ?_
  refine g_iload_n W d_jdk_52_method_21_code_27 (pc' := 28) rfl rfl ?_
  refine g_iload W d_jdk_52_method_21_code_28 (pc' := 30) rfl rfl ?_
  refine g_i2b W d_jdk_52_method_21_code_30 (pc' := 31) rfl ?_
  refine g_bastore W d_jdk_52_method_21_code_31 (pc' := 32) (i := 0) (x' := RoadKit.nar .byte c0.toInt8.toInt32) rfl rfl A2 ⟨by decide, by decide⟩ rfl (Nat.le_of_ble_eq_true rfl) (List.mem_of_getElem? (i := 0) rfl) fun T1 h3 W2 R4 A5 => ?_
  have A6 : Arv Z h3 t kt .byte (3 : Int32) [(.int (RoadKit.nar .byte c0.toInt8.toInt32)), (.int (0 : Int32)), (.int (0 : Int32))] (.int (0 : Int32)) := A5
  refine g_iinc W2 d_jdk_52_method_21_code_32 (pc' := 35) (v := (1 : Int32)) (L' := #[.val (.ref b), .val (.int ((0 : Int32) + (1 : Int32))), .val (.ref t), .val (.int (0 : Int32)), .val (.int (3 : Int32)), .val (.int (0 : Int32)), .val (.int c0)]) rfl rfl rfl rfl ?_
  refine g_iinc W2 d_jdk_52_method_21_code_35 (pc' := 38) (v := (1 : Int32)) (L' := #[.val (.ref b), .val (.int ((0 : Int32) + (1 : Int32))), .val (.ref t), .val (.int ((0 : Int32) + (1 : Int32))), .val (.int (3 : Int32)), .val (.int (0 : Int32)), .val (.int c0)]) rfl rfl rfl rfl ?_
  refine g_iinc W2 d_jdk_52_method_21_code_38 (pc' := 41) (v := (1 : Int32)) (L' := #[.val (.ref b), .val (.int ((0 : Int32) + (1 : Int32))), .val (.ref t), .val (.int ((0 : Int32) + (1 : Int32))), .val (.int (3 : Int32)), .val (.int ((0 : Int32) + (1 : Int32))), .val (.int c0)]) rfl rfl rfl rfl ?_
  refine g_goto W2 d_jdk_52_method_21_code_41 (pc' := 3) (by decide) (by decide) ?_
  show Goes _ _ _ _ _ _ _ _ _ _ _ T1 (mkF m 3 #[.val (.ref b), .val (.int (1 : Int32)), .val (.ref t), .val (.int (1 : Int32)), .val (.int (3 : Int32)), .val (.int (1 : Int32)), .val (.int c0)] [])
  refine g_iload W2 d_jdk_52_method_21_code_3 (pc' := 5) rfl rfl ?_
  refine g_iload W2 d_jdk_52_method_21_code_5 (pc' := 7) rfl rfl ?_
  refine g_icmpN W2 d_jdk_52_method_21_code_7 (pc' := 10) rfl (Jvm.Free.XT.ii_ge_f (by decide)) ?_
  refine g_aload_n W2 d_jdk_52_method_21_code_10 (pc' := 11) rfl rfl rfl ?_
  refine g_iload_n W2 d_jdk_52_method_21_code_11 (pc' := 12) rfl rfl ?_
  have K7 : Keep h h3 [t] := ((Keep.refl h [t]).wr R4 (Or.inl (List.mem_of_getElem? (i := 0) rfl)))
  have F8 := A1.keep K7 (ninS nbt nin0)
  refine g_caload W2 d_jdk_52_method_21_code_12 (pc' := 13) rfl F8 ⟨by decide, by decide⟩ rfl ?_
  refine g_istore W2 d_jdk_52_method_21_code_13 (pc' := 15) (L' := #[.val (.ref b), .val (.int (1 : Int32)), .val (.ref t), .val (.int (1 : Int32)), .val (.int (3 : Int32)), .val (.int (1 : Int32)), .val (.int c1)]) rfl rfl ?_
  refine g_iload W2 d_jdk_52_method_21_code_15 (pc' := 17) rfl rfl ?_
  refine g_sipush W2 d_jdk_52_method_21_code_17 (pc' := 20) (v := (255 : Int32)) rfl (by decide) ?_
  refine g_icmpN W2 d_jdk_52_method_21_code_20 (pc' := 23) rfl (Jvm.Free.XT.ii_le_f q1) ?_
  refine g_iload W2 d_jdk_52_method_21_code_23 (pc' := 25) rfl rfl ?_
  exact g_ireturn W2 d_jdk_52_method_21_code_25 (by decide) rfl K7 rfl (by decide) (by decide)
set_option maxRecDepth 65536 in
set_option maxHeartbeats 40000000 in
theorem rm_c16_3_1 {l : Launch} {Z : State} {a0 : Array Value} (hw : ∀ d ∈ tables_1, d.before a0 Z = true) (hEL : EW Z a0 EL1) {zc : Int32} (Sc : Sta Z Z.heap "java/lang/String" "COMPACT_STRINGS" "Z" (.int zc)) (hzc : ¬ zc = 0) (b : Addr) (kb : ClassId) (db : Value) (c0 c1 c2 : Int32) (h : Heap) (hX : Ext Z.heap h) (Sa : Sta Z Z.heap "java/lang/StringUTF16" "$assertionsDisabled" "Z" (.int (1 : Int32))) (Sh : Sta Z Z.heap "java/lang/StringUTF16" "HI_BYTE_SHIFT" "I" (.int (0 : Int32))) (Sl : Sta Z Z.heap "java/lang/StringUTF16" "LO_BYTE_SHIFT" "I" (.int (8 : Int32))) (A1 : Arv Z h b kb .char (3 : Int32) [(.int c0), (.int c1), (.int c2)] db) (r0 : ¬ c0 < 0 ∧ ¬ (65535 : Int32) < c0) (r1 : ¬ c1 < 0 ∧ ¬ (65535 : Int32) < c1) (r2 : ¬ c2 < 0 ∧ ¬ (65535 : Int32) < c2) (q0 : ¬ (255 : Int32) < c0) (q1 : (255 : Int32) < c1) : Met l Z EL1 NW (⟨"java/lang/StringUTF16", "compress", "([CII)[B"⟩ : MethodName) jdk_52_method_16_code 6 (some (.array .byte)) [] ({ frames := 3, cells := 2, slots := 9, locals := 50 } : Room) #[(.ref b), (.int (0 : Int32)), (.int (3 : Int32))] h [] (fun v h' => ∃ a k, v = some (.ref a) ∧ h.size ≤ a ∧ Arv Z h' a k .byte (6 : Int32) (StrChars.Road.wideBytes [c0, c1, c2]) (.int (0 : Int32))) := by
  refine Met.intro pf_9 hEL hX (fun _ q => nomatch q) ?_
  intro p e s m below meth c T W
  refine Goes.cast (show entryFrame m #[(.ref b), (.int (0 : Int32)), (.int (3 : Int32))] 6 = mkF m 0 #[.val (.ref b), .val (.int (0 : Int32)), .val (.int (3 : Int32)), .unset, .unset, .unset] [] by first | (simp [entryFrame, mkF, argsToLocals, Value.category]; done) | rfl) ?_
  refine g_iload_n W d_jdk_52_method_16_code_0 (pc' := 1) rfl rfl ?_
  refine g_newarray W d_jdk_52_method_16_code_1 (pc' := 3) (cap := 3) rfl (hw _ (List.mem_of_getElem? (i := 19) rfl)) (by decide) (by decide) (by decide) (by decide) (by decide) fun T1 h3 t kA7 g4 W2 E5 A6 => ?_
  have A8 : Arv Z h3 t kA7 .byte (3 : Int32) [(.int (0 : Int32)), (.int (0 : Int32)), (.int (0 : Int32))] (.int (0 : Int32)) := A6.pad (pad_rep [] (.int (0 : Int32)) 3)
  refine g_astore_n W2 d_jdk_52_method_16_code_3 (pc' := 4) (L' := #[.val (.ref b), .val (.int (0 : Int32)), .val (.int (3 : Int32)), .val (.ref t), .unset, .unset]) rfl rfl rfl ?_
  refine g_aload_n W2 d_jdk_52_method_16_code_4 (pc' := 5) rfl rfl rfl ?_
  refine g_iload_n W2 d_jdk_52_method_16_code_5 (pc' := 6) rfl rfl ?_
  refine g_aload_n W2 d_jdk_52_method_16_code_6 (pc' := 7) rfl rfl rfl ?_
  refine g_iconst W2 d_jdk_52_method_16_code_7 (pc' := 8) (v := (0 : Int32)) rfl rfl ?_
  refine g_iload_n W2 d_jdk_52_method_16_code_8 (pc' := 9) rfl rfl ?_
  have nbt : b ≠ t := Nat.ne_of_lt (Nat.lt_of_lt_of_le A1.lt (Nat.le_of_eq g4.symm))
  have hXa := W2.ext
  have K15 : Keep h h3 [] := ((Keep.refl h []).ext E5)
  have F16 := A1.mv K15
  refine g_static W2 d_jdk_52_method_16_code_9 (pc' := 12) (fr' := [t]) (argsL := [(.ref b), (.int (0 : Int32)), (.ref t), (.int (0 : Int32)), (.int (3 : Int32))]) (rest := []) (Wd := 0) (kc := 0) (ks := 0) rfl (hw _ (List.mem_of_getElem? (i := 40) rfl)) (hw _ (List.mem_of_getElem? (i := 41) rfl)) (hw _ (List.mem_of_getElem? (i := 38) rfl)) (hw _ (List.mem_of_getElem? (i := 42) rfl)) (by decide) rfl rfl (lenOf pd_4 rfl) rfl (allS (List.mem_of_getElem? (i := 0) rfl) (all0)) (by decide) (by decide) (Met.pays (rm_cl_3_1 hw hEL Sc hzc b t kb _ db c0 c1 c2 _ W2.ext F16 A8 nbt (W2.frs t (List.mem_of_getElem? (i := 0) rfl)).1 q0 q1) (hw _ (List.mem_of_getElem? (i := 42) rfl)) (hw _ (List.mem_of_getElem? (i := 38) rfl)) hEL (by decide) (by decide)) fun v14 T9 h11 W10 K12 q13 => ?_
  obtain rfl := q13
  show Goes _ _ _ _ _ _ _ _ _ _ _ T9 (mkF m 12 #[.val (.ref b), .val (.int (0 : Int32)), .val (.int (3 : Int32)), .val (.ref t), .unset, .unset] [(.int (1 : Int32))])
  refine g_istore W10 d_jdk_52_method_16_code_12 (pc' := 14) (L' := #[.val (.ref b), .val (.int (0 : Int32)), .val (.int (3 : Int32)), .val (.ref t), .val (.int (1 : Int32)), .unset]) rfl rfl ?_
  refine g_iload W10 d_jdk_52_method_16_code_14 (pc' := 16) rfl rfl ?_
  refine g_iload_n W10 d_jdk_52_method_16_code_16 (pc' := 17) rfl rfl ?_
  refine g_icmpN W10 d_jdk_52_method_16_code_17 (pc' := 20) rfl (Jvm.Free.XT.ii_eq_f (by decide)) ?_
  refine g_aload_n W10 d_jdk_52_method_16_code_20 (pc' := 21) rfl rfl rfl ?_
  refine g_iload_n W10 d_jdk_52_method_16_code_21 (pc' := 22) rfl rfl ?_
  refine g_iload_n W10 d_jdk_52_method_16_code_22 (pc' := 23) rfl rfl ?_
  have K23 : Keep h h11 [] := (((Keep.refl h []).ext E5).trans K12 fun x q => by cases List.mem_singleton.mp q; exact Or.inr (Nat.le_of_eq g4.symm))
  have F24 := A1.mv K23
  refine g_static W10 d_jdk_52_method_16_code_23 (pc' := 26) (fr' := []) (argsL := [(.ref b), (.int (0 : Int32)), (.int (3 : Int32))]) (rest := []) (Wd := 0) (kc := 1) (ks := 6) rfl (hw _ (List.mem_of_getElem? (i := 46) rfl)) (hw _ (List.mem_of_getElem? (i := 47) rfl)) (hw _ (List.mem_of_getElem? (i := 38) rfl)) (hw _ (List.mem_of_getElem? (i := 48) rfl)) (by decide) rfl rfl (lenOf pd_5 rfl) rfl all0 (by decide) (by decide) (Met.pays (rm_tb_3 hw hEL Sc hzc b kb db c0 c1 c2 _ W10.ext Sa Sh Sl F24) (hw _ (List.mem_of_getElem? (i := 48) rfl)) (hw _ (List.mem_of_getElem? (i := 38) rfl)) hEL (by decide) (by decide)) fun v22 T17 h19 W18 K20 q21 => ?_
  obtain ⟨d, kd, rfl, gd, Ad⟩ := q21
  show Goes _ _ _ _ _ _ _ _ _ _ _ T17 (mkF m 26 #[.val (.ref b), .val (.int (0 : Int32)), .val (.int (3 : Int32)), .val (.ref t), .val (.int (1 : Int32)), .unset] [(.ref d)])
  refine g_astore W18 d_jdk_52_method_16_code_26 (pc' := 28) (L' := #[.val (.ref b), .val (.int (0 : Int32)), .val (.int (3 : Int32)), .val (.ref t), .val (.int (1 : Int32)), .val (.ref d)]) rfl rfl rfl ?_
  refine g_aload W18 d_jdk_52_method_16_code_28 (pc' := 30) rfl rfl rfl ?_
  refine g_iload W18 d_jdk_52_method_16_code_30 (pc' := 32) rfl rfl ?_
  refine g_static W18 d_jdk_52_method_16_code_32 (pc' := 35) (fr' := []) (argsL := [(.ref d), (.int (1 : Int32))]) (rest := []) (Wd := 0) (kc := 0) (ks := 0) rfl (hw _ (List.mem_of_getElem? (i := 62) rfl)) (hw _ (List.mem_of_getElem? (i := 63) rfl)) (hw _ (List.mem_of_getElem? (i := 38) rfl)) (hw _ (List.mem_of_getElem? (i := 64) rfl)) (by decide) rfl rfl (lenOf pd_6 rfl) rfl all0 (by decide) (by decide) (Met.pays (rm_getChar hw hEL Sc hzc d kd (6 : Int32) (1 : Int32) c1 _ _ W18.ext Sa Sh Sl Ad (by decide) rfl (by decide) rfl r1) (hw _ (List.mem_of_getElem? (i := 64) rfl)) (hw _ (List.mem_of_getElem? (i := 38) rfl)) hEL (by decide) (by decide)) fun v30 T25 h27 W26 K28 q29 => ?_
  obtain ⟨rfl, rfl⟩ := q29
  show Goes _ _ _ _ _ _ _ _ _ _ _ T25 (mkF m 35 #[.val (.ref b), .val (.int (0 : Int32)), .val (.int (3 : Int32)), .val (.ref t), .val (.int (1 : Int32)), .val (.ref d)] [(.int c1)])
  refine g_sipush W26 d_jdk_52_method_16_code_35 (pc' := 38) (v := (255 : Int32)) rfl (by decide) ?_
  refine g_icmpY W26 d_jdk_52_method_16_code_38 (pc' := 54) (by decide) (by decide) (Jvm.Free.XT.ii_gt_t q1) ?_
  refine g_aload W26 d_jdk_52_method_16_code_54 (pc' := 56) rfl rfl rfl ?_
  have K31 : Keep h h19 [] := ((((Keep.refl h []).ext E5).trans K12 fun x q => by cases List.mem_singleton.mp q; exact Or.inr (Nat.le_of_eq g4.symm)).trans K20 fun _ q => nomatch q)
  exact g_areturn W26 d_jdk_52_method_16_code_56 rfl rfl rfl K31 ⟨_, _, rfl, Nat.le_trans K23.1 gd, Ad⟩ (by decide) (by decide)
set_option maxRecDepth 65536 in
set_option maxHeartbeats 40000000 in
theorem rm_new4_3_1 {l : Launch} {Z : State} {a0 : Array Value} (hw : ∀ d ∈ tables_1, d.before a0 Z = true) (hEL : EW Z a0 EL1) {zc : Int32} (Sc : Sta Z Z.heap "java/lang/String" "COMPACT_STRINGS" "Z" (.int zc)) (hzc : ¬ zc = 0) (a1 b : Addr) (kb : ClassId) (db : Value) (c0 c1 c2 : Int32) (h : Heap) (hX : Ext Z.heap h) (Sa : Sta Z Z.heap "java/lang/StringUTF16" "$assertionsDisabled" "Z" (.int (1 : Int32))) (Sh : Sta Z Z.heap "java/lang/StringUTF16" "HI_BYTE_SHIFT" "I" (.int (0 : Int32))) (Sl : Sta Z Z.heap "java/lang/StringUTF16" "LO_BYTE_SHIFT" "I" (.int (8 : Int32))) (g1 : Z.heap.size ≤ a1) (O1 : Obj Z h a1 "java/lang/String" [(("java/lang/String", "value", "[B"), .null), (("java/lang/String", "coder", "B"), (.int 0))]) (A1 : Arv Z h b kb .char (3 : Int32) [(.int c0), (.int c1), (.int c2)] db) (r0 : ¬ c0 < 0 ∧ ¬ (65535 : Int32) < c0) (r1 : ¬ c1 < 0 ∧ ¬ (65535 : Int32) < c1) (r2 : ¬ c2 < 0 ∧ ¬ (65535 : Int32) < c2) (q0 : ¬ (255 : Int32) < c0) (q1 : (255 : Int32) < c1) : Met l Z EL1 NW (⟨"java/lang/String", "<init>", "([CIILjava/lang/Void;)V"⟩ : MethodName) jdk_42_method_149_code 6 none [] ({ frames := 4, cells := 2, slots := 9, locals := 70 } : Room) #[(.ref a1), (.ref b), (.int (0 : Int32)), (.int (3 : Int32)), .null] h [a1] (fun v h' => v = none ∧ Str Z h' a1 [c0, c1, c2]) := by
  refine Met.intro pf_0 hEL hX (allS ⟨g1, O1.lt⟩ all0) ?_
  intro p e s m below meth c T W
  refine Goes.cast (show entryFrame m #[(.ref a1), (.ref b), (.int (0 : Int32)), (.int (3 : Int32)), .null] 6 = mkF m 0 #[.val (.ref a1), .val (.ref b), .val (.int (0 : Int32)), .val (.int (3 : Int32)), .val .null, .unset] [] by first | (simp [entryFrame, mkF, argsToLocals, Value.category]; done) | rfl) ?_
  refine g_aload_n W d_jdk_42_method_149_code_0 (pc' := 1) rfl rfl rfl ?_
  refine g_initO W d_jdk_42_method_149_code_1 (pc' := 4) (Wd := 0) rfl (hw _ (List.mem_of_getElem? (i := 15) rfl)) (hw _ (List.mem_of_getElem? (i := 16) rfl)) (hw _ (List.mem_of_getElem? (i := 17) rfl)) rfl rfl (by decide) (by decide) fun T1 W2 => ?_
  refine g_iload_n W2 d_jdk_42_method_149_code_4 (pc' := 5) rfl rfl ?_
  refine g_ifY W2 d_jdk_42_method_149_code_5 (pc' := 27) (by decide) (by decide) (Jvm.Free.XT.i0_ne_t (by decide)) ?_
  refine g_getstatic W2 d_jdk_42_method_149_code_27 (pc' := 30) rfl (hw _ (List.mem_of_getElem? (i := 35) rfl)) Via.refl Sc fun T3 W4 => ?_
  refine g_ifN W4 d_jdk_42_method_149_code_30 (pc' := 33) rfl (Jvm.Free.XT.i0_eq_f hzc) ?_
  refine g_aload_n W4 d_jdk_42_method_149_code_33 (pc' := 34) rfl rfl rfl ?_
  refine g_iload_n W4 d_jdk_42_method_149_code_34 (pc' := 35) rfl rfl ?_
  refine g_iload_n W4 d_jdk_42_method_149_code_35 (pc' := 36) rfl rfl ?_
  refine g_static W4 d_jdk_42_method_149_code_36 (pc' := 39) (fr' := []) (argsL := [(.ref b), (.int (0 : Int32)), (.int (3 : Int32))]) (rest := []) (Wd := 0) (kc := 2) (ks := 9) rfl (hw _ (List.mem_of_getElem? (i := 36) rfl)) (hw _ (List.mem_of_getElem? (i := 37) rfl)) (hw _ (List.mem_of_getElem? (i := 38) rfl)) (hw _ (List.mem_of_getElem? (i := 39) rfl)) (by decide) rfl rfl (lenOf pd_5 rfl) rfl all0 (by decide) (by decide) (Met.pays (rm_c16_3_1 hw hEL Sc hzc b kb db c0 c1 c2 _ W4.ext Sa Sh Sl A1 r0 r1 r2 q0 q1) (hw _ (List.mem_of_getElem? (i := 39) rfl)) (hw _ (List.mem_of_getElem? (i := 38) rfl)) hEL (by decide) (by decide)) fun v10 T5 h7 W6 K8 q9 => ?_
  obtain ⟨d, kd, rfl, gd, Ad⟩ := q9
  show Goes _ _ _ _ _ _ _ _ _ _ _ T5 (mkF m 39 #[.val (.ref a1), .val (.ref b), .val (.int (0 : Int32)), .val (.int (3 : Int32)), .val .null, .unset] [(.ref d)])
  have nda : d ≠ a1 := Nat.ne_of_gt (Nat.lt_of_lt_of_le O1.lt gd)
  refine g_astore W6 d_jdk_42_method_149_code_39 (pc' := 41) (L' := #[.val (.ref a1), .val (.ref b), .val (.int (0 : Int32)), .val (.int (3 : Int32)), .val .null, .val (.ref d)]) rfl rfl rfl ?_
  refine g_aload_n W6 d_jdk_42_method_149_code_41 (pc' := 42) rfl rfl rfl ?_
  refine g_aload W6 d_jdk_42_method_149_code_42 (pc' := 44) rfl rfl rfl ?_
  refine g_iload_n W6 d_jdk_42_method_149_code_44 (pc' := 45) rfl rfl ?_
  refine g_static W6 d_jdk_42_method_149_code_45 (pc' := 48) (fr' := []) (argsL := [(.ref d), (.int (3 : Int32))]) (rest := [(.ref a1)]) (Wd := 1) (kc := 0) (ks := 0) rfl (hw _ (List.mem_of_getElem? (i := 43) rfl)) (hw _ (List.mem_of_getElem? (i := 44) rfl)) (hw _ (List.mem_of_getElem? (i := 38) rfl)) (hw _ (List.mem_of_getElem? (i := 45) rfl)) (by decide) rfl rfl (lenOf pd_7 rfl) rfl all0 (by decide) (by decide) (Met.pays (rm_cfa_3 hw hEL Sc hzc d kd _ _ _ W6.ext Ad) (hw _ (List.mem_of_getElem? (i := 45) rfl)) (hw _ (List.mem_of_getElem? (i := 38) rfl)) hEL (by decide) (by decide)) fun v16 T11 h13 W12 K14 q15 => ?_
  obtain ⟨rfl, rfl⟩ := q15
  show Goes _ _ _ _ _ _ _ _ _ _ _ T11 (mkF m 48 #[.val (.ref a1), .val (.ref b), .val (.int (0 : Int32)), .val (.int (3 : Int32)), .val .null, .val (.ref d)] [(.int (1 : Int32)), (.ref a1)])
  have K22 : Keep h h7 [] := ((Keep.refl h []).trans K8 fun _ q => nomatch q)
  have F23 := O1.mv K22
  refine g_putfield W12 d_jdk_42_method_149_code_48 (pc' := 51) (host := "") (ty := .byte) rfl (Or.inl (hw _ (List.mem_of_getElem? (i := 25) rfl))) Via.refl (F23.get 1 rfl) F23.1 (Or.inr ⟨(hw _ (List.mem_of_getElem? (i := 21) rfl)), rfl, rfl⟩) (hw _ (List.mem_of_getElem? (i := 5) rfl)) (by decide) rfl rfl (List.mem_of_getElem? (i := 0) rfl) fun T17 h19 W18 R20 => ?_
  have O21 : Obj Z h19 a1 "java/lang/String" [(("java/lang/String", "value", "[B"), .null), (("java/lang/String", "coder", "B"), (.int (1 : Int32)))] := F23.put R20 1 rfl (dis_Str hw)
  refine g_aload_n W18 d_jdk_42_method_149_code_51 (pc' := 52) rfl rfl rfl ?_
  refine g_aload W18 d_jdk_42_method_149_code_52 (pc' := 54) rfl rfl rfl ?_
  refine g_putfield W18 d_jdk_42_method_149_code_54 (pc' := 57) (host := "") (ty := (.array .byte)) rfl (Or.inl (hw _ (List.mem_of_getElem? (i := 24) rfl))) Via.refl (O21.get 0 rfl) O21.1 (Or.inr ⟨(hw _ (List.mem_of_getElem? (i := 20) rfl)), rfl, rfl⟩) (hw _ (List.mem_of_getElem? (i := 5) rfl)) (by decide) rfl rfl (List.mem_of_getElem? (i := 0) rfl) fun T24 h26 W25 R27 => ?_
  have O28 : Obj Z h26 a1 "java/lang/String" [(("java/lang/String", "value", "[B"), (.ref d)), (("java/lang/String", "coder", "B"), (.int (1 : Int32)))] := O21.put R27 0 rfl (dis_Str hw)
  have K29 : Keep h7 h26 [a1] := (((Keep.refl h7 [a1]).wr R20 (Or.inl (List.mem_of_getElem? (i := 0) rfl))).wr R27 (Or.inl (List.mem_of_getElem? (i := 0) rfl)))
  have F30 := Ad.keep K29 (ninS nda nin0)
  have K31 : Keep h h26 [a1] := ((((Keep.refl h [a1]).trans K8 fun _ q => nomatch q).wr R20 (Or.inl (List.mem_of_getElem? (i := 0) rfl))).wr R27 (Or.inl (List.mem_of_getElem? (i := 0) rfl)))
  exact g_return W25 d_jdk_42_method_149_code_57 K31 ⟨rfl, ⟨_, _, _, _, _, O28.1, O28.get 0 rfl, O28.get 1 rfl, F30, Or.inr ⟨rfl, rfl, rfl, c1, List.mem_of_getElem? (i := 1) rfl, q1⟩, (rngC r0 (rngC r1 (rngC r2 rngN))), Nat.le_of_ble_eq_true rfl⟩⟩ (by decide) (by decide)
set_option maxRecDepth 65536 in
set_option maxHeartbeats 40000000 in
theorem rm_new1_3_1 {l : Launch} {Z : State} {a0 : Array Value} (hw : ∀ d ∈ tables_1, d.before a0 Z = true) (hEL : EW Z a0 EL1) {zc : Int32} (Sc : Sta Z Z.heap "java/lang/String" "COMPACT_STRINGS" "Z" (.int zc)) (hzc : ¬ zc = 0) (a1 b : Addr) (kb : ClassId) (db : Value) (c0 c1 c2 : Int32) (h : Heap) (hX : Ext Z.heap h) (Sa : Sta Z Z.heap "java/lang/StringUTF16" "$assertionsDisabled" "Z" (.int (1 : Int32))) (Sh : Sta Z Z.heap "java/lang/StringUTF16" "HI_BYTE_SHIFT" "I" (.int (0 : Int32))) (Sl : Sta Z Z.heap "java/lang/StringUTF16" "LO_BYTE_SHIFT" "I" (.int (8 : Int32))) (g1 : Z.heap.size ≤ a1) (O1 : Obj Z h a1 "java/lang/String" [(("java/lang/String", "value", "[B"), .null), (("java/lang/String", "coder", "B"), (.int 0))]) (A1 : Arv Z h b kb .char (3 : Int32) [(.int c0), (.int c1), (.int c2)] db) (r0 : ¬ c0 < 0 ∧ ¬ (65535 : Int32) < c0) (r1 : ¬ c1 < 0 ∧ ¬ (65535 : Int32) < c1) (r2 : ¬ c2 < 0 ∧ ¬ (65535 : Int32) < c2) (q0 : ¬ (255 : Int32) < c0) (q1 : (255 : Int32) < c1) : Met l Z EL1 NW (⟨"java/lang/String", "<init>", "([C)V"⟩ : MethodName) jdk_42_method_3_code 2 none [] ({ frames := 5, cells := 2, slots := 9, locals := 90 } : Room) #[(.ref a1), (.ref b)] h [a1] (fun v h' => v = none ∧ Str Z h' a1 [c0, c1, c2]) := by
  refine Met.intro pf_1 hEL hX (allS ⟨g1, O1.lt⟩ all0) ?_
  intro p e s m below meth c T W
  refine Goes.cast (show entryFrame m #[(.ref a1), (.ref b)] 2 = mkF m 0 #[.val (.ref a1), .val (.ref b)] [] by first | (simp [entryFrame, mkF, argsToLocals, Value.category]; done) | rfl) ?_
  refine g_aload_n W d_jdk_42_method_3_code_0 (pc' := 1) rfl rfl rfl ?_
  refine g_aload_n W d_jdk_42_method_3_code_1 (pc' := 2) rfl rfl rfl ?_
  refine g_iconst W d_jdk_42_method_3_code_2 (pc' := 3) (v := (0 : Int32)) rfl rfl ?_
  refine g_aload_n W d_jdk_42_method_3_code_3 (pc' := 4) rfl rfl rfl ?_
  refine g_arraylength W d_jdk_42_method_3_code_4 (pc' := 5) rfl A1 ?_
  refine g_aconst_null W d_jdk_42_method_3_code_5 (pc' := 6) rfl ?_
  refine g_special W d_jdk_42_method_3_code_6 (pc' := 9) (a := a1) (fr' := [a1]) (argsL := [(.ref b), (.int (0 : Int32)), (.int (3 : Int32)), .null]) (rest := []) (Wd := 0) (kc := 2) (ks := 9) rfl rfl (hw _ (List.mem_of_getElem? (i := 11) rfl)) (hw _ (List.mem_of_getElem? (i := 12) rfl)) (hw _ (List.mem_of_getElem? (i := 14) rfl)) (by decide) rfl rfl (lenOf pd_0 rfl) rfl (allS (List.mem_of_getElem? (i := 0) rfl) (all0)) (by decide) (by decide) (Met.pays (rm_new4_3_1 hw hEL Sc hzc a1 b kb db c0 c1 c2 _ W.ext Sa Sh Sl g1 O1 A1 r0 r1 r2 q0 q1) (hw _ (List.mem_of_getElem? (i := 14) rfl)) (hw _ (List.mem_of_getElem? (i := 6) rfl)) hEL (by decide) (by decide)) fun v6 T1 h3 W2 K4 q5 => ?_
  obtain ⟨rfl, S1⟩ := q5
  show Goes _ _ _ _ _ _ _ _ _ _ _ T1 (mkF m 9 #[.val (.ref a1), .val (.ref b)] [])
  have K7 : Keep h h3 [a1] := ((Keep.refl h [a1]).trans K4 fun x q => by cases List.mem_singleton.mp q; exact Or.inl (List.mem_of_getElem? (i := 0) rfl))
  exact g_return W2 d_jdk_42_method_3_code_9 K7 ⟨rfl, S1⟩ (by decide) (by decide)
set_option maxRecDepth 65536 in
set_option maxHeartbeats 40000000 in
theorem rm_cl_3_2 {l : Launch} {Z : State} {a0 : Array Value} (hw : ∀ d ∈ tables_1, d.before a0 Z = true) (hEL : EW Z a0 EL1) {zc : Int32} (Sc : Sta Z Z.heap "java/lang/String" "COMPACT_STRINGS" "Z" (.int zc)) (hzc : ¬ zc = 0) (b t : Addr) (kb kt : ClassId) (db : Value) (c0 c1 c2 : Int32) (h : Heap) (hX : Ext Z.heap h) (A1 : Arv Z h b kb .char (3 : Int32) [(.int c0), (.int c1), (.int c2)] db) (A2 : Arv Z h t kt .byte (3 : Int32) [(.int (0 : Int32)), (.int (0 : Int32)), (.int (0 : Int32))] (.int (0 : Int32))) (nbt : b ≠ t) (gt : Z.heap.size ≤ t) (q0 : ¬ (255 : Int32) < c0) (q1 : ¬ (255 : Int32) < c1) (q2 : (255 : Int32) < c2) : Met l Z EL1 NW (⟨"java/lang/StringUTF16", "compress", "([CI[BII)I"⟩ : MethodName) jdk_52_method_21_code 7 (some .int) [] ({ frames := 0, cells := 0, slots := 0, locals := 0 } : Room) #[(.ref b), (.int (0 : Int32)), (.ref t), (.int (0 : Int32)), (.int (3 : Int32))] h [t] (fun v _ => v = some (.int (2 : Int32))) := by
  refine Met.intro pf_8 hEL hX (allS ⟨gt, A2.lt⟩ all0) ?_
  intro p e s m below meth c T W
  refine Goes.cast (show entryFrame m #[(.ref b), (.int (0 : Int32)), (.ref t), (.int (0 : Int32)), (.int (3 : Int32))] 7 = mkF m 0 #[.val (.ref b), .val (.int (0 : Int32)), .val (.ref t), .val (.int (0 : Int32)), .val (.int (3 : Int32)), .unset, .unset] [] by first | (simp [entryFrame, mkF, argsToLocals, Value.category]; done) | rfl) ?_
  refine g_iconst W d_jdk_52_method_21_code_0 (pc' := 1) (v := (0 : Int32)) rfl rfl ?_
  refine g_istore W d_jdk_52_method_21_code_1 (pc' := 3) (L' := #[.val (.ref b), .val (.int (0 : Int32)), .val (.ref t), .val (.int (0 : Int32)), .val (.int (3 : Int32)), .val (.int (0 : Int32)), .unset]) rfl rfl ?_
  refine g_iload W d_jdk_52_method_21_code_3 (pc' := 5) rfl rfl ?_
  refine g_iload W d_jdk_52_method_21_code_5 (pc' := 7) rfl rfl ?_
  refine g_icmpN W d_jdk_52_method_21_code_7 (pc' := 10) rfl (Jvm.Free.XT.ii_ge_f (by decide)) ?_
  refine g_aload_n W d_jdk_52_method_21_code_10 (pc' := 11) rfl rfl rfl ?_
  refine g_iload_n W d_jdk_52_method_21_code_11 (pc' := 12) rfl rfl ?_
  refine g_caload W d_jdk_52_method_21_code_12 (pc' := 13) rfl A1 ⟨by decide, by decide⟩ rfl ?_
  refine g_istore W d_jdk_52_method_21_code_13 (pc' := 15) (L' := #[.val (.ref b), .val (.int (0 : Int32)), .val (.ref t), .val (.int (0 : Int32)), .val (.int (3 : Int32)), .val (.int (0 : Int32)), .val (.int c0)]) rfl rfl ?_
  refine g_iload W d_jdk_52_method_21_code_15 (pc' := 17) rfl rfl ?_
  refine g_sipush W d_jdk_52_method_21_code_17 (pc' := 20) (v := (255 : Int32)) rfl (by decide) ?_
  refine g_icmpY W d_jdk_52_method_21_code_20 (pc' := 26) (by decide) (by decide) (Jvm.Free.XT.ii_le_t q0) ?_
  refine g_aload_n W d_jdk_52_method_21_code_26 (pc' := 27) rfl rfl rfl ?_
  refine g_iload_n W d_jdk_52_method_21_code_27 (pc' := 28) rfl rfl ?_
  refine g_iload W d_jdk_52_method_21_code_28 (pc' := 30) rfl rfl ?_
  refine g_i2b W d_jdk_52_method_21_code_30 (pc' := 31) rfl ?_
  refine g_bastore W d_jdk_52_method_21_code_31 (pc' := 32) (i := 0) (x' := RoadKit.nar .byte c0.toInt8.toInt32) rfl rfl A2 ⟨by decide, by decide⟩ rfl (Nat.le_of_ble_eq_true rfl) (List.mem_of_getElem? (i := 0) rfl) fun T1 h3 W2 R4 A5 => ?_
  have A6 : Arv Z h3 t kt .byte (3 : Int32) [(.int (RoadKit.nar .byte c0.toInt8.toInt32)), (.int (0 : Int32)), (.int (0 : Int32))] (.int (0 : Int32)) := A5
  refine g_iinc W2 d_jdk_52_method_21_code_32 (pc' := 35) (v := (1 : Int32)) (L' := #[.val (.ref b), .val (.int ((0 : Int32) + (1 : Int32))), .val (.ref t), .val (.int (0 : Int32)), .val (.int (3 : Int32)), .val (.int (0 : Int32)), .val (.int c0)]) rfl rfl rfl rfl ?_
  refine g_iinc W2 d_jdk_52_method_21_code_35 (pc' := 38) (v := (1 : Int32)) (L' := #[.val (.ref b), .val (.int ((0 : Int32) + (1 : Int32))), .val (.ref t), .val (.int ((0 : Int32) + (1 : Int32))), .val (.int (3 : Int32)), .val (.int (0 : Int32)), .val (.int c0)]) rfl rfl rfl rfl ?_
  refine g_iinc W2 d_jdk_52_method_21_code_38 (pc' := 41) (v := (1 : Int32)) (L' := #[.val (.ref b), .val (.int ((0 : Int32) + (1 : Int32))), .val (.ref t), .val (.int ((0 : Int32) + (1 : Int32))), .val (.int (3 : Int32)), .val (.int ((0 : Int32) + (1 : Int32))), .val (.int c0)]) rfl rfl rfl rfl ?_
  refine g_goto W2 d_jdk_52_method_21_code_41 (pc' := 3) (by decide) (by decide) ?_
  show Goes _ _ _ _ _ _ _ _ _ _ _ T1 (mkF m 3 #[.val (.ref b), .val (.int (1 : Int32)), .val (.ref t), .val (.int (1 : Int32)), .val (.int (3 : Int32)), .val (.int (1 : Int32)), .val (.int c0)] [])
  refine g_iload W2 d_jdk_52_method_21_code_3 (pc' := 5) rfl rfl ?_
  refine g_iload W2 d_jdk_52_method_21_code_5 (pc' := 7) rfl rfl ?_
  refine g_icmpN W2 d_jdk_52_method_21_code_7 (pc' := 10) rfl (Jvm.Free.XT.ii_ge_f (by decide)) ?_
  refine g_aload_n W2 d_jdk_52_method_21_code_10 (pc' := 11) rfl rfl rfl ?_
  refine g_iload_n W2 d_jdk_52_method_21_code_11 (pc' := 12) rfl rfl ?_
  have K7 : Keep h h3 [t] := ((Keep.refl h [t]).wr R4 (Or.inl (List.mem_of_getElem? (i := 0) rfl)))
  have F8 := A1.keep K7 (ninS nbt nin0)
  refine g_caload W2 d_jdk_52_method_21_code_12 (pc' := 13) rfl F8 ⟨by decide, by decide⟩ rfl ?_
  refine g_istore W2 d_jdk_52_method_21_code_13 (pc' := 15) (L' := #[.val (.ref b), .val (.int (1 : Int32)), .val (.ref t), .val (.int (1 : Int32)), .val (.int (3 : Int32)), .val (.int (1 : Int32)), .val (.int c1)]) rfl rfl ?_
  refine g_iload W2 d_jdk_52_method_21_code_15 (pc' := 17) rfl rfl ?_
  refine g_sipush W2 d_jdk_52_method_21_code_17 (pc' := 20) (v := (255 : Int32)) rfl (by decide) ?_
  refine g_icmpY W2 d_jdk_52_method_21_code_20 (pc' := 26) (by decide) (by decide) (Jvm.Free.XT.ii_le_t q1) ?_
  refine g_aload_n W2 d_jdk_52_method_21_code_26 (pc' := 27) rfl rfl rfl ?_
  refine g_iload_n W2 d_jdk_52_method_21_code_27 (pc' := 28) rfl rfl ?_
  refine g_iload W2 d_jdk_52_method_21_code_28 (pc' := 30) rfl rfl ?_
  refine g_i2b W2 d_jdk_52_method_21_code_30 (pc' := 31) rfl ?_
  refine g_bastore W2 d_jdk_52_method_21_code_31 (pc' := 32) (i := 1) (x' := RoadKit.nar .byte c1.toInt8.toInt32) rfl rfl A6 ⟨by decide, by decide⟩ rfl (Nat.le_of_ble_eq_true rfl) (List.mem_of_getElem? (i := 0) rfl) fun T9 h11 W10 R12 A13 => ?_
  have A14 : Arv Z h11 t kt .byte (3 : Int32) [(.int (RoadKit.nar .byte c0.toInt8.toInt32)), (.int (RoadKit.nar .byte c1.toInt8.toInt32)), (.int (0 : Int32))] (.int (0 : Int32)) := A13
  refine g_iinc W10 d_jdk_52_method_21_code_32 (pc' := 35) (v := (1 : Int32)) (L' := #[.val (.ref b), .val (.int ((1 : Int32) + (1 : Int32))), .val (.ref t), .val (.int (1 : Int32)), .val (.int (3 : Int32)), .val (.int (1 : Int32)), .val (.int c1)]) rfl rfl rfl rfl ?_
  refine g_iinc W10 d_jdk_52_method_21_code_35 (pc' := 38) (v := (1 : Int32)) (L' := #[.val (.ref b), .val (.int ((1 : Int32) + (1 : Int32))), .val (.ref t), .val (.int ((1 : Int32) + (1 : Int32))), .val (.int (3 : Int32)), .val (.int (1 : Int32)), .val (.int c1)]) rfl rfl rfl rfl ?_
  refine g_iinc W10 d_jdk_52_method_21_code_38 (pc' := 41) (v := (1 : Int32)) (L' := #[.val (.ref b), .val (.int ((1 : Int32) + (1 : Int32))), .val (.ref t), .val (.int ((1 : Int32) + (1 : Int32))), .val (.int (3 : Int32)), .val (.int ((1 : Int32) + (1 : Int32))), .val (.int c1)]) rfl rfl rfl rfl ?_
  refine g_goto W10 d_jdk_52_method_21_code_41 (pc' := 3) (by decide) (by decide) ?_
  show Goes _ _ _ _ _ _ _ _ _ _ _ T9 (mkF m 3 #[.val (.ref b), .val (.int (2 : Int32)), .val (.ref t), .val (.int (2 : Int32)), .val (.int (3 : Int32)), .val (.int (2 : Int32)), .val (.int c1)] [])
  refine g_iload W10 d_jdk_52_method_21_code_3 (pc' := 5) rfl rfl ?_
  refine g_iload W10 d_jdk_52_method_21_code_5 (pc' := 7) rfl rfl ?_
  refine g_icmpN W10 d_jdk_52_method_21_code_7 (pc' := 10) rfl (Jvm.Free.XT.ii_ge_f (by decide)) ?_
  refine g_aload_n W10 d_jdk_52_method_21_code_10 (pc' := 11) rfl rfl rfl ?_
  refine g_iload_n W10 d_jdk_52_method_21_code_11 (pc' := 12) rfl rfl ?_
  have K15 : Keep h3 h11 [t] := ((Keep.refl h3 [t]).wr R12 (Or.inl (List.mem_of_getElem? (i := 0) rfl)))
  have F16 := F8.keep K15 (ninS nbt nin0)
  refine g_caload W10 d_jdk_52_method_21_code_12 (pc' := 13) rfl F16 ⟨by decide, by decide⟩ rfl ?_
  refine g_istore W10 d_jdk_52_method_21_code_13 (pc' := 15) (L' := #[.val (.ref b), .val (.int (2 : Int32)), .val (.ref t), .val (.int (2 : Int32)), .val (.int (3 : Int32)), .val (.int (2 : Int32)), .val (.int c2)]) rfl rfl ?_
  refine g_iload W10 d_jdk_52_method_21_code_15 (pc' := 17) rfl rfl ?_
  refine g_sipush W10 d_jdk_52_method_21_code_17 (pc' := 20) (v := (255 : Int32)) rfl (by decide) ?_
  refine g_icmpN W10 d_jdk_52_method_21_code_20 (pc' := 23) rfl (Jvm.Free.XT.ii_le_f q2) ?_
  refine g_iload W10 d_jdk_52_method_21_code_23 (pc' := 25) rfl rfl ?_
  have K17 : Keep h h11 [t] := (((Keep.refl h [t]).wr R4 (Or.inl (List.mem_of_getElem? (i := 0) rfl))).wr R12 (Or.inl (List.mem_of_getElem? (i := 0) rfl)))
  exact g_ireturn W10 d_jdk_52_method_21_code_25 (by decide) rfl K17 rfl (by decide) (by decide)
set_option maxRecDepth 65536 in
set_option maxHeartbeats 40000000 in
theorem rm_c16_3_2 {l : Launch} {Z : State} {a0 : Array Value} (hw : ∀ d ∈ tables_1, d.before a0 Z = true) (hEL : EW Z a0 EL1) {zc : Int32} (Sc : Sta Z Z.heap "java/lang/String" "COMPACT_STRINGS" "Z" (.int zc)) (hzc : ¬ zc = 0) (b : Addr) (kb : ClassId) (db : Value) (c0 c1 c2 : Int32) (h : Heap) (hX : Ext Z.heap h) (Sa : Sta Z Z.heap "java/lang/StringUTF16" "$assertionsDisabled" "Z" (.int (1 : Int32))) (Sh : Sta Z Z.heap "java/lang/StringUTF16" "HI_BYTE_SHIFT" "I" (.int (0 : Int32))) (Sl : Sta Z Z.heap "java/lang/StringUTF16" "LO_BYTE_SHIFT" "I" (.int (8 : Int32))) (A1 : Arv Z h b kb .char (3 : Int32) [(.int c0), (.int c1), (.int c2)] db) (r0 : ¬ c0 < 0 ∧ ¬ (65535 : Int32) < c0) (r1 : ¬ c1 < 0 ∧ ¬ (65535 : Int32) < c1) (r2 : ¬ c2 < 0 ∧ ¬ (65535 : Int32) < c2) (q0 : ¬ (255 : Int32) < c0) (q1 : ¬ (255 : Int32) < c1) (q2 : (255 : Int32) < c2) : Met l Z EL1 NW (⟨"java/lang/StringUTF16", "compress", "([CII)[B"⟩ : MethodName) jdk_52_method_16_code 6 (some (.array .byte)) [] ({ frames := 3, cells := 2, slots := 9, locals := 50 } : Room) #[(.ref b), (.int (0 : Int32)), (.int (3 : Int32))] h [] (fun v h' => ∃ a k, v = some (.ref a) ∧ h.size ≤ a ∧ Arv Z h' a k .byte (6 : Int32) (StrChars.Road.wideBytes [c0, c1, c2]) (.int (0 : Int32))) := by
  refine Met.intro pf_9 hEL hX (fun _ q => nomatch q) ?_
  intro p e s m below meth c T W
  refine Goes.cast (show entryFrame m #[(.ref b), (.int (0 : Int32)), (.int (3 : Int32))] 6 = mkF m 0 #[.val (.ref b), .val (.int (0 : Int32)), .val (.int (3 : Int32)), .unset, .unset, .unset] [] by first | (simp [entryFrame, mkF, argsToLocals, Value.category]; done) | rfl) ?_
  refine g_iload_n W d_jdk_52_method_16_code_0 (pc' := 1) rfl rfl ?_
  refine g_newarray W d_jdk_52_method_16_code_1 (pc' := 3) (cap := 3) rfl (hw _ (List.mem_of_getElem? (i := 19) rfl)) (by decide) (by decide) (by decide) (by decide) (by decide) fun T1 h3 t kA7 g4 W2 E5 A6 => ?_
  have A8 : Arv Z h3 t kA7 .byte (3 : Int32) [(.int (0 : Int32)), (.int (0 : Int32)), (.int (0 : Int32))] (.int (0 : Int32)) := A6.pad (pad_rep [] (.int (0 : Int32)) 3)
  refine g_astore_n W2 d_jdk_52_method_16_code_3 (pc' := 4) (L' := #[.val (.ref b), .val (.int (0 : Int32)), .val (.int (3 : Int32)), .val (.ref t), .unset, .unset]) rfl rfl rfl ?_
  refine g_aload_n W2 d_jdk_52_method_16_code_4 (pc' := 5) rfl rfl rfl ?_
  refine g_iload_n W2 d_jdk_52_method_16_code_5 (pc' := 6) rfl rfl ?_
  refine g_aload_n W2 d_jdk_52_method_16_code_6 (pc' := 7) rfl rfl rfl ?_
  refine g_iconst W2 d_jdk_52_method_16_code_7 (pc' := 8) (v := (0 : Int32)) rfl rfl ?_
  refine g_iload_n W2 d_jdk_52_method_16_code_8 (pc' := 9) rfl rfl ?_
  have nbt : b ≠ t := Nat.ne_of_lt (Nat.lt_of_lt_of_le A1.lt (Nat.le_of_eq g4.symm))
  have hXa := W2.ext
  have K15 : Keep h h3 [] := ((Keep.refl h []).ext E5)
  have F16 := A1.mv K15
  refine g_static W2 d_jdk_52_method_16_code_9 (pc' := 12) (fr' := [t]) (argsL := [(.ref b), (.int (0 : Int32)), (.ref t), (.int (0 : Int32)), (.int (3 : Int32))]) (rest := []) (Wd := 0) (kc := 0) (ks := 0) rfl (hw _ (List.mem_of_getElem? (i := 40) rfl)) (hw _ (List.mem_of_getElem? (i := 41) rfl)) (hw _ (List.mem_of_getElem? (i := 38) rfl)) (hw _ (List.mem_of_getElem? (i := 42) rfl)) (by decide) rfl rfl (lenOf pd_4 rfl) rfl (allS (List.mem_of_getElem? (i := 0) rfl) (all0)) (by decide) (by decide) (Met.pays (rm_cl_3_2 hw hEL Sc hzc b t kb _ db c0 c1 c2 _ W2.ext F16 A8 nbt (W2.frs t (List.mem_of_getElem? (i := 0) rfl)).1 q0 q1 q2) (hw _ (List.mem_of_getElem? (i := 42) rfl)) (hw _ (List.mem_of_getElem? (i := 38) rfl)) hEL (by decide) (by decide)) fun v14 T9 h11 W10 K12 q13 => ?_
  obtain rfl := q13
  show Goes _ _ _ _ _ _ _ _ _ _ _ T9 (mkF m 12 #[.val (.ref b), .val (.int (0 : Int32)), .val (.int (3 : Int32)), .val (.ref t), .unset, .unset] [(.int (2 : Int32))])
  refine g_istore W10 d_jdk_52_method_16_code_12 (pc' := 14) (L' := #[.val (.ref b), .val (.int (0 : Int32)), .val (.int (3 : Int32)), .val (.ref t), .val (.int (2 : Int32)), .unset]) rfl rfl ?_
  refine g_iload W10 d_jdk_52_method_16_code_14 (pc' := 16) rfl rfl ?_
  refine g_iload_n W10 d_jdk_52_method_16_code_16 (pc' := 17) rfl rfl ?_
  refine g_icmpN W10 d_jdk_52_method_16_code_17 (pc' := 20) rfl (Jvm.Free.XT.ii_eq_f (by decide)) ?_
  refine g_aload_n W10 d_jdk_52_method_16_code_20 (pc' := 21) rfl rfl rfl ?_
  refine g_iload_n W10 d_jdk_52_method_16_code_21 (pc' := 22) rfl rfl ?_
  refine g_iload_n W10 d_jdk_52_method_16_code_22 (pc' := 23) rfl rfl ?_
  have K23 : Keep h h11 [] := (((Keep.refl h []).ext E5).trans K12 fun x q => by cases List.mem_singleton.mp q; exact Or.inr (Nat.le_of_eq g4.symm))
  have F24 := A1.mv K23
  refine g_static W10 d_jdk_52_method_16_code_23 (pc' := 26) (fr' := []) (argsL := [(.ref b), (.int (0 : Int32)), (.int (3 : Int32))]) (rest := []) (Wd := 0) (kc := 1) (ks := 6) rfl (hw _ (List.mem_of_getElem? (i := 46) rfl)) (hw _ (List.mem_of_getElem? (i := 47) rfl)) (hw _ (List.mem_of_getElem? (i := 38) rfl)) (hw _ (List.mem_of_getElem? (i := 48) rfl)) (by decide) rfl rfl (lenOf pd_5 rfl) rfl all0 (by decide) (by decide) (Met.pays (rm_tb_3 hw hEL Sc hzc b kb db c0 c1 c2 _ W10.ext Sa Sh Sl F24) (hw _ (List.mem_of_getElem? (i := 48) rfl)) (hw _ (List.mem_of_getElem? (i := 38) rfl)) hEL (by decide) (by decide)) fun v22 T17 h19 W18 K20 q21 => ?_
  obtain ⟨d, kd, rfl, gd, Ad⟩ := q21
  show Goes _ _ _ _ _ _ _ _ _ _ _ T17 (mkF m 26 #[.val (.ref b), .val (.int (0 : Int32)), .val (.int (3 : Int32)), .val (.ref t), .val (.int (2 : Int32)), .unset] [(.ref d)])
  refine g_astore W18 d_jdk_52_method_16_code_26 (pc' := 28) (L' := #[.val (.ref b), .val (.int (0 : Int32)), .val (.int (3 : Int32)), .val (.ref t), .val (.int (2 : Int32)), .val (.ref d)]) rfl rfl rfl ?_
  refine g_aload W18 d_jdk_52_method_16_code_28 (pc' := 30) rfl rfl rfl ?_
  refine g_iload W18 d_jdk_52_method_16_code_30 (pc' := 32) rfl rfl ?_
  refine g_static W18 d_jdk_52_method_16_code_32 (pc' := 35) (fr' := []) (argsL := [(.ref d), (.int (2 : Int32))]) (rest := []) (Wd := 0) (kc := 0) (ks := 0) rfl (hw _ (List.mem_of_getElem? (i := 62) rfl)) (hw _ (List.mem_of_getElem? (i := 63) rfl)) (hw _ (List.mem_of_getElem? (i := 38) rfl)) (hw _ (List.mem_of_getElem? (i := 64) rfl)) (by decide) rfl rfl (lenOf pd_6 rfl) rfl all0 (by decide) (by decide) (Met.pays (rm_getChar hw hEL Sc hzc d kd (6 : Int32) (2 : Int32) c2 _ _ W18.ext Sa Sh Sl Ad (by decide) rfl (by decide) rfl r2) (hw _ (List.mem_of_getElem? (i := 64) rfl)) (hw _ (List.mem_of_getElem? (i := 38) rfl)) hEL (by decide) (by decide)) fun v30 T25 h27 W26 K28 q29 => ?_
  obtain ⟨rfl, rfl⟩ := q29
  show Goes _ _ _ _ _ _ _ _ _ _ _ T25 (mkF m 35 #[.val (.ref b), .val (.int (0 : Int32)), .val (.int (3 : Int32)), .val (.ref t), .val (.int (2 : Int32)), .val (.ref d)] [(.int c2)])
  refine g_sipush W26 d_jdk_52_method_16_code_35 (pc' := 38) (v := (255 : Int32)) rfl (by decide) ?_
  refine g_icmpY W26 d_jdk_52_method_16_code_38 (pc' := 54) (by decide) (by decide) (Jvm.Free.XT.ii_gt_t q2) ?_
  refine g_aload W26 d_jdk_52_method_16_code_54 (pc' := 56) rfl rfl rfl ?_
  have K31 : Keep h h19 [] := ((((Keep.refl h []).ext E5).trans K12 fun x q => by cases List.mem_singleton.mp q; exact Or.inr (Nat.le_of_eq g4.symm)).trans K20 fun _ q => nomatch q)
  exact g_areturn W26 d_jdk_52_method_16_code_56 rfl rfl rfl K31 ⟨_, _, rfl, Nat.le_trans K23.1 gd, Ad⟩ (by decide) (by decide)
set_option maxRecDepth 65536 in
set_option maxHeartbeats 40000000 in
theorem rm_new4_3_2 {l : Launch} {Z : State} {a0 : Array Value} (hw : ∀ d ∈ tables_1, d.before a0 Z = true) (hEL : EW Z a0 EL1) {zc : Int32} (Sc : Sta Z Z.heap "java/lang/String" "COMPACT_STRINGS" "Z" (.int zc)) (hzc : ¬ zc = 0) (a1 b : Addr) (kb : ClassId) (db : Value) (c0 c1 c2 : Int32) (h : Heap) (hX : Ext Z.heap h) (Sa : Sta Z Z.heap "java/lang/StringUTF16" "$assertionsDisabled" "Z" (.int (1 : Int32))) (Sh : Sta Z Z.heap "java/lang/StringUTF16" "HI_BYTE_SHIFT" "I" (.int (0 : Int32))) (Sl : Sta Z Z.heap "java/lang/StringUTF16" "LO_BYTE_SHIFT" "I" (.int (8 : Int32))) (g1 : Z.heap.size ≤ a1) (O1 : Obj Z h a1 "java/lang/String" [(("java/lang/String", "value", "[B"), .null), (("java/lang/String", "coder", "B"), (.int 0))]) (A1 : Arv Z h b kb .char (3 : Int32) [(.int c0), (.int c1), (.int c2)] db) (r0 : ¬ c0 < 0 ∧ ¬ (65535 : Int32) < c0) (r1 : ¬ c1 < 0 ∧ ¬ (65535 : Int32) < c1) (r2 : ¬ c2 < 0 ∧ ¬ (65535 : Int32) < c2) (q0 : ¬ (255 : Int32) < c0) (q1 : ¬ (255 : Int32) < c1) (q2 : (255 : Int32) < c2) : Met l Z EL1 NW (⟨"java/lang/String", "<init>", "([CIILjava/lang/Void;)V"⟩ : MethodName) jdk_42_method_149_code 6 none [] ({ frames := 4, cells := 2, slots := 9, locals := 70 } : Room) #[(.ref a1), (.ref b), (.int (0 : Int32)), (.int (3 : Int32)), .null] h [a1] (fun v h' => v = none ∧ Str Z h' a1 [c0, c1, c2]) := by
  refine Met.intro pf_0 hEL hX (allS ⟨g1, O1.lt⟩ all0) ?_
  intro p e s m below meth c T W
  refine Goes.cast (show entryFrame m #[(.ref a1), (.ref b), (.int (0 : Int32)), (.int (3 : Int32)), .null] 6 = mkF m 0 #[.val (.ref a1), .val (.ref b), .val (.int (0 : Int32)), .val (.int (3 : Int32)), .val .null, .unset] [] by first | (simp [entryFrame, mkF, argsToLocals, Value.category]; done) | rfl) ?_
  refine g_aload_n W d_jdk_42_method_149_code_0 (pc' := 1) rfl rfl rfl ?_
  refine g_initO W d_jdk_42_method_149_code_1 (pc' := 4) (Wd := 0) rfl (hw _ (List.mem_of_getElem? (i := 15) rfl)) (hw _ (List.mem_of_getElem? (i := 16) rfl)) (hw _ (List.mem_of_getElem? (i := 17) rfl)) rfl rfl (by decide) (by decide) fun T1 W2 => ?_
  refine g_iload_n W2 d_jdk_42_method_149_code_4 (pc' := 5) rfl rfl ?_
  refine g_ifY W2 d_jdk_42_method_149_code_5 (pc' := 27) (by decide) (by decide) (Jvm.Free.XT.i0_ne_t (by decide)) ?_
  refine g_getstatic W2 d_jdk_42_method_149_code_27 (pc' := 30) rfl (hw _ (List.mem_of_getElem? (i := 35) rfl)) Via.refl Sc fun T3 W4 => ?_
  refine g_ifN W4 d_jdk_42_method_149_code_30 (pc' := 33) rfl (Jvm.Free.XT.i0_eq_f hzc) ?_
  refine g_aload_n W4 d_jdk_42_method_149_code_33 (pc' := 34) rfl rfl rfl ?_
  refine g_iload_n W4 d_jdk_42_method_149_code_34 (pc' := 35) rfl rfl ?_
  refine g_iload_n W4 d_jdk_42_method_149_code_35 (pc' := 36) rfl rfl ?_
  refine g_static W4 d_jdk_42_method_149_code_36 (pc' := 39) (fr' := []) (argsL := [(.ref b), (.int (0 : Int32)), (.int (3 : Int32))]) (rest := []) (Wd := 0) (kc := 2) (ks := 9) rfl (hw _ (List.mem_of_getElem? (i := 36) rfl)) (hw _ (List.mem_of_getElem? (i := 37) rfl)) (hw _ (List.mem_of_getElem? (i := 38) rfl)) (hw _ (List.mem_of_getElem? (i := 39) rfl)) (by decide) rfl rfl (lenOf pd_5 rfl) rfl all0 (by decide) (by decide) (Met.pays (rm_c16_3_2 hw hEL Sc hzc b kb db c0 c1 c2 _ W4.ext Sa Sh Sl A1 r0 r1 r2 q0 q1 q2) (hw _ (List.mem_of_getElem? (i := 39) rfl)) (hw _ (List.mem_of_getElem? (i := 38) rfl)) hEL (by decide) (by decide)) fun v10 T5 h7 W6 K8 q9 => ?_
  obtain ⟨d, kd, rfl, gd, Ad⟩ := q9
  show Goes _ _ _ _ _ _ _ _ _ _ _ T5 (mkF m 39 #[.val (.ref a1), .val (.ref b), .val (.int (0 : Int32)), .val (.int (3 : Int32)), .val .null, .unset] [(.ref d)])
  have nda : d ≠ a1 := Nat.ne_of_gt (Nat.lt_of_lt_of_le O1.lt gd)
  refine g_astore W6 d_jdk_42_method_149_code_39 (pc' := 41) (L' := #[.val (.ref a1), .val (.ref b), .val (.int (0 : Int32)), .val (.int (3 : Int32)), .val .null, .val (.ref d)]) rfl rfl rfl ?_
  refine g_aload_n W6 d_jdk_42_method_149_code_41 (pc' := 42) rfl rfl rfl ?_
  refine g_aload W6 d_jdk_42_method_149_code_42 (pc' := 44) rfl rfl rfl ?_
  refine g_iload_n W6 d_jdk_42_method_149_code_44 (pc' := 45) rfl rfl ?_
  refine g_static W6 d_jdk_42_method_149_code_45 (pc' := 48) (fr' := []) (argsL := [(.ref d), (.int (3 : Int32))]) (rest := [(.ref a1)]) (Wd := 1) (kc := 0) (ks := 0) rfl (hw _ (List.mem_of_getElem? (i := 43) rfl)) (hw _ (List.mem_of_getElem? (i := 44) rfl)) (hw _ (List.mem_of_getElem? (i := 38) rfl)) (hw _ (List.mem_of_getElem? (i := 45) rfl)) (by decide) rfl rfl (lenOf pd_7 rfl) rfl all0 (by decide) (by decide) (Met.pays (rm_cfa_3 hw hEL Sc hzc d kd _ _ _ W6.ext Ad) (hw _ (List.mem_of_getElem? (i := 45) rfl)) (hw _ (List.mem_of_getElem? (i := 38) rfl)) hEL (by decide) (by decide)) fun v16 T11 h13 W12 K14 q15 => ?_
  obtain ⟨rfl, rfl⟩ := q15
  show Goes _ _ _ _ _ _ _ _ _ _ _ T11 (mkF m 48 #[.val (.ref a1), .val (.ref b), .val (.int (0 : Int32)), .val (.int (3 : Int32)), .val .null, .val (.ref d)] [(.int (1 : Int32)), (.ref a1)])
  have K22 : Keep h h7 [] := ((Keep.refl h []).trans K8 fun _ q => nomatch q)
  have F23 := O1.mv K22
  refine g_putfield W12 d_jdk_42_method_149_code_48 (pc' := 51) (host := "") (ty := .byte) rfl (Or.inl (hw _ (List.mem_of_getElem? (i := 25) rfl))) Via.refl (F23.get 1 rfl) F23.1 (Or.inr ⟨(hw _ (List.mem_of_getElem? (i := 21) rfl)), rfl, rfl⟩) (hw _ (List.mem_of_getElem? (i := 5) rfl)) (by decide) rfl rfl (List.mem_of_getElem? (i := 0) rfl) fun T17 h19 W18 R20 => ?_
  have O21 : Obj Z h19 a1 "java/lang/String" [(("java/lang/String", "value", "[B"), .null), (("java/lang/String", "coder", "B"), (.int (1 : Int32)))] := F23.put R20 1 rfl (dis_Str hw)
  refine g_aload_n W18 d_jdk_42_method_149_code_51 (pc' := 52) rfl rfl rfl ?_
  refine g_aload W18 d_jdk_42_method_149_code_52 (pc' := 54) rfl rfl rfl ?_
  refine g_putfield W18 d_jdk_42_method_149_code_54 (pc' := 57) (host := "") (ty := (.array .byte)) rfl (Or.inl (hw _ (List.mem_of_getElem? (i := 24) rfl))) Via.refl (O21.get 0 rfl) O21.1 (Or.inr ⟨(hw _ (List.mem_of_getElem? (i := 20) rfl)), rfl, rfl⟩) (hw _ (List.mem_of_getElem? (i := 5) rfl)) (by decide) rfl rfl (List.mem_of_getElem? (i := 0) rfl) fun T24 h26 W25 R27 => ?_
  have O28 : Obj Z h26 a1 "java/lang/String" [(("java/lang/String", "value", "[B"), (.ref d)), (("java/lang/String", "coder", "B"), (.int (1 : Int32)))] := O21.put R27 0 rfl (dis_Str hw)
  have K29 : Keep h7 h26 [a1] := (((Keep.refl h7 [a1]).wr R20 (Or.inl (List.mem_of_getElem? (i := 0) rfl))).wr R27 (Or.inl (List.mem_of_getElem? (i := 0) rfl)))
  have F30 := Ad.keep K29 (ninS nda nin0)
  have K31 : Keep h h26 [a1] := ((((Keep.refl h [a1]).trans K8 fun _ q => nomatch q).wr R20 (Or.inl (List.mem_of_getElem? (i := 0) rfl))).wr R27 (Or.inl (List.mem_of_getElem? (i := 0) rfl)))
  exact g_return W25 d_jdk_42_method_149_code_57 K31 ⟨rfl, ⟨_, _, _, _, _, O28.1, O28.get 0 rfl, O28.get 1 rfl, F30, Or.inr ⟨rfl, rfl, rfl, c2, List.mem_of_getElem? (i := 2) rfl, q2⟩, (rngC r0 (rngC r1 (rngC r2 rngN))), Nat.le_of_ble_eq_true rfl⟩⟩ (by decide) (by decide)
set_option maxRecDepth 65536 in
set_option maxHeartbeats 40000000 in
theorem rm_new1_3_2 {l : Launch} {Z : State} {a0 : Array Value} (hw : ∀ d ∈ tables_1, d.before a0 Z = true) (hEL : EW Z a0 EL1) {zc : Int32} (Sc : Sta Z Z.heap "java/lang/String" "COMPACT_STRINGS" "Z" (.int zc)) (hzc : ¬ zc = 0) (a1 b : Addr) (kb : ClassId) (db : Value) (c0 c1 c2 : Int32) (h : Heap) (hX : Ext Z.heap h) (Sa : Sta Z Z.heap "java/lang/StringUTF16" "$assertionsDisabled" "Z" (.int (1 : Int32))) (Sh : Sta Z Z.heap "java/lang/StringUTF16" "HI_BYTE_SHIFT" "I" (.int (0 : Int32))) (Sl : Sta Z Z.heap "java/lang/StringUTF16" "LO_BYTE_SHIFT" "I" (.int (8 : Int32))) (g1 : Z.heap.size ≤ a1) (O1 : Obj Z h a1 "java/lang/String" [(("java/lang/String", "value", "[B"), .null), (("java/lang/String", "coder", "B"), (.int 0))]) (A1 : Arv Z h b kb .char (3 : Int32) [(.int c0), (.int c1), (.int c2)] db) (r0 : ¬ c0 < 0 ∧ ¬ (65535 : Int32) < c0) (r1 : ¬ c1 < 0 ∧ ¬ (65535 : Int32) < c1) (r2 : ¬ c2 < 0 ∧ ¬ (65535 : Int32) < c2) (q0 : ¬ (255 : Int32) < c0) (q1 : ¬ (255 : Int32) < c1) (q2 : (255 : Int32) < c2) : Met l Z EL1 NW (⟨"java/lang/String", "<init>", "([C)V"⟩ : MethodName) jdk_42_method_3_code 2 none [] ({ frames := 5, cells := 2, slots := 9, locals := 90 } : Room) #[(.ref a1), (.ref b)] h [a1] (fun v h' => v = none ∧ Str Z h' a1 [c0, c1, c2]) := by
  refine Met.intro pf_1 hEL hX (allS ⟨g1, O1.lt⟩ all0) ?_
  intro p e s m below meth c T W
  refine Goes.cast (show entryFrame m #[(.ref a1), (.ref b)] 2 = mkF m 0 #[.val (.ref a1), .val (.ref b)] [] by first | (simp [entryFrame, mkF, argsToLocals, Value.category]; done) | rfl) ?_
  refine g_aload_n W d_jdk_42_method_3_code_0 (pc' := 1) rfl rfl rfl ?_
  refine g_aload_n W d_jdk_42_method_3_code_1 (pc' := 2) rfl rfl rfl ?_
  refine g_iconst W d_jdk_42_method_3_code_2 (pc' := 3) (v := (0 : Int32)) rfl rfl ?_
  refine g_aload_n W d_jdk_42_method_3_code_3 (pc' := 4) rfl rfl rfl ?_
  refine g_arraylength W d_jdk_42_method_3_code_4 (pc' := 5) rfl A1 ?_
  refine g_aconst_null W d_jdk_42_method_3_code_5 (pc' := 6) rfl ?_
  refine g_special W d_jdk_42_method_3_code_6 (pc' := 9) (a := a1) (fr' := [a1]) (argsL := [(.ref b), (.int (0 : Int32)), (.int (3 : Int32)), .null]) (rest := []) (Wd := 0) (kc := 2) (ks := 9) rfl rfl (hw _ (List.mem_of_getElem? (i := 11) rfl)) (hw _ (List.mem_of_getElem? (i := 12) rfl)) (hw _ (List.mem_of_getElem? (i := 14) rfl)) (by decide) rfl rfl (lenOf pd_0 rfl) rfl (allS (List.mem_of_getElem? (i := 0) rfl) (all0)) (by decide) (by decide) (Met.pays (rm_new4_3_2 hw hEL Sc hzc a1 b kb db c0 c1 c2 _ W.ext Sa Sh Sl g1 O1 A1 r0 r1 r2 q0 q1 q2) (hw _ (List.mem_of_getElem? (i := 14) rfl)) (hw _ (List.mem_of_getElem? (i := 6) rfl)) hEL (by decide) (by decide)) fun v6 T1 h3 W2 K4 q5 => ?_
  obtain ⟨rfl, S1⟩ := q5
  show Goes _ _ _ _ _ _ _ _ _ _ _ T1 (mkF m 9 #[.val (.ref a1), .val (.ref b)] [])
  have K7 : Keep h h3 [a1] := ((Keep.refl h [a1]).trans K4 fun x q => by cases List.mem_singleton.mp q; exact Or.inl (List.mem_of_getElem? (i := 0) rfl))
  exact g_return W2 d_jdk_42_method_3_code_9 K7 ⟨rfl, S1⟩ (by decide) (by decide)
theorem pays_str_3 {l : Launch} {Z : State} {a0 : Array Value} (hw : ∀ d ∈ tables_1, d.before a0 Z = true) (hEL : EW Z a0 EL1) {zc : Int32} (Sc : Sta Z Z.heap "java/lang/String" "COMPACT_STRINGS" "Z" (.int zc)) (hzc : ¬ zc = 0) (Sa : Sta Z Z.heap "java/lang/StringUTF16" "$assertionsDisabled" "Z" (.int (1 : Int32))) (Sh : Sta Z Z.heap "java/lang/StringUTF16" "HI_BYTE_SHIFT" "I" (.int (0 : Int32))) (Sl : Sta Z Z.heap "java/lang/StringUTF16" "LO_BYTE_SHIFT" "I" (.int (8 : Int32))) {p : Program} {e : Env} {R : Room} {s : State} {args : Array Value} {below : List Frame} {Wd len : Nat} (x b : Addr) (kb : ClassId) (db : Value) (c0 c1 c2 : Int32) (h : Heap) (hX : Ext Z.heap h) (g1 : Z.heap.size ≤ x) (O1 : Obj Z h x "java/lang/String" [(("java/lang/String", "value", "[B"), .null), (("java/lang/String", "coder", "B"), (.int 0))]) (A1 : Arv Z h b kb .char (3 : Int32) [(.int c0), (.int c1), (.int c2)] db) (r0 : ¬ c0 < 0 ∧ ¬ (65535 : Int32) < c0) (r1 : ¬ c1 < 0 ∧ ¬ (65535 : Int32) < c1) (r2 : ¬ c2 < 0 ∧ ¬ (65535 : Int32) < c2) (hfr : 6 ≤ R.frames) (hlo : Wd + 103 ≤ R.locals) : Pays l R p e below s args Z EL1 NW (⟨"java/lang/String", "<init>", "([C)V"⟩ : MethodName) len Wd #[.ref x, .ref b] h [x] (fun v h' => v = none ∧ Str Z h' x [c0, c1, c2]) 2 9 := by
  by_cases q0 : (255 : Int32) < c0
  · exact Met.pays (rm_new1_3_0 hw hEL Sc hzc x b kb db c0 c1 c2 h hX Sa Sh Sl g1 O1 A1 r0 r1 r2 q0) (hw _ (List.mem_of_getElem? (i := 10) rfl)) (hw _ (List.mem_of_getElem? (i := 6) rfl)) hEL hfr (by show Wd + (2 + 11) + 90 ≤ _; omega)
  by_cases q1 : (255 : Int32) < c1
  · exact Met.pays (rm_new1_3_1 hw hEL Sc hzc x b kb db c0 c1 c2 h hX Sa Sh Sl g1 O1 A1 r0 r1 r2 q0 q1) (hw _ (List.mem_of_getElem? (i := 10) rfl)) (hw _ (List.mem_of_getElem? (i := 6) rfl)) hEL hfr (by show Wd + (2 + 11) + 90 ≤ _; omega)
  by_cases q2 : (255 : Int32) < c2
  · exact Met.pays (rm_new1_3_2 hw hEL Sc hzc x b kb db c0 c1 c2 h hX Sa Sh Sl g1 O1 A1 r0 r1 r2 q0 q1 q2) (hw _ (List.mem_of_getElem? (i := 10) rfl)) (hw _ (List.mem_of_getElem? (i := 6) rfl)) hEL hfr (by show Wd + (2 + 11) + 90 ≤ _; omega)
  exact (pays_newStr (cs := [c0, c1, c2]) (n := 3) hEL (fun d hd => hw d ((by decide +kernel : ∀ d ∈ StrChars.Road.words, d ∈ tables_1) d hd)) (hw _ (List.mem_of_getElem? (i := 5) rfl)) O1 A1 Sc hzc hX g1 rfl (by decide) (by decide) (by decide) (lowK ⟨r0.1, q0⟩ (lowK ⟨r1.1, q1⟩ (lowK ⟨r2.1, q2⟩ lowN))) (by omega) (by omega)).more (by decide) (by decide)
theorem d_method_2_code_0 : decode method_2_code 0 = .ok (.iload_n 1, 1) := by decide +kernel
theorem d_method_2_code_1 : decode method_2_code 1 = .ok (.i2c, 1) := by decide +kernel
theorem d_method_2_code_2 : decode method_2_code 2 = .ok (.istore 4, 2) := by decide +kernel
theorem d_method_2_code_4 : decode method_2_code 4 = .ok (.iload_n 2, 1) := by decide +kernel
theorem d_method_2_code_5 : decode method_2_code 5 = .ok (.i2c, 1) := by decide +kernel
theorem d_method_2_code_6 : decode method_2_code 6 = .ok (.istore 5, 2) := by decide +kernel
theorem d_method_2_code_8 : decode method_2_code 8 = .ok (.iload_n 3, 1) := by decide +kernel
theorem d_method_2_code_9 : decode method_2_code 9 = .ok (.i2c, 1) := by decide +kernel
theorem d_method_2_code_10 : decode method_2_code 10 = .ok (.istore 6, 2) := by decide +kernel
theorem d_method_2_code_12 : decode method_2_code 12 = .ok (.iload_n 0, 1) := by decide +kernel
theorem d_method_2_code_13 : decode method_2_code 13 = .ok (.ifCond .ne 14, 3) := by decide +kernel
theorem d_method_2_code_16 : decode method_2_code 16 = .ok (.new 7, 3) := by decide +kernel
theorem d_method_2_code_19 : decode method_2_code 19 = .ok (.dup, 1) := by decide +kernel
theorem d_method_2_code_20 : decode method_2_code 20 = .ok (.iconst 0, 1) := by decide +kernel
theorem d_method_2_code_21 : decode method_2_code 21 = .ok (.newarray .char, 2) := by decide +kernel
theorem d_method_2_code_23 : decode method_2_code 23 = .ok (.invokespecial 9, 3) := by decide +kernel
theorem pd_8 : parseMethodDescriptor "([C)V" = some ⟨[(.array .char)], none⟩ := by decide +kernel
theorem d_method_2_code_26 : decode method_2_code 26 = .ok (.areturn, 1) := by decide +kernel
theorem pf_10 : plainFor (⟨"com/example/tethercall/tethercall/ServiceAddressIsAddressPinLaw", "drawn", "(IIII)Ljava/lang/String;"⟩ : MethodName) = true := by first | (exact plainFor_of_name (by first | (simp [plainName, overriddenIn]; done) | decide +kernel)) | decide +kernel
set_option maxRecDepth 65536 in
set_option maxHeartbeats 40000000 in
theorem rm_dr_0 {l : Launch} {Z : State} {a0 : Array Value} (hw : ∀ d ∈ tables_1, d.before a0 Z = true) (hEL : EW Z a0 EL1) {zc : Int32} (Sc : Sta Z Z.heap "java/lang/String" "COMPACT_STRINGS" "Z" (.int zc)) (hzc : ¬ zc = 0) (p2 p3 p4 : Int32) (h : Heap) (hX : Ext Z.heap h) (Sa : Sta Z Z.heap "java/lang/StringUTF16" "$assertionsDisabled" "Z" (.int (1 : Int32))) (Sh : Sta Z Z.heap "java/lang/StringUTF16" "HI_BYTE_SHIFT" "I" (.int (0 : Int32))) (Sl : Sta Z Z.heap "java/lang/StringUTF16" "LO_BYTE_SHIFT" "I" (.int (8 : Int32))) : Met l Z EL1 NW (⟨"com/example/tethercall/tethercall/ServiceAddressIsAddressPinLaw", "drawn", "(IIII)Ljava/lang/String;"⟩ : MethodName) method_2_code 7 (some (.object "java/lang/String")) [] ({ frames := 6, cells := 6, slots := 20, locals := 110 } : Room) #[(.int (0 : Int32)), (.int p2), (.int p3), (.int p4)] h [] (fun v h' => ∃ a cs, v = some (.ref a) ∧ Str Z h' a cs ∧ cs.length = 0) := by
  refine Met.intro pf_10 hEL hX (fun _ q => nomatch q) ?_
  intro p e s m below meth c T W
  refine Goes.cast (show entryFrame m #[(.int (0 : Int32)), (.int p2), (.int p3), (.int p4)] 7 = mkF m 0 #[.val (.int (0 : Int32)), .val (.int p2), .val (.int p3), .val (.int p4), .unset, .unset, .unset] [] by first | (simp [entryFrame, mkF, argsToLocals, Value.category]; done) | rfl) ?_
  refine g_iload_n W d_method_2_code_0 (pc' := 1) rfl rfl ?_
  refine g_i2c W d_method_2_code_1 (pc' := 2) rfl ?_
  refine g_istore W d_method_2_code_2 (pc' := 4) (L' := #[.val (.int (0 : Int32)), .val (.int p2), .val (.int p3), .val (.int p4), .val (.int p2.toUInt32.toUInt16.toUInt32.toInt32), .unset, .unset]) rfl rfl ?_
  refine g_iload_n W d_method_2_code_4 (pc' := 5) rfl rfl ?_
  refine g_i2c W d_method_2_code_5 (pc' := 6) rfl ?_
  refine g_istore W d_method_2_code_6 (pc' := 8) (L' := #[.val (.int (0 : Int32)), .val (.int p2), .val (.int p3), .val (.int p4), .val (.int p2.toUInt32.toUInt16.toUInt32.toInt32), .val (.int p3.toUInt32.toUInt16.toUInt32.toInt32), .unset]) rfl rfl ?_
  refine g_iload_n W d_method_2_code_8 (pc' := 9) rfl rfl ?_
  refine g_i2c W d_method_2_code_9 (pc' := 10) rfl ?_
  refine g_istore W d_method_2_code_10 (pc' := 12) (L' := #[.val (.int (0 : Int32)), .val (.int p2), .val (.int p3), .val (.int p4), .val (.int p2.toUInt32.toUInt16.toUInt32.toInt32), .val (.int p3.toUInt32.toUInt16.toUInt32.toInt32), .val (.int p4.toUInt32.toUInt16.toUInt32.toInt32)]) rfl rfl ?_
  refine g_iload_n W d_method_2_code_12 (pc' := 13) rfl rfl ?_
  refine g_ifN W d_method_2_code_13 (pc' := 16) rfl (Jvm.Free.XT.i0_ne_f rfl) ?_
  refine g_new W d_method_2_code_16 (pc' := 19) rfl (hw _ (List.mem_of_getElem? (i := 4) rfl)) (hw _ (List.mem_of_getElem? (i := 5) rfl)) (hw _ (List.mem_of_getElem? (i := 6) rfl)) (by decide) (by decide) fun T1 h3 b1 g4 W2 E5 A6 D7 => ?_
  have O_b1 := new_Str hw A6 D7
  refine g_dup W2 d_method_2_code_19 (pc' := 20) rfl rfl ?_
  refine g_iconst W2 d_method_2_code_20 (pc' := 21) (v := (0 : Int32)) rfl rfl ?_
  refine g_newarray W2 d_method_2_code_21 (pc' := 23) (cap := 0) rfl (hw _ (List.mem_of_getElem? (i := 7) rfl)) (by decide) (by decide) (by decide) (by decide) (by decide) fun T8 h10 b2 kA14 g11 W9 E12 A13 => ?_
  have A15 : Arv Z h10 b2 kA14 .char (0 : Int32) [] (.int (0 : Int32)) := A13.pad (pad_rep [] (.int (0 : Int32)) 0)
  have K16 : Keep h3 h10 [] := ((Keep.refl h3 []).ext E12)
  have F17 := O_b1.mv K16
  refine g_special W9 d_method_2_code_23 (pc' := 26) (a := b1) (fr' := [b1]) (argsL := [(.ref b2)]) (rest := [(.ref b1)]) (Wd := 1) (kc := 4) (ks := 8) rfl rfl (hw _ (List.mem_of_getElem? (i := 8) rfl)) (hw _ (List.mem_of_getElem? (i := 9) rfl)) (hw _ (List.mem_of_getElem? (i := 10) rfl)) (by decide) rfl rfl (lenOf pd_8 rfl) rfl (allS (List.mem_of_getElem? (i := 1) rfl) (all0)) (by decide) (by decide) (Met.pays (rm_new1e hw hEL Sc hzc b1 b2 _ _ _ _ W9.ext (W9.frs b1 (List.mem_of_getElem? (i := 1) rfl)).1 F17 A15) (hw _ (List.mem_of_getElem? (i := 10) rfl)) (hw _ (List.mem_of_getElem? (i := 6) rfl)) hEL (by decide) (by decide)) fun v23 T18 h20 W19 K21 q22 => ?_
  obtain ⟨rfl, S_b1⟩ := q22
  show Goes _ _ _ _ _ _ _ _ _ _ _ T18 (mkF m 26 #[.val (.int (0 : Int32)), .val (.int p2), .val (.int p3), .val (.int p4), .val (.int p2.toUInt32.toUInt16.toUInt32.toInt32), .val (.int p3.toUInt32.toUInt16.toUInt32.toInt32), .val (.int p4.toUInt32.toUInt16.toUInt32.toInt32)] [(.ref b1)])
  have K24 : Keep h h20 [] := ((((Keep.refl h []).ext E5).ext E12).trans K21 fun x q => by cases List.mem_singleton.mp q; exact Or.inr (Nat.le_of_eq g4.symm))
  exact g_areturn W19 d_method_2_code_26 rfl rfl rfl K24 ⟨_, _, rfl, S_b1, rfl⟩ (by decide) (by decide)
theorem d_method_2_code_27 : decode method_2_code 27 = .ok (.iload_n 0, 1) := by decide +kernel
theorem d_method_2_code_28 : decode method_2_code 28 = .ok (.iconst 1, 1) := by decide +kernel
theorem d_method_2_code_29 : decode method_2_code 29 = .ok (.if_icmp .ne 19, 3) := by decide +kernel
theorem d_method_2_code_32 : decode method_2_code 32 = .ok (.new 7, 3) := by decide +kernel
theorem d_method_2_code_35 : decode method_2_code 35 = .ok (.dup, 1) := by decide +kernel
theorem d_method_2_code_36 : decode method_2_code 36 = .ok (.iconst 1, 1) := by decide +kernel
theorem d_method_2_code_37 : decode method_2_code 37 = .ok (.newarray .char, 2) := by decide +kernel
theorem d_method_2_code_39 : decode method_2_code 39 = .ok (.dup, 1) := by decide +kernel
theorem d_method_2_code_40 : decode method_2_code 40 = .ok (.iconst 0, 1) := by decide +kernel
theorem d_method_2_code_41 : decode method_2_code 41 = .ok (.iload 4, 2) := by decide +kernel
theorem d_method_2_code_43 : decode method_2_code 43 = .ok (.castore, 1) := by decide +kernel
theorem d_method_2_code_44 : decode method_2_code 44 = .ok (.invokespecial 9, 3) := by decide +kernel
theorem d_method_2_code_47 : decode method_2_code 47 = .ok (.areturn, 1) := by decide +kernel
set_option maxRecDepth 65536 in
set_option maxHeartbeats 40000000 in
theorem rm_dr_1 {l : Launch} {Z : State} {a0 : Array Value} (hw : ∀ d ∈ tables_1, d.before a0 Z = true) (hEL : EW Z a0 EL1) {zc : Int32} (Sc : Sta Z Z.heap "java/lang/String" "COMPACT_STRINGS" "Z" (.int zc)) (hzc : ¬ zc = 0) (p2 p3 p4 : Int32) (h : Heap) (hX : Ext Z.heap h) (Sa : Sta Z Z.heap "java/lang/StringUTF16" "$assertionsDisabled" "Z" (.int (1 : Int32))) (Sh : Sta Z Z.heap "java/lang/StringUTF16" "HI_BYTE_SHIFT" "I" (.int (0 : Int32))) (Sl : Sta Z Z.heap "java/lang/StringUTF16" "LO_BYTE_SHIFT" "I" (.int (8 : Int32))) : Met l Z EL1 NW (⟨"com/example/tethercall/tethercall/ServiceAddressIsAddressPinLaw", "drawn", "(IIII)Ljava/lang/String;"⟩ : MethodName) method_2_code 7 (some (.object "java/lang/String")) [] ({ frames := 6, cells := 6, slots := 20, locals := 110 } : Room) #[(.int (1 : Int32)), (.int p2), (.int p3), (.int p4)] h [] (fun v h' => ∃ a cs, v = some (.ref a) ∧ Str Z h' a cs ∧ cs.length = 1) := by
  refine Met.intro pf_10 hEL hX (fun _ q => nomatch q) ?_
  intro p e s m below meth c T W
  refine Goes.cast (show entryFrame m #[(.int (1 : Int32)), (.int p2), (.int p3), (.int p4)] 7 = mkF m 0 #[.val (.int (1 : Int32)), .val (.int p2), .val (.int p3), .val (.int p4), .unset, .unset, .unset] [] by first | (simp [entryFrame, mkF, argsToLocals, Value.category]; done) | rfl) ?_
  refine g_iload_n W d_method_2_code_0 (pc' := 1) rfl rfl ?_
  refine g_i2c W d_method_2_code_1 (pc' := 2) rfl ?_
  refine g_istore W d_method_2_code_2 (pc' := 4) (L' := #[.val (.int (1 : Int32)), .val (.int p2), .val (.int p3), .val (.int p4), .val (.int p2.toUInt32.toUInt16.toUInt32.toInt32), .unset, .unset]) rfl rfl ?_
  refine g_iload_n W d_method_2_code_4 (pc' := 5) rfl rfl ?_
  refine g_i2c W d_method_2_code_5 (pc' := 6) rfl ?_
  refine g_istore W d_method_2_code_6 (pc' := 8) (L' := #[.val (.int (1 : Int32)), .val (.int p2), .val (.int p3), .val (.int p4), .val (.int p2.toUInt32.toUInt16.toUInt32.toInt32), .val (.int p3.toUInt32.toUInt16.toUInt32.toInt32), .unset]) rfl rfl ?_
  refine g_iload_n W d_method_2_code_8 (pc' := 9) rfl rfl ?_
  refine g_i2c W d_method_2_code_9 (pc' := 10) rfl ?_
  refine g_istore W d_method_2_code_10 (pc' := 12) (L' := #[.val (.int (1 : Int32)), .val (.int p2), .val (.int p3), .val (.int p4), .val (.int p2.toUInt32.toUInt16.toUInt32.toInt32), .val (.int p3.toUInt32.toUInt16.toUInt32.toInt32), .val (.int p4.toUInt32.toUInt16.toUInt32.toInt32)]) rfl rfl ?_
  refine g_iload_n W d_method_2_code_12 (pc' := 13) rfl rfl ?_
  refine g_ifY W d_method_2_code_13 (pc' := 27) (by decide) (by decide) (Jvm.Free.XT.i0_ne_t (by decide)) ?_
  refine g_iload_n W d_method_2_code_27 (pc' := 28) rfl rfl ?_
  refine g_iconst W d_method_2_code_28 (pc' := 29) (v := (1 : Int32)) rfl rfl ?_
  refine g_icmpN W d_method_2_code_29 (pc' := 32) rfl (Jvm.Free.XT.ii_ne_f rfl) ?_
  refine g_new W d_method_2_code_32 (pc' := 35) rfl (hw _ (List.mem_of_getElem? (i := 4) rfl)) (hw _ (List.mem_of_getElem? (i := 5) rfl)) (hw _ (List.mem_of_getElem? (i := 6) rfl)) (by decide) (by decide) fun T1 h3 b1 g4 W2 E5 A6 D7 => ?_
  have O_b1 := new_Str hw A6 D7
  refine g_dup W2 d_method_2_code_35 (pc' := 36) rfl rfl ?_
  refine g_iconst W2 d_method_2_code_36 (pc' := 37) (v := (1 : Int32)) rfl rfl ?_
  refine g_newarray W2 d_method_2_code_37 (pc' := 39) (cap := 1) rfl (hw _ (List.mem_of_getElem? (i := 7) rfl)) (by decide) (by decide) (by decide) (by decide) (by decide) fun T8 h10 b2 kA14 g11 W9 E12 A13 => ?_
  have A15 : Arv Z h10 b2 kA14 .char (1 : Int32) [(.int (0 : Int32))] (.int (0 : Int32)) := A13.pad (pad_rep [] (.int (0 : Int32)) 1)
  refine g_dup W9 d_method_2_code_39 (pc' := 40) rfl rfl ?_
  refine g_iconst W9 d_method_2_code_40 (pc' := 41) (v := (0 : Int32)) rfl rfl ?_
  refine g_iload W9 d_method_2_code_41 (pc' := 43) rfl rfl ?_
  refine g_castore W9 d_method_2_code_43 (pc' := 44) (i := 0) (x' := p2.toUInt32.toUInt16.toUInt32.toInt32) rfl (nar_ch _) A15 ⟨by decide, by decide⟩ rfl (Nat.le_of_ble_eq_true rfl) (List.mem_of_getElem? (i := 0) rfl) fun T16 h18 W17 R19 A20 => ?_
  have A21 : Arv Z h18 b2 kA14 .char (1 : Int32) [(.int p2.toUInt32.toUInt16.toUInt32.toInt32)] (.int (0 : Int32)) := A20
  have K22 : Keep h3 h18 [] := (((Keep.refl h3 []).ext E12).wr R19 (Or.inr (Nat.le_of_eq g11.symm)))
  have F23 := O_b1.mv K22
  refine g_special W17 d_method_2_code_44 (pc' := 47) (a := b1) (fr' := [b1]) (argsL := [(.ref b2)]) (rest := [(.ref b1)]) (Wd := 1) (kc := 2) (ks := 3) rfl rfl (hw _ (List.mem_of_getElem? (i := 8) rfl)) (hw _ (List.mem_of_getElem? (i := 9) rfl)) (hw _ (List.mem_of_getElem? (i := 10) rfl)) (by decide) rfl rfl (lenOf pd_8 rfl) rfl (allS (List.mem_of_getElem? (i := 1) rfl) (all0)) (by decide) (by decide) (pays_str_1 hw hEL Sc hzc Sa Sh Sl b1 b2 _ _ p2.toUInt32.toUInt16.toUInt32.toInt32 _ W17.ext (W17.frs b1 (List.mem_of_getElem? (i := 1) rfl)).1 F23 A21 (rng_ch _) (by decide) (by decide)) fun v29 T24 h26 W25 K27 q28 => ?_
  obtain ⟨rfl, S_b1⟩ := q28
  show Goes _ _ _ _ _ _ _ _ _ _ _ T24 (mkF m 47 #[.val (.int (1 : Int32)), .val (.int p2), .val (.int p3), .val (.int p4), .val (.int p2.toUInt32.toUInt16.toUInt32.toInt32), .val (.int p3.toUInt32.toUInt16.toUInt32.toInt32), .val (.int p4.toUInt32.toUInt16.toUInt32.toInt32)] [(.ref b1)])
  have K30 : Keep h h3 [] := ((Keep.refl h []).ext E5)
  have K31 : Keep h h26 [] := (((((Keep.refl h []).ext E5).ext E12).wr R19 (Or.inr (Nat.le_trans K30.1 (Nat.le_of_eq g11.symm)))).trans K27 fun x q => by cases List.mem_singleton.mp q; exact Or.inr (Nat.le_of_eq g4.symm))
  exact g_areturn W25 d_method_2_code_47 rfl rfl rfl K31 ⟨_, _, rfl, S_b1, rfl⟩ (by decide) (by decide)
theorem d_method_2_code_48 : decode method_2_code 48 = .ok (.iload_n 0, 1) := by decide +kernel
theorem d_method_2_code_49 : decode method_2_code 49 = .ok (.iconst 2, 1) := by decide +kernel
theorem d_method_2_code_50 : decode method_2_code 50 = .ok (.if_icmp .ne 24, 3) := by decide +kernel
theorem d_method_2_code_53 : decode method_2_code 53 = .ok (.new 7, 3) := by decide +kernel
theorem d_method_2_code_56 : decode method_2_code 56 = .ok (.dup, 1) := by decide +kernel
theorem d_method_2_code_57 : decode method_2_code 57 = .ok (.iconst 2, 1) := by decide +kernel
theorem d_method_2_code_58 : decode method_2_code 58 = .ok (.newarray .char, 2) := by decide +kernel
theorem d_method_2_code_60 : decode method_2_code 60 = .ok (.dup, 1) := by decide +kernel
theorem d_method_2_code_61 : decode method_2_code 61 = .ok (.iconst 0, 1) := by decide +kernel
theorem d_method_2_code_62 : decode method_2_code 62 = .ok (.iload 4, 2) := by decide +kernel
theorem d_method_2_code_64 : decode method_2_code 64 = .ok (.castore, 1) := by decide +kernel
theorem d_method_2_code_65 : decode method_2_code 65 = .ok (.dup, 1) := by decide +kernel
theorem d_method_2_code_66 : decode method_2_code 66 = .ok (.iconst 1, 1) := by decide +kernel
theorem d_method_2_code_67 : decode method_2_code 67 = .ok (.iload 5, 2) := by decide +kernel
theorem d_method_2_code_69 : decode method_2_code 69 = .ok (.castore, 1) := by decide +kernel
theorem d_method_2_code_70 : decode method_2_code 70 = .ok (.invokespecial 9, 3) := by decide +kernel
theorem d_method_2_code_73 : decode method_2_code 73 = .ok (.areturn, 1) := by decide +kernel
set_option maxRecDepth 65536 in
set_option maxHeartbeats 40000000 in
theorem rm_dr_2 {l : Launch} {Z : State} {a0 : Array Value} (hw : ∀ d ∈ tables_1, d.before a0 Z = true) (hEL : EW Z a0 EL1) {zc : Int32} (Sc : Sta Z Z.heap "java/lang/String" "COMPACT_STRINGS" "Z" (.int zc)) (hzc : ¬ zc = 0) (p2 p3 p4 : Int32) (h : Heap) (hX : Ext Z.heap h) (Sa : Sta Z Z.heap "java/lang/StringUTF16" "$assertionsDisabled" "Z" (.int (1 : Int32))) (Sh : Sta Z Z.heap "java/lang/StringUTF16" "HI_BYTE_SHIFT" "I" (.int (0 : Int32))) (Sl : Sta Z Z.heap "java/lang/StringUTF16" "LO_BYTE_SHIFT" "I" (.int (8 : Int32))) : Met l Z EL1 NW (⟨"com/example/tethercall/tethercall/ServiceAddressIsAddressPinLaw", "drawn", "(IIII)Ljava/lang/String;"⟩ : MethodName) method_2_code 7 (some (.object "java/lang/String")) [] ({ frames := 6, cells := 6, slots := 20, locals := 110 } : Room) #[(.int (2 : Int32)), (.int p2), (.int p3), (.int p4)] h [] (fun v h' => ∃ a cs, v = some (.ref a) ∧ Str Z h' a cs ∧ cs.length = 2) := by
  refine Met.intro pf_10 hEL hX (fun _ q => nomatch q) ?_
  intro p e s m below meth c T W
  refine Goes.cast (show entryFrame m #[(.int (2 : Int32)), (.int p2), (.int p3), (.int p4)] 7 = mkF m 0 #[.val (.int (2 : Int32)), .val (.int p2), .val (.int p3), .val (.int p4), .unset, .unset, .unset] [] by first | (simp [entryFrame, mkF, argsToLocals, Value.category]; done) | rfl) ?_
  refine g_iload_n W d_method_2_code_0 (pc' := 1) rfl rfl ?_
  refine g_i2c W d_method_2_code_1 (pc' := 2) rfl ?_
  refine g_istore W d_method_2_code_2 (pc' := 4) (L' := #[.val (.int (2 : Int32)), .val (.int p2), .val (.int p3), .val (.int p4), .val (.int p2.toUInt32.toUInt16.toUInt32.toInt32), .unset, .unset]) rfl rfl ?_
  refine g_iload_n W d_method_2_code_4 (pc' := 5) rfl rfl ?_
  refine g_i2c W d_method_2_code_5 (pc' := 6) rfl ?_
  refine g_istore W d_method_2_code_6 (pc' := 8) (L' := #[.val (.int (2 : Int32)), .val (.int p2), .val (.int p3), .val (.int p4), .val (.int p2.toUInt32.toUInt16.toUInt32.toInt32), .val (.int p3.toUInt32.toUInt16.toUInt32.toInt32), .unset]) rfl rfl ?_
  refine g_iload_n W d_method_2_code_8 (pc' := 9) rfl rfl ?_
  refine g_i2c W d_method_2_code_9 (pc' := 10) rfl ?_
  refine g_istore W d_method_2_code_10 (pc' := 12) (L' := #[.val (.int (2 : Int32)), .val (.int p2), .val (.int p3), .val (.int p4), .val (.int p2.toUInt32.toUInt16.toUInt32.toInt32), .val (.int p3.toUInt32.toUInt16.toUInt32.toInt32), .val (.int p4.toUInt32.toUInt16.toUInt32.toInt32)]) rfl rfl ?_
  refine g_iload_n W d_method_2_code_12 (pc' := 13) rfl rfl ?_
  refine g_ifY W d_method_2_code_13 (pc' := 27) (by decide) (by decide) (Jvm.Free.XT.i0_ne_t (by decide)) ?_
  refine g_iload_n W d_method_2_code_27 (pc' := 28) rfl rfl ?_
  refine g_iconst W d_method_2_code_28 (pc' := 29) (v := (1 : Int32)) rfl rfl ?_
  refine g_icmpY W d_method_2_code_29 (pc' := 48) (by decide) (by decide) (Jvm.Free.XT.ii_ne_t (by decide)) ?_
  refine g_iload_n W d_method_2_code_48 (pc' := 49) rfl rfl ?_
  refine g_iconst W d_method_2_code_49 (pc' := 50) (v := (2 : Int32)) rfl rfl ?_
  refine g_icmpN W d_method_2_code_50 (pc' := 53) rfl (Jvm.Free.XT.ii_ne_f rfl) ?_
  refine g_new W d_method_2_code_53 (pc' := 56) rfl (hw _ (List.mem_of_getElem? (i := 4) rfl)) (hw _ (List.mem_of_getElem? (i := 5) rfl)) (hw _ (List.mem_of_getElem? (i := 6) rfl)) (by decide) (by decide) fun T1 h3 b1 g4 W2 E5 A6 D7 => ?_
  have O_b1 := new_Str hw A6 D7
  refine g_dup W2 d_method_2_code_56 (pc' := 57) rfl rfl ?_
  refine g_iconst W2 d_method_2_code_57 (pc' := 58) (v := (2 : Int32)) rfl rfl ?_
  refine g_newarray W2 d_method_2_code_58 (pc' := 60) (cap := 2) rfl (hw _ (List.mem_of_getElem? (i := 7) rfl)) (by decide) (by decide) (by decide) (by decide) (by decide) fun T8 h10 b2 kA14 g11 W9 E12 A13 => ?_
  have A15 : Arv Z h10 b2 kA14 .char (2 : Int32) [(.int (0 : Int32)), (.int (0 : Int32))] (.int (0 : Int32)) := A13.pad (pad_rep [] (.int (0 : Int32)) 2)
  refine g_dup W9 d_method_2_code_60 (pc' := 61) rfl rfl ?_
  refine g_iconst W9 d_method_2_code_61 (pc' := 62) (v := (0 : Int32)) rfl rfl ?_
  refine g_iload W9 d_method_2_code_62 (pc' := 64) rfl rfl ?_
  refine g_castore W9 d_method_2_code_64 (pc' := 65) (i := 0) (x' := p2.toUInt32.toUInt16.toUInt32.toInt32) rfl (nar_ch _) A15 ⟨by decide, by decide⟩ rfl (Nat.le_of_ble_eq_true rfl) (List.mem_of_getElem? (i := 0) rfl) fun T16 h18 W17 R19 A20 => ?_
  have A21 : Arv Z h18 b2 kA14 .char (2 : Int32) [(.int p2.toUInt32.toUInt16.toUInt32.toInt32), (.int (0 : Int32))] (.int (0 : Int32)) := A20
  refine g_dup W17 d_method_2_code_65 (pc' := 66) rfl rfl ?_
  refine g_iconst W17 d_method_2_code_66 (pc' := 67) (v := (1 : Int32)) rfl rfl ?_
  refine g_iload W17 d_method_2_code_67 (pc' := 69) rfl rfl ?_
  refine g_castore W17 d_method_2_code_69 (pc' := 70) (i := 1) (x' := p3.toUInt32.toUInt16.toUInt32.toInt32) rfl (nar_ch _) A21 ⟨by decide, by decide⟩ rfl (Nat.le_of_ble_eq_true rfl) (List.mem_of_getElem? (i := 0) rfl) fun T22 h24 W23 R25 A26 => ?_
  have A27 : Arv Z h24 b2 kA14 .char (2 : Int32) [(.int p2.toUInt32.toUInt16.toUInt32.toInt32), (.int p3.toUInt32.toUInt16.toUInt32.toInt32)] (.int (0 : Int32)) := A26
  have K28 : Keep h3 h24 [] := ((((Keep.refl h3 []).ext E12).wr R19 (Or.inr (Nat.le_of_eq g11.symm))).wr R25 (Or.inr (Nat.le_of_eq g11.symm)))
  have F29 := O_b1.mv K28
  refine g_special W23 d_method_2_code_70 (pc' := 73) (a := b1) (fr' := [b1]) (argsL := [(.ref b2)]) (rest := [(.ref b1)]) (Wd := 1) (kc := 2) (ks := 6) rfl rfl (hw _ (List.mem_of_getElem? (i := 8) rfl)) (hw _ (List.mem_of_getElem? (i := 9) rfl)) (hw _ (List.mem_of_getElem? (i := 10) rfl)) (by decide) rfl rfl (lenOf pd_8 rfl) rfl (allS (List.mem_of_getElem? (i := 1) rfl) (all0)) (by decide) (by decide) (pays_str_2 hw hEL Sc hzc Sa Sh Sl b1 b2 _ _ p2.toUInt32.toUInt16.toUInt32.toInt32 p3.toUInt32.toUInt16.toUInt32.toInt32 _ W23.ext (W23.frs b1 (List.mem_of_getElem? (i := 1) rfl)).1 F29 A27 (rng_ch _) (rng_ch _) (by decide) (by decide)) fun v35 T30 h32 W31 K33 q34 => ?_
  obtain ⟨rfl, S_b1⟩ := q34
  show Goes _ _ _ _ _ _ _ _ _ _ _ T30 (mkF m 73 #[.val (.int (2 : Int32)), .val (.int p2), .val (.int p3), .val (.int p4), .val (.int p2.toUInt32.toUInt16.toUInt32.toInt32), .val (.int p3.toUInt32.toUInt16.toUInt32.toInt32), .val (.int p4.toUInt32.toUInt16.toUInt32.toInt32)] [(.ref b1)])
  have K36 : Keep h h3 [] := ((Keep.refl h []).ext E5)
  have K37 : Keep h h32 [] := ((((((Keep.refl h []).ext E5).ext E12).wr R19 (Or.inr (Nat.le_trans K36.1 (Nat.le_of_eq g11.symm)))).wr R25 (Or.inr (Nat.le_trans K36.1 (Nat.le_of_eq g11.symm)))).trans K33 fun x q => by cases List.mem_singleton.mp q; exact Or.inr (Nat.le_of_eq g4.symm))
  exact g_areturn W31 d_method_2_code_73 rfl rfl rfl K37 ⟨_, _, rfl, S_b1, rfl⟩ (by decide) (by decide)
theorem d_method_2_code_74 : decode method_2_code 74 = .ok (.new 7, 3) := by decide +kernel
theorem d_method_2_code_77 : decode method_2_code 77 = .ok (.dup, 1) := by decide +kernel
theorem d_method_2_code_78 : decode method_2_code 78 = .ok (.iconst 3, 1) := by decide +kernel
theorem d_method_2_code_79 : decode method_2_code 79 = .ok (.newarray .char, 2) := by decide +kernel
theorem d_method_2_code_81 : decode method_2_code 81 = .ok (.dup, 1) := by decide +kernel
theorem d_method_2_code_82 : decode method_2_code 82 = .ok (.iconst 0, 1) := by decide +kernel
theorem d_method_2_code_83 : decode method_2_code 83 = .ok (.iload 4, 2) := by decide +kernel
theorem d_method_2_code_85 : decode method_2_code 85 = .ok (.castore, 1) := by decide +kernel
theorem d_method_2_code_86 : decode method_2_code 86 = .ok (.dup, 1) := by decide +kernel
theorem d_method_2_code_87 : decode method_2_code 87 = .ok (.iconst 1, 1) := by decide +kernel
theorem d_method_2_code_88 : decode method_2_code 88 = .ok (.iload 5, 2) := by decide +kernel
theorem d_method_2_code_90 : decode method_2_code 90 = .ok (.castore, 1) := by decide +kernel
theorem d_method_2_code_91 : decode method_2_code 91 = .ok (.dup, 1) := by decide +kernel
theorem d_method_2_code_92 : decode method_2_code 92 = .ok (.iconst 2, 1) := by decide +kernel
theorem d_method_2_code_93 : decode method_2_code 93 = .ok (.iload 6, 2) := by decide +kernel
theorem d_method_2_code_95 : decode method_2_code 95 = .ok (.castore, 1) := by decide +kernel
theorem d_method_2_code_96 : decode method_2_code 96 = .ok (.invokespecial 9, 3) := by decide +kernel
theorem d_method_2_code_99 : decode method_2_code 99 = .ok (.areturn, 1) := by decide +kernel
set_option maxRecDepth 65536 in
set_option maxHeartbeats 40000000 in
theorem rm_dr_3 {l : Launch} {Z : State} {a0 : Array Value} (hw : ∀ d ∈ tables_1, d.before a0 Z = true) (hEL : EW Z a0 EL1) {zc : Int32} (Sc : Sta Z Z.heap "java/lang/String" "COMPACT_STRINGS" "Z" (.int zc)) (hzc : ¬ zc = 0) (p2 p3 p4 : Int32) (h : Heap) (hX : Ext Z.heap h) (Sa : Sta Z Z.heap "java/lang/StringUTF16" "$assertionsDisabled" "Z" (.int (1 : Int32))) (Sh : Sta Z Z.heap "java/lang/StringUTF16" "HI_BYTE_SHIFT" "I" (.int (0 : Int32))) (Sl : Sta Z Z.heap "java/lang/StringUTF16" "LO_BYTE_SHIFT" "I" (.int (8 : Int32))) : Met l Z EL1 NW (⟨"com/example/tethercall/tethercall/ServiceAddressIsAddressPinLaw", "drawn", "(IIII)Ljava/lang/String;"⟩ : MethodName) method_2_code 7 (some (.object "java/lang/String")) [] ({ frames := 6, cells := 6, slots := 20, locals := 110 } : Room) #[(.int (3 : Int32)), (.int p2), (.int p3), (.int p4)] h [] (fun v h' => ∃ a cs, v = some (.ref a) ∧ Str Z h' a cs ∧ cs.length = 3) := by
  refine Met.intro pf_10 hEL hX (fun _ q => nomatch q) ?_
  intro p e s m below meth c T W
  refine Goes.cast (show entryFrame m #[(.int (3 : Int32)), (.int p2), (.int p3), (.int p4)] 7 = mkF m 0 #[.val (.int (3 : Int32)), .val (.int p2), .val (.int p3), .val (.int p4), .unset, .unset, .unset] [] by first | (simp [entryFrame, mkF, argsToLocals, Value.category]; done) | rfl) ?_
  refine g_iload_n W d_method_2_code_0 (pc' := 1) rfl rfl ?_
  refine g_i2c W d_method_2_code_1 (pc' := 2) rfl ?_
  refine g_istore W d_method_2_code_2 (pc' := 4) (L' := #[.val (.int (3 : Int32)), .val (.int p2), .val (.int p3), .val (.int p4), .val (.int p2.toUInt32.toUInt16.toUInt32.toInt32), .unset, .unset]) rfl rfl ?_
  refine g_iload_n W d_method_2_code_4 (pc' := 5) rfl rfl ?_
  refine g_i2c W d_method_2_code_5 (pc' := 6) rfl ?_
  refine g_istore W d_method_2_code_6 (pc' := 8) (L' := #[.val (.int (3 : Int32)), .val (.int p2), .val (.int p3), .val (.int p4), .val (.int p2.toUInt32.toUInt16.toUInt32.toInt32), .val (.int p3.toUInt32.toUInt16.toUInt32.toInt32), .unset]) rfl rfl ?_
  refine g_iload_n W d_method_2_code_8 (pc' := 9) rfl rfl ?_
  refine g_i2c W d_method_2_code_9 (pc' := 10) rfl ?_
  refine g_istore W d_method_2_code_10 (pc' := 12) (L' := #[.val (.int (3 : Int32)), .val (.int p2), .val (.int p3), .val (.int p4), .val (.int p2.toUInt32.toUInt16.toUInt32.toInt32), .val (.int p3.toUInt32.toUInt16.toUInt32.toInt32), .val (.int p4.toUInt32.toUInt16.toUInt32.toInt32)]) rfl rfl ?_
  refine g_iload_n W d_method_2_code_12 (pc' := 13) rfl rfl ?_
  refine g_ifY W d_method_2_code_13 (pc' := 27) (by decide) (by decide) (Jvm.Free.XT.i0_ne_t (by decide)) ?_
  refine g_iload_n W d_method_2_code_27 (pc' := 28) rfl rfl ?_
  refine g_iconst W d_method_2_code_28 (pc' := 29) (v := (1 : Int32)) rfl rfl ?_
  refine g_icmpY W d_method_2_code_29 (pc' := 48) (by decide) (by decide) (Jvm.Free.XT.ii_ne_t (by decide)) ?_
  refine g_iload_n W d_method_2_code_48 (pc' := 49) rfl rfl ?_
  refine g_iconst W d_method_2_code_49 (pc' := 50) (v := (2 : Int32)) rfl rfl ?_
  refine g_icmpY W d_method_2_code_50 (pc' := 74) (by decide) (by decide) (Jvm.Free.XT.ii_ne_t (by decide)) ?_
  refine g_new W d_method_2_code_74 (pc' := 77) rfl (hw _ (List.mem_of_getElem? (i := 4) rfl)) (hw _ (List.mem_of_getElem? (i := 5) rfl)) (hw _ (List.mem_of_getElem? (i := 6) rfl)) (by decide) (by decide) fun T1 h3 b1 g4 W2 E5 A6 D7 => ?_
  have O_b1 := new_Str hw A6 D7
  refine g_dup W2 d_method_2_code_77 (pc' := 78) rfl rfl ?_
  refine g_iconst W2 d_method_2_code_78 (pc' := 79) (v := (3 : Int32)) rfl rfl ?_
  refine g_newarray W2 d_method_2_code_79 (pc' := 81) (cap := 3) rfl (hw _ (List.mem_of_getElem? (i := 7) rfl)) (by decide) (by decide) (by decide) (by decide) (by decide) fun T8 h10 b2 kA14 g11 W9 E12 A13 => ?_
  have A15 : Arv Z h10 b2 kA14 .char (3 : Int32) [(.int (0 : Int32)), (.int (0 : Int32)), (.int (0 : Int32))] (.int (0 : Int32)) := A13.pad (pad_rep [] (.int (0 : Int32)) 3)
  refine g_dup W9 d_method_2_code_81 (pc' := 82) rfl rfl ?_
  refine g_iconst W9 d_method_2_code_82 (pc' := 83) (v := (0 : Int32)) rfl rfl ?_
  refine g_iload W9 d_method_2_code_83 (pc' := 85) rfl rfl ?_
  refine g_castore W9 d_method_2_code_85 (pc' := 86) (i := 0) (x' := p2.toUInt32.toUInt16.toUInt32.toInt32) rfl (nar_ch _) A15 ⟨by decide, by decide⟩ rfl (Nat.le_of_ble_eq_true rfl) (List.mem_of_getElem? (i := 0) rfl) fun T16 h18 W17 R19 A20 => ?_
  have A21 : Arv Z h18 b2 kA14 .char (3 : Int32) [(.int p2.toUInt32.toUInt16.toUInt32.toInt32), (.int (0 : Int32)), (.int (0 : Int32))] (.int (0 : Int32)) := A20
  refine g_dup W17 d_method_2_code_86 (pc' := 87) rfl rfl ?_
  refine g_iconst W17 d_method_2_code_87 (pc' := 88) (v := (1 : Int32)) rfl rfl ?_
  refine g_iload W17 d_method_2_code_88 (pc' := 90) rfl rfl ?_
  refine g_castore W17 d_method_2_code_90 (pc' := 91) (i := 1) (x' := p3.toUInt32.toUInt16.toUInt32.toInt32) rfl (nar_ch _) A21 ⟨by decide, by decide⟩ rfl (Nat.le_of_ble_eq_true rfl) (List.mem_of_getElem? (i := 0) rfl) fun T22 h24 W23 R25 A26 => ?_
  have A27 : Arv Z h24 b2 kA14 .char (3 : Int32) [(.int p2.toUInt32.toUInt16.toUInt32.toInt32), (.int p3.toUInt32.toUInt16.toUInt32.toInt32), (.int (0 : Int32))] (.int (0 : Int32)) := A26
  refine g_dup W23 d_method_2_code_91 (pc' := 92) rfl rfl ?_
  refine g_iconst W23 d_method_2_code_92 (pc' := 93) (v := (2 : Int32)) rfl rfl ?_
  refine g_iload W23 d_method_2_code_93 (pc' := 95) rfl rfl ?_
  refine g_castore W23 d_method_2_code_95 (pc' := 96) (i := 2) (x' := p4.toUInt32.toUInt16.toUInt32.toInt32) rfl (nar_ch _) A27 ⟨by decide, by decide⟩ rfl (Nat.le_of_ble_eq_true rfl) (List.mem_of_getElem? (i := 0) rfl) fun T28 h30 W29 R31 A32 => ?_
  have A33 : Arv Z h30 b2 kA14 .char (3 : Int32) [(.int p2.toUInt32.toUInt16.toUInt32.toInt32), (.int p3.toUInt32.toUInt16.toUInt32.toInt32), (.int p4.toUInt32.toUInt16.toUInt32.toInt32)] (.int (0 : Int32)) := A32
  have K34 : Keep h3 h30 [] := (((((Keep.refl h3 []).ext E12).wr R19 (Or.inr (Nat.le_of_eq g11.symm))).wr R25 (Or.inr (Nat.le_of_eq g11.symm))).wr R31 (Or.inr (Nat.le_of_eq g11.symm)))
  have F35 := O_b1.mv K34
  refine g_special W29 d_method_2_code_96 (pc' := 99) (a := b1) (fr' := [b1]) (argsL := [(.ref b2)]) (rest := [(.ref b1)]) (Wd := 1) (kc := 2) (ks := 9) rfl rfl (hw _ (List.mem_of_getElem? (i := 8) rfl)) (hw _ (List.mem_of_getElem? (i := 9) rfl)) (hw _ (List.mem_of_getElem? (i := 10) rfl)) (by decide) rfl rfl (lenOf pd_8 rfl) rfl (allS (List.mem_of_getElem? (i := 1) rfl) (all0)) (by decide) (by decide) (pays_str_3 hw hEL Sc hzc Sa Sh Sl b1 b2 _ _ p2.toUInt32.toUInt16.toUInt32.toInt32 p3.toUInt32.toUInt16.toUInt32.toInt32 p4.toUInt32.toUInt16.toUInt32.toInt32 _ W29.ext (W29.frs b1 (List.mem_of_getElem? (i := 1) rfl)).1 F35 A33 (rng_ch _) (rng_ch _) (rng_ch _) (by decide) (by decide)) fun v41 T36 h38 W37 K39 q40 => ?_
  obtain ⟨rfl, S_b1⟩ := q40
  show Goes _ _ _ _ _ _ _ _ _ _ _ T36 (mkF m 99 #[.val (.int (3 : Int32)), .val (.int p2), .val (.int p3), .val (.int p4), .val (.int p2.toUInt32.toUInt16.toUInt32.toInt32), .val (.int p3.toUInt32.toUInt16.toUInt32.toInt32), .val (.int p4.toUInt32.toUInt16.toUInt32.toInt32)] [(.ref b1)])
  have K42 : Keep h h3 [] := ((Keep.refl h []).ext E5)
  have K43 : Keep h h38 [] := (((((((Keep.refl h []).ext E5).ext E12).wr R19 (Or.inr (Nat.le_trans K42.1 (Nat.le_of_eq g11.symm)))).wr R25 (Or.inr (Nat.le_trans K42.1 (Nat.le_of_eq g11.symm)))).wr R31 (Or.inr (Nat.le_trans K42.1 (Nat.le_of_eq g11.symm)))).trans K39 fun x q => by cases List.mem_singleton.mp q; exact Or.inr (Nat.le_of_eq g4.symm))
  exact g_areturn W37 d_method_2_code_99 rfl rfl rfl K43 ⟨_, _, rfl, S_b1, rfl⟩ (by decide) (by decide)
theorem d_prog_15_method_2_code_0 : decode prog_15_method_2_code 0 = .ok (.aload_n 0, 1) := by decide +kernel
theorem d_prog_15_method_2_code_1 : decode prog_15_method_2_code 1 = .ok (.ifnull 14, 3) := by decide +kernel
theorem d_prog_15_method_2_code_15 : decode prog_15_method_2_code 15 = .ok (.iconst 0, 1) := by decide +kernel
theorem d_prog_15_method_2_code_16 : decode prog_15_method_2_code 16 = .ok (.ireturn, 1) := by decide +kernel
theorem pf_11 : plainFor (⟨"com/example/tethercall/tethercall/ServiceAddress", "isAddress", "(Ljava/lang/String;)Z"⟩ : MethodName) = true := by first | (exact plainFor_of_name (by first | (simp [plainName, overriddenIn]; done) | decide +kernel)) | decide +kernel
set_option maxRecDepth 65536 in
set_option maxHeartbeats 40000000 in
theorem rm_isN {l : Launch} {Z : State} {a0 : Array Value} (hw : ∀ d ∈ tables_1, d.before a0 Z = true) (hEL : EW Z a0 EL1) {zc : Int32} (Sc : Sta Z Z.heap "java/lang/String" "COMPACT_STRINGS" "Z" (.int zc)) (hzc : ¬ zc = 0)  (h : Heap) (hX : Ext Z.heap h)  : Met l Z EL1 NW (⟨"com/example/tethercall/tethercall/ServiceAddress", "isAddress", "(Ljava/lang/String;)Z"⟩ : MethodName) prog_15_method_2_code 1 (some .boolean) [] ({ frames := 2, cells := 0, slots := 0, locals := 30 } : Room) #[.null] h [] (fun v h' => h = h' ∧ v = some (.int (0 : Int32))) := by
  refine Met.intro pf_11 hEL hX (fun _ q => nomatch q) ?_
  intro p e s m below meth c T W
  refine Goes.cast (show entryFrame m #[.null] 1 = mkF m 0 #[.val .null] [] by first | (simp [entryFrame, mkF, argsToLocals, Value.category]; done) | rfl) ?_
  refine g_aload_n W d_prog_15_method_2_code_0 (pc' := 1) rfl rfl rfl ?_
  refine g_nullY W d_prog_15_method_2_code_1 (pc' := 15) (by decide) (by decide) rfl ?_
  refine g_iconst W d_prog_15_method_2_code_15 (pc' := 16) (v := (0 : Int32)) rfl rfl ?_
  exact g_ireturn W d_prog_15_method_2_code_16 (by decide) rfl (Keep.refl h []) ⟨rfl, rfl⟩ (by decide) (by decide)
theorem d_prog_15_method_2_code_4 : decode prog_15_method_2_code 4 = .ok (.aload_n 0, 1) := by decide +kernel
theorem d_prog_15_method_2_code_5 : decode prog_15_method_2_code 5 = .ok (.invokevirtual 7, 3) := by decide +kernel
theorem pd_9 : parseMethodDescriptor "()Z" = some ⟨[], some .boolean⟩ := by decide +kernel
theorem d_prog_15_method_2_code_8 : decode prog_15_method_2_code 8 = .ok (.ifCond .ne 7, 3) := by decide +kernel
set_option maxRecDepth 65536 in
set_option maxHeartbeats 40000000 in
theorem rm_isE {l : Launch} {Z : State} {a0 : Array Value} (hw : ∀ d ∈ tables_1, d.before a0 Z = true) (hEL : EW Z a0 EL1) {zc : Int32} (Sc : Sta Z Z.heap "java/lang/String" "COMPACT_STRINGS" "Z" (.int zc)) (hzc : ¬ zc = 0) (a : Addr) (cs : List Int32) (h : Heap) (hX : Ext Z.heap h) (S1 : Str Z h a cs) (q : cs.length = 0) : Met l Z EL1 NW (⟨"com/example/tethercall/tethercall/ServiceAddress", "isAddress", "(Ljava/lang/String;)Z"⟩ : MethodName) prog_15_method_2_code 1 (some .boolean) [] ({ frames := 2, cells := 0, slots := 0, locals := 30 } : Room) #[(.ref a)] h [] (fun v h' => h = h' ∧ v = some (.int (0 : Int32))) := by
  refine Met.intro pf_11 hEL hX (fun _ q => nomatch q) ?_
  intro p e s m below meth c T W
  refine Goes.cast (show entryFrame m #[(.ref a)] 1 = mkF m 0 #[.val (.ref a)] [] by first | (simp [entryFrame, mkF, argsToLocals, Value.category]; done) | rfl) ?_
  refine g_aload_n W d_prog_15_method_2_code_0 (pc' := 1) rfl rfl rfl ?_
  refine g_nullN W d_prog_15_method_2_code_1 (pc' := 4) rfl rfl (fun q => nomatch q) ?_
  refine g_aload_n W d_prog_15_method_2_code_4 (pc' := 5) rfl rfl rfl ?_
  refine g_virtual W d_prog_15_method_2_code_5 (pc' := 8) (a := a) (fr' := []) (argsL := []) (rest := []) (Wd := 0) (kc := 0) (ks := 0) rfl (hw _ (List.mem_of_getElem? (i := 30) rfl)) (hw _ (List.mem_of_getElem? (i := 31) rfl)) (hw _ (List.mem_of_getElem? (i := 33) rfl)) (hw _ (List.mem_of_getElem? (i := 32) rfl)) (by decide) S1.exa rfl rfl (lenOf pd_9 rfl) rfl all0 (by decide) (by decide) (pays_emp hEL (fun d hd => hw d ((by decide +kernel : ∀ d ∈ StrChars.Road.wordsEmp, d ∈ tables_1) d hd)) (hw _ (List.mem_of_getElem? (i := 5) rfl)) S1 (by decide) (by decide)) fun v6 T1 h3 W2 K4 q5 => ?_
  obtain ⟨rfl, rfl⟩ := q5
  show Goes _ _ _ _ _ _ _ _ _ _ _ T1 (mkF m 8 #[.val (.ref a)] [(.int (if cs.length = 0 then 1 else 0))])
  rw [if_pos q]
  refine g_ifY W2 d_prog_15_method_2_code_8 (pc' := 15) (by decide) (by decide) (Jvm.Free.XT.i0_ne_t (by decide)) ?_
  refine g_iconst W2 d_prog_15_method_2_code_15 (pc' := 16) (v := (0 : Int32)) rfl rfl ?_
  exact g_ireturn W2 d_prog_15_method_2_code_16 (by decide) rfl (Keep.refl h []) ⟨rfl, rfl⟩ (by decide) (by decide)
theorem d_prog_15_method_2_code_11 : decode prog_15_method_2_code 11 = .ok (.iconst 1, 1) := by decide +kernel
theorem d_prog_15_method_2_code_12 : decode prog_15_method_2_code 12 = .ok (.goto 4, 3) := by decide +kernel
set_option maxRecDepth 65536 in
set_option maxHeartbeats 40000000 in
theorem rm_isF {l : Launch} {Z : State} {a0 : Array Value} (hw : ∀ d ∈ tables_1, d.before a0 Z = true) (hEL : EW Z a0 EL1) {zc : Int32} (Sc : Sta Z Z.heap "java/lang/String" "COMPACT_STRINGS" "Z" (.int zc)) (hzc : ¬ zc = 0) (a : Addr) (cs : List Int32) (h : Heap) (hX : Ext Z.heap h) (S1 : Str Z h a cs) (q : ¬ cs.length = 0) : Met l Z EL1 NW (⟨"com/example/tethercall/tethercall/ServiceAddress", "isAddress", "(Ljava/lang/String;)Z"⟩ : MethodName) prog_15_method_2_code 1 (some .boolean) [] ({ frames := 2, cells := 0, slots := 0, locals := 30 } : Room) #[(.ref a)] h [] (fun v h' => h = h' ∧ v = some (.int (1 : Int32))) := by
  refine Met.intro pf_11 hEL hX (fun _ q => nomatch q) ?_
  intro p e s m below meth c T W
  refine Goes.cast (show entryFrame m #[(.ref a)] 1 = mkF m 0 #[.val (.ref a)] [] by first | (simp [entryFrame, mkF, argsToLocals, Value.category]; done) | rfl) ?_
  refine g_aload_n W d_prog_15_method_2_code_0 (pc' := 1) rfl rfl rfl ?_
  refine g_nullN W d_prog_15_method_2_code_1 (pc' := 4) rfl rfl (fun q => nomatch q) ?_
  refine g_aload_n W d_prog_15_method_2_code_4 (pc' := 5) rfl rfl rfl ?_
  refine g_virtual W d_prog_15_method_2_code_5 (pc' := 8) (a := a) (fr' := []) (argsL := []) (rest := []) (Wd := 0) (kc := 0) (ks := 0) rfl (hw _ (List.mem_of_getElem? (i := 30) rfl)) (hw _ (List.mem_of_getElem? (i := 31) rfl)) (hw _ (List.mem_of_getElem? (i := 33) rfl)) (hw _ (List.mem_of_getElem? (i := 32) rfl)) (by decide) S1.exa rfl rfl (lenOf pd_9 rfl) rfl all0 (by decide) (by decide) (pays_emp hEL (fun d hd => hw d ((by decide +kernel : ∀ d ∈ StrChars.Road.wordsEmp, d ∈ tables_1) d hd)) (hw _ (List.mem_of_getElem? (i := 5) rfl)) S1 (by decide) (by decide)) fun v6 T1 h3 W2 K4 q5 => ?_
  obtain ⟨rfl, rfl⟩ := q5
  show Goes _ _ _ _ _ _ _ _ _ _ _ T1 (mkF m 8 #[.val (.ref a)] [(.int (if cs.length = 0 then 1 else 0))])
  rw [if_neg q]
  refine g_ifN W2 d_prog_15_method_2_code_8 (pc' := 11) rfl (Jvm.Free.XT.i0_ne_f rfl) ?_
  refine g_iconst W2 d_prog_15_method_2_code_11 (pc' := 12) (v := (1 : Int32)) rfl rfl ?_
  refine g_goto W2 d_prog_15_method_2_code_12 (pc' := 16) (by decide) (by decide) ?_
  exact g_ireturn W2 d_prog_15_method_2_code_16 (by decide) rfl (Keep.refl h []) ⟨rfl, rfl⟩ (by decide) (by decide)
theorem pd_10 : parseMethodDescriptor "(IIII)Ljava/lang/String;" = some ⟨[.int, .int, .int, .int], some (.object "java/lang/String")⟩ := by decide +kernel
theorem pd_11 : parseMethodDescriptor "(Ljava/lang/String;)Z" = some ⟨[(.object "java/lang/String")], some .boolean⟩ := by decide +kernel
theorem pn_0 : plainName "com/example/tethercall/tethercall/ServiceAddressIsAddressPinLaw" = true := by first | (simp [plainName, overriddenIn]; done) | decide +kernel
set_option maxRecDepth 65536 in
set_option maxHeartbeats 40000000 in
theorem rm_law {l : Launch} {Z : State} {a0 : Array Value} (hw : ∀ d ∈ tables_1, d.before a0 Z = true) (hEL : EW Z a0 EL1) {zc : Int32} (Sc : Sta Z Z.heap "java/lang/String" "COMPACT_STRINGS" "Z" (.int zc)) (hzc : ¬ zc = 0) (p1 p2 p3 p4 : Int32) (h : Heap) (hX : Ext Z.heap h) (Sa : Sta Z Z.heap "java/lang/StringUTF16" "$assertionsDisabled" "Z" (.int (1 : Int32))) (Sh : Sta Z Z.heap "java/lang/StringUTF16" "HI_BYTE_SHIFT" "I" (.int (0 : Int32))) (Sl : Sta Z Z.heap "java/lang/StringUTF16" "LO_BYTE_SHIFT" "I" (.int (8 : Int32))) : Met l Z EL1 NW x code maxLocals ret tables_1 room_1 #[(.int p1), (.int p2), (.int p3), (.int p4)] h [] (fun v _ => v = some (.int 1)) := by
  refine Met.intro (plainFor_of_name pn_0) hEL hX (fun _ q => nomatch q) ?_
  intro p e s m below meth c T W
  refine Goes.cast (show entryFrame m #[(.int p1), (.int p2), (.int p3), (.int p4)] maxLocals = mkF m 0 #[.val (.int p1), .val (.int p2), .val (.int p3), .val (.int p4), .unset, .unset, .unset, .unset] [] by first | (simp [entryFrame, mkF, argsToLocals, Value.category, maxLocals]; done) | rfl) ?_
  refine g_iload_n W at_0 (pc' := 1) rfl rfl ?_
  refine g_iconst W at_1 (pc' := 2) (v := (3 : Int32)) rfl rfl ?_
  refine g_iand W at_2 (pc' := 3) rfl ?_
  rcases and3 p1 with c1 | c1 | c1 | c1
  · rw [c1]
    refine g_istore W at_3 (pc' := 5) (L' := #[.val (.int p1), .val (.int p2), .val (.int p3), .val (.int p4), .val (.int (0 : Int32)), .unset, .unset, .unset]) rfl rfl ?_
    refine g_iload_n W at_5 (pc' := 6) rfl rfl ?_
    refine g_iconst W at_6 (pc' := 7) (v := (4 : Int32)) rfl rfl ?_
    refine g_iand W at_7 (pc' := 8) rfl ?_
    by_cases c1 : (p1 &&& (4 : Int32)) = 0
    · refine g_ifY W at_8 (pc' := 20) (by decide) (by decide) (Jvm.Free.XT.i0_eq_t c1) ?_
      refine g_iconst W at_20 (pc' := 21) (v := (0 : Int32)) rfl rfl ?_
      refine g_istore W at_21 (pc' := 23) (L' := #[.val (.int p1), .val (.int p2), .val (.int p3), .val (.int p4), .val (.int (0 : Int32)), .val (.int (0 : Int32)), .unset, .unset]) rfl rfl ?_
      refine g_iload W at_23 (pc' := 25) rfl rfl ?_
      refine g_ifY W at_25 (pc' := 32) (by decide) (by decide) (Jvm.Free.XT.i0_eq_t rfl) ?_
      refine g_iload W at_32 (pc' := 34) rfl rfl ?_
      refine g_iload_n W at_34 (pc' := 35) rfl rfl ?_
      refine g_iload_n W at_35 (pc' := 36) rfl rfl ?_
      refine g_iload_n W at_36 (pc' := 37) rfl rfl ?_
      refine g_static W at_37 (pc' := 40) (fr' := []) (argsL := [(.int (0 : Int32)), (.int p2), (.int p3), (.int p4)]) (rest := []) (Wd := 0) (kc := 6) (ks := 20) rfl (hw _ (List.mem_of_getElem? (i := 0) rfl)) (hw _ (List.mem_of_getElem? (i := 1) rfl)) (hw _ (List.mem_of_getElem? (i := 2) rfl)) (hw _ (List.mem_of_getElem? (i := 3) rfl)) (by decide) rfl rfl (lenOf pd_10 rfl) rfl all0 (by decide) (by decide) (Met.pays (rm_dr_0 hw hEL Sc hzc p2 p3 p4 _ W.ext Sa Sh Sl) (hw _ (List.mem_of_getElem? (i := 3) rfl)) (hw _ (List.mem_of_getElem? (i := 2) rfl)) hEL (by decide) (by decide)) fun v7 T2 h4 W3 K5 q6 => ?_
      obtain ⟨s1, cs, rfl, S1, l1⟩ := q6
      show Goes _ _ _ _ _ _ _ _ _ _ _ T2 (mkF m 40 #[.val (.int p1), .val (.int p2), .val (.int p3), .val (.int p4), .val (.int (0 : Int32)), .val (.int (0 : Int32)), .unset, .unset] [(.ref s1)])
      refine g_astore W3 at_40 (pc' := 42) (L' := #[.val (.int p1), .val (.int p2), .val (.int p3), .val (.int p4), .val (.int (0 : Int32)), .val (.int (0 : Int32)), .val (.ref s1), .unset]) rfl rfl rfl ?_
      refine g_iload W3 at_42 (pc' := 44) rfl rfl ?_
      refine g_ifN W3 at_44 (pc' := 47) rfl (Jvm.Free.XT.i0_ne_f rfl) ?_
      refine g_iload W3 at_47 (pc' := 49) rfl rfl ?_
      refine g_ifY W3 at_49 (pc' := 56) (by decide) (by decide) (Jvm.Free.XT.i0_le_t (by decide)) ?_
      refine g_iconst W3 at_56 (pc' := 57) (v := (0 : Int32)) rfl rfl ?_
      refine g_istore W3 at_57 (pc' := 59) (L' := #[.val (.int p1), .val (.int p2), .val (.int p3), .val (.int p4), .val (.int (0 : Int32)), .val (.int (0 : Int32)), .val (.ref s1), .val (.int (0 : Int32))]) rfl rfl ?_
      refine g_aload W3 at_59 (pc' := 61) rfl rfl rfl ?_
      refine g_static W3 at_61 (pc' := 64) (fr' := []) (argsL := [(.ref s1)]) (rest := []) (Wd := 0) (kc := 0) (ks := 0) rfl (hw _ (List.mem_of_getElem? (i := 26) rfl)) (hw _ (List.mem_of_getElem? (i := 27) rfl)) (hw _ (List.mem_of_getElem? (i := 28) rfl)) (hw _ (List.mem_of_getElem? (i := 29) rfl)) (by decide) rfl rfl (lenOf pd_11 rfl) rfl all0 (by decide) (by decide) (Met.pays (rm_isE hw hEL Sc hzc s1 cs _ W3.ext S1 l1) (hw _ (List.mem_of_getElem? (i := 29) rfl)) (hw _ (List.mem_of_getElem? (i := 28) rfl)) hEL (by decide) (by decide)) fun v13 T8 h10 W9 K11 q12 => ?_
      obtain ⟨rfl, rfl⟩ := q12
      show Goes _ _ _ _ _ _ _ _ _ _ _ T8 (mkF m 64 #[.val (.int p1), .val (.int p2), .val (.int p3), .val (.int p4), .val (.int (0 : Int32)), .val (.int (0 : Int32)), .val (.ref s1), .val (.int (0 : Int32))] [(.int (0 : Int32))])
      refine g_iload W9 at_64 (pc' := 66) rfl rfl ?_
      refine g_icmpN W9 at_66 (pc' := 69) rfl (Jvm.Free.XT.ii_ne_f rfl) ?_
      refine g_iconst W9 at_69 (pc' := 70) (v := (1 : Int32)) rfl rfl ?_
      refine g_goto W9 at_70 (pc' := 74) (by decide) (by decide) ?_
      have K14 : Keep h h4 [] := ((Keep.refl h []).trans K5 fun _ q => nomatch q)
      exact g_ireturn W9 at_74 (by decide) rfl K14 rfl (by decide) (by decide)
    · refine g_ifN W at_8 (pc' := 11) rfl (Jvm.Free.XT.i0_eq_f c1) ?_
      refine g_iload W at_11 (pc' := 13) rfl rfl ?_
      refine g_ifN W at_13 (pc' := 16) rfl (Jvm.Free.XT.i0_ne_f rfl) ?_
      refine g_iconst W at_16 (pc' := 17) (v := (1 : Int32)) rfl rfl ?_
      refine g_goto W at_17 (pc' := 21) (by decide) (by decide) ?_
      refine g_istore W at_21 (pc' := 23) (L' := #[.val (.int p1), .val (.int p2), .val (.int p3), .val (.int p4), .val (.int (0 : Int32)), .val (.int (1 : Int32)), .unset, .unset]) rfl rfl ?_
      refine g_iload W at_23 (pc' := 25) rfl rfl ?_
      refine g_ifN W at_25 (pc' := 28) rfl (Jvm.Free.XT.i0_eq_f (by decide)) ?_
      refine g_aconst_null W at_28 (pc' := 29) rfl ?_
      refine g_goto W at_29 (pc' := 40) (by decide) (by decide) ?_
      refine g_astore W at_40 (pc' := 42) (L' := #[.val (.int p1), .val (.int p2), .val (.int p3), .val (.int p4), .val (.int (0 : Int32)), .val (.int (1 : Int32)), .val .null, .unset]) rfl rfl rfl ?_
      refine g_iload W at_42 (pc' := 44) rfl rfl ?_
      refine g_ifY W at_44 (pc' := 56) (by decide) (by decide) (Jvm.Free.XT.i0_ne_t (by decide)) ?_
      refine g_iconst W at_56 (pc' := 57) (v := (0 : Int32)) rfl rfl ?_
      refine g_istore W at_57 (pc' := 59) (L' := #[.val (.int p1), .val (.int p2), .val (.int p3), .val (.int p4), .val (.int (0 : Int32)), .val (.int (1 : Int32)), .val .null, .val (.int (0 : Int32))]) rfl rfl ?_
      refine g_aload W at_59 (pc' := 61) rfl rfl rfl ?_
      refine g_static W at_61 (pc' := 64) (fr' := []) (argsL := [.null]) (rest := []) (Wd := 0) (kc := 0) (ks := 0) rfl (hw _ (List.mem_of_getElem? (i := 26) rfl)) (hw _ (List.mem_of_getElem? (i := 27) rfl)) (hw _ (List.mem_of_getElem? (i := 28) rfl)) (hw _ (List.mem_of_getElem? (i := 29) rfl)) (by decide) rfl rfl (lenOf pd_11 rfl) rfl all0 (by decide) (by decide) (Met.pays (rm_isN hw hEL Sc hzc _ W.ext) (hw _ (List.mem_of_getElem? (i := 29) rfl)) (hw _ (List.mem_of_getElem? (i := 28) rfl)) hEL (by decide) (by decide)) fun v20 T15 h17 W16 K18 q19 => ?_
      obtain ⟨rfl, rfl⟩ := q19
      show Goes _ _ _ _ _ _ _ _ _ _ _ T15 (mkF m 64 #[.val (.int p1), .val (.int p2), .val (.int p3), .val (.int p4), .val (.int (0 : Int32)), .val (.int (1 : Int32)), .val .null, .val (.int (0 : Int32))] [(.int (0 : Int32))])
      refine g_iload W16 at_64 (pc' := 66) rfl rfl ?_
      refine g_icmpN W16 at_66 (pc' := 69) rfl (Jvm.Free.XT.ii_ne_f rfl) ?_
      refine g_iconst W16 at_69 (pc' := 70) (v := (1 : Int32)) rfl rfl ?_
      refine g_goto W16 at_70 (pc' := 74) (by decide) (by decide) ?_
      exact g_ireturn W16 at_74 (by decide) rfl (Keep.refl h []) rfl (by decide) (by decide)
  · rw [c1]
    refine g_istore W at_3 (pc' := 5) (L' := #[.val (.int p1), .val (.int p2), .val (.int p3), .val (.int p4), .val (.int (1 : Int32)), .unset, .unset, .unset]) rfl rfl ?_
    refine g_iload_n W at_5 (pc' := 6) rfl rfl ?_
    refine g_iconst W at_6 (pc' := 7) (v := (4 : Int32)) rfl rfl ?_
    refine g_iand W at_7 (pc' := 8) rfl ?_
    by_cases c21 : (p1 &&& (4 : Int32)) = 0
    · refine g_ifY W at_8 (pc' := 20) (by decide) (by decide) (Jvm.Free.XT.i0_eq_t c21) ?_
      refine g_iconst W at_20 (pc' := 21) (v := (0 : Int32)) rfl rfl ?_
      refine g_istore W at_21 (pc' := 23) (L' := #[.val (.int p1), .val (.int p2), .val (.int p3), .val (.int p4), .val (.int (1 : Int32)), .val (.int (0 : Int32)), .unset, .unset]) rfl rfl ?_
      refine g_iload W at_23 (pc' := 25) rfl rfl ?_
      refine g_ifY W at_25 (pc' := 32) (by decide) (by decide) (Jvm.Free.XT.i0_eq_t rfl) ?_
      refine g_iload W at_32 (pc' := 34) rfl rfl ?_
      refine g_iload_n W at_34 (pc' := 35) rfl rfl ?_
      refine g_iload_n W at_35 (pc' := 36) rfl rfl ?_
      refine g_iload_n W at_36 (pc' := 37) rfl rfl ?_
      refine g_static W at_37 (pc' := 40) (fr' := []) (argsL := [(.int (1 : Int32)), (.int p2), (.int p3), (.int p4)]) (rest := []) (Wd := 0) (kc := 6) (ks := 20) rfl (hw _ (List.mem_of_getElem? (i := 0) rfl)) (hw _ (List.mem_of_getElem? (i := 1) rfl)) (hw _ (List.mem_of_getElem? (i := 2) rfl)) (hw _ (List.mem_of_getElem? (i := 3) rfl)) (by decide) rfl rfl (lenOf pd_10 rfl) rfl all0 (by decide) (by decide) (Met.pays (rm_dr_1 hw hEL Sc hzc p2 p3 p4 _ W.ext Sa Sh Sl) (hw _ (List.mem_of_getElem? (i := 3) rfl)) (hw _ (List.mem_of_getElem? (i := 2) rfl)) hEL (by decide) (by decide)) fun v27 T22 h24 W23 K25 q26 => ?_
      obtain ⟨s1, cs, rfl, S1, l1⟩ := q26
      show Goes _ _ _ _ _ _ _ _ _ _ _ T22 (mkF m 40 #[.val (.int p1), .val (.int p2), .val (.int p3), .val (.int p4), .val (.int (1 : Int32)), .val (.int (0 : Int32)), .unset, .unset] [(.ref s1)])
      refine g_astore W23 at_40 (pc' := 42) (L' := #[.val (.int p1), .val (.int p2), .val (.int p3), .val (.int p4), .val (.int (1 : Int32)), .val (.int (0 : Int32)), .val (.ref s1), .unset]) rfl rfl rfl ?_
      refine g_iload W23 at_42 (pc' := 44) rfl rfl ?_
      refine g_ifN W23 at_44 (pc' := 47) rfl (Jvm.Free.XT.i0_ne_f rfl) ?_
      refine g_iload W23 at_47 (pc' := 49) rfl rfl ?_
      refine g_ifN W23 at_49 (pc' := 52) rfl (Jvm.Free.XT.i0_le_f (by decide)) ?_
      refine g_iconst W23 at_52 (pc' := 53) (v := (1 : Int32)) rfl rfl ?_
      refine g_goto W23 at_53 (pc' := 57) (by decide) (by decide) ?_
      refine g_istore W23 at_57 (pc' := 59) (L' := #[.val (.int p1), .val (.int p2), .val (.int p3), .val (.int p4), .val (.int (1 : Int32)), .val (.int (0 : Int32)), .val (.ref s1), .val (.int (1 : Int32))]) rfl rfl ?_
      refine g_aload W23 at_59 (pc' := 61) rfl rfl rfl ?_
      refine g_static W23 at_61 (pc' := 64) (fr' := []) (argsL := [(.ref s1)]) (rest := []) (Wd := 0) (kc := 0) (ks := 0) rfl (hw _ (List.mem_of_getElem? (i := 26) rfl)) (hw _ (List.mem_of_getElem? (i := 27) rfl)) (hw _ (List.mem_of_getElem? (i := 28) rfl)) (hw _ (List.mem_of_getElem? (i := 29) rfl)) (by decide) rfl rfl (lenOf pd_11 rfl) rfl all0 (by decide) (by decide) (Met.pays (rm_isF hw hEL Sc hzc s1 cs _ W23.ext S1 (by omega)) (hw _ (List.mem_of_getElem? (i := 29) rfl)) (hw _ (List.mem_of_getElem? (i := 28) rfl)) hEL (by decide) (by decide)) fun v33 T28 h30 W29 K31 q32 => ?_
      obtain ⟨rfl, rfl⟩ := q32
      show Goes _ _ _ _ _ _ _ _ _ _ _ T28 (mkF m 64 #[.val (.int p1), .val (.int p2), .val (.int p3), .val (.int p4), .val (.int (1 : Int32)), .val (.int (0 : Int32)), .val (.ref s1), .val (.int (1 : Int32))] [(.int (1 : Int32))])
      refine g_iload W29 at_64 (pc' := 66) rfl rfl ?_
      refine g_icmpN W29 at_66 (pc' := 69) rfl (Jvm.Free.XT.ii_ne_f rfl) ?_
      refine g_iconst W29 at_69 (pc' := 70) (v := (1 : Int32)) rfl rfl ?_
      refine g_goto W29 at_70 (pc' := 74) (by decide) (by decide) ?_
      have K34 : Keep h h24 [] := ((Keep.refl h []).trans K25 fun _ q => nomatch q)
      exact g_ireturn W29 at_74 (by decide) rfl K34 rfl (by decide) (by decide)
    · refine g_ifN W at_8 (pc' := 11) rfl (Jvm.Free.XT.i0_eq_f c21) ?_
      refine g_iload W at_11 (pc' := 13) rfl rfl ?_
      refine g_ifY W at_13 (pc' := 20) (by decide) (by decide) (Jvm.Free.XT.i0_ne_t (by decide)) ?_
      refine g_iconst W at_20 (pc' := 21) (v := (0 : Int32)) rfl rfl ?_
      refine g_istore W at_21 (pc' := 23) (L' := #[.val (.int p1), .val (.int p2), .val (.int p3), .val (.int p4), .val (.int (1 : Int32)), .val (.int (0 : Int32)), .unset, .unset]) rfl rfl ?_
      refine g_iload W at_23 (pc' := 25) rfl rfl ?_
      refine g_ifY W at_25 (pc' := 32) (by decide) (by decide) (Jvm.Free.XT.i0_eq_t rfl) ?_
      refine g_iload W at_32 (pc' := 34) rfl rfl ?_
      refine g_iload_n W at_34 (pc' := 35) rfl rfl ?_
      refine g_iload_n W at_35 (pc' := 36) rfl rfl ?_
      refine g_iload_n W at_36 (pc' := 37) rfl rfl ?_
      refine g_static W at_37 (pc' := 40) (fr' := []) (argsL := [(.int (1 : Int32)), (.int p2), (.int p3), (.int p4)]) (rest := []) (Wd := 0) (kc := 6) (ks := 20) rfl (hw _ (List.mem_of_getElem? (i := 0) rfl)) (hw _ (List.mem_of_getElem? (i := 1) rfl)) (hw _ (List.mem_of_getElem? (i := 2) rfl)) (hw _ (List.mem_of_getElem? (i := 3) rfl)) (by decide) rfl rfl (lenOf pd_10 rfl) rfl all0 (by decide) (by decide) (Met.pays (rm_dr_1 hw hEL Sc hzc p2 p3 p4 _ W.ext Sa Sh Sl) (hw _ (List.mem_of_getElem? (i := 3) rfl)) (hw _ (List.mem_of_getElem? (i := 2) rfl)) hEL (by decide) (by decide)) fun v40 T35 h37 W36 K38 q39 => ?_
      obtain ⟨s1, cs, rfl, S1, l1⟩ := q39
      show Goes _ _ _ _ _ _ _ _ _ _ _ T35 (mkF m 40 #[.val (.int p1), .val (.int p2), .val (.int p3), .val (.int p4), .val (.int (1 : Int32)), .val (.int (0 : Int32)), .unset, .unset] [(.ref s1)])
      refine g_astore W36 at_40 (pc' := 42) (L' := #[.val (.int p1), .val (.int p2), .val (.int p3), .val (.int p4), .val (.int (1 : Int32)), .val (.int (0 : Int32)), .val (.ref s1), .unset]) rfl rfl rfl ?_
      refine g_iload W36 at_42 (pc' := 44) rfl rfl ?_
      refine g_ifN W36 at_44 (pc' := 47) rfl (Jvm.Free.XT.i0_ne_f rfl) ?_
      refine g_iload W36 at_47 (pc' := 49) rfl rfl ?_
      refine g_ifN W36 at_49 (pc' := 52) rfl (Jvm.Free.XT.i0_le_f (by decide)) ?_
      refine g_iconst W36 at_52 (pc' := 53) (v := (1 : Int32)) rfl rfl ?_
      refine g_goto W36 at_53 (pc' := 57) (by decide) (by decide) ?_
      refine g_istore W36 at_57 (pc' := 59) (L' := #[.val (.int p1), .val (.int p2), .val (.int p3), .val (.int p4), .val (.int (1 : Int32)), .val (.int (0 : Int32)), .val (.ref s1), .val (.int (1 : Int32))]) rfl rfl ?_
      refine g_aload W36 at_59 (pc' := 61) rfl rfl rfl ?_
      refine g_static W36 at_61 (pc' := 64) (fr' := []) (argsL := [(.ref s1)]) (rest := []) (Wd := 0) (kc := 0) (ks := 0) rfl (hw _ (List.mem_of_getElem? (i := 26) rfl)) (hw _ (List.mem_of_getElem? (i := 27) rfl)) (hw _ (List.mem_of_getElem? (i := 28) rfl)) (hw _ (List.mem_of_getElem? (i := 29) rfl)) (by decide) rfl rfl (lenOf pd_11 rfl) rfl all0 (by decide) (by decide) (Met.pays (rm_isF hw hEL Sc hzc s1 cs _ W36.ext S1 (by omega)) (hw _ (List.mem_of_getElem? (i := 29) rfl)) (hw _ (List.mem_of_getElem? (i := 28) rfl)) hEL (by decide) (by decide)) fun v46 T41 h43 W42 K44 q45 => ?_
      obtain ⟨rfl, rfl⟩ := q45
      show Goes _ _ _ _ _ _ _ _ _ _ _ T41 (mkF m 64 #[.val (.int p1), .val (.int p2), .val (.int p3), .val (.int p4), .val (.int (1 : Int32)), .val (.int (0 : Int32)), .val (.ref s1), .val (.int (1 : Int32))] [(.int (1 : Int32))])
      refine g_iload W42 at_64 (pc' := 66) rfl rfl ?_
      refine g_icmpN W42 at_66 (pc' := 69) rfl (Jvm.Free.XT.ii_ne_f rfl) ?_
      refine g_iconst W42 at_69 (pc' := 70) (v := (1 : Int32)) rfl rfl ?_
      refine g_goto W42 at_70 (pc' := 74) (by decide) (by decide) ?_
      have K47 : Keep h h37 [] := ((Keep.refl h []).trans K38 fun _ q => nomatch q)
      exact g_ireturn W42 at_74 (by decide) rfl K47 rfl (by decide) (by decide)
  · rw [c1]
    refine g_istore W at_3 (pc' := 5) (L' := #[.val (.int p1), .val (.int p2), .val (.int p3), .val (.int p4), .val (.int (2 : Int32)), .unset, .unset, .unset]) rfl rfl ?_
    refine g_iload_n W at_5 (pc' := 6) rfl rfl ?_
    refine g_iconst W at_6 (pc' := 7) (v := (4 : Int32)) rfl rfl ?_
    refine g_iand W at_7 (pc' := 8) rfl ?_
    by_cases c48 : (p1 &&& (4 : Int32)) = 0
    · refine g_ifY W at_8 (pc' := 20) (by decide) (by decide) (Jvm.Free.XT.i0_eq_t c48) ?_
      refine g_iconst W at_20 (pc' := 21) (v := (0 : Int32)) rfl rfl ?_
      refine g_istore W at_21 (pc' := 23) (L' := #[.val (.int p1), .val (.int p2), .val (.int p3), .val (.int p4), .val (.int (2 : Int32)), .val (.int (0 : Int32)), .unset, .unset]) rfl rfl ?_
      refine g_iload W at_23 (pc' := 25) rfl rfl ?_
      refine g_ifY W at_25 (pc' := 32) (by decide) (by decide) (Jvm.Free.XT.i0_eq_t rfl) ?_
      refine g_iload W at_32 (pc' := 34) rfl rfl ?_
      refine g_iload_n W at_34 (pc' := 35) rfl rfl ?_
      refine g_iload_n W at_35 (pc' := 36) rfl rfl ?_
      refine g_iload_n W at_36 (pc' := 37) rfl rfl ?_
      refine g_static W at_37 (pc' := 40) (fr' := []) (argsL := [(.int (2 : Int32)), (.int p2), (.int p3), (.int p4)]) (rest := []) (Wd := 0) (kc := 6) (ks := 20) rfl (hw _ (List.mem_of_getElem? (i := 0) rfl)) (hw _ (List.mem_of_getElem? (i := 1) rfl)) (hw _ (List.mem_of_getElem? (i := 2) rfl)) (hw _ (List.mem_of_getElem? (i := 3) rfl)) (by decide) rfl rfl (lenOf pd_10 rfl) rfl all0 (by decide) (by decide) (Met.pays (rm_dr_2 hw hEL Sc hzc p2 p3 p4 _ W.ext Sa Sh Sl) (hw _ (List.mem_of_getElem? (i := 3) rfl)) (hw _ (List.mem_of_getElem? (i := 2) rfl)) hEL (by decide) (by decide)) fun v54 T49 h51 W50 K52 q53 => ?_
      obtain ⟨s1, cs, rfl, S1, l1⟩ := q53
      show Goes _ _ _ _ _ _ _ _ _ _ _ T49 (mkF m 40 #[.val (.int p1), .val (.int p2), .val (.int p3), .val (.int p4), .val (.int (2 : Int32)), .val (.int (0 : Int32)), .unset, .unset] [(.ref s1)])
      refine g_astore W50 at_40 (pc' := 42) (L' := #[.val (.int p1), .val (.int p2), .val (.int p3), .val (.int p4), .val (.int (2 : Int32)), .val (.int (0 : Int32)), .val (.ref s1), .unset]) rfl rfl rfl ?_
      refine g_iload W50 at_42 (pc' := 44) rfl rfl ?_
      refine g_ifN W50 at_44 (pc' := 47) rfl (Jvm.Free.XT.i0_ne_f rfl) ?_
      refine g_iload W50 at_47 (pc' := 49) rfl rfl ?_
      refine g_ifN W50 at_49 (pc' := 52) rfl (Jvm.Free.XT.i0_le_f (by decide)) ?_
      refine g_iconst W50 at_52 (pc' := 53) (v := (1 : Int32)) rfl rfl ?_
      refine g_goto W50 at_53 (pc' := 57) (by decide) (by decide) ?_
      refine g_istore W50 at_57 (pc' := 59) (L' := #[.val (.int p1), .val (.int p2), .val (.int p3), .val (.int p4), .val (.int (2 : Int32)), .val (.int (0 : Int32)), .val (.ref s1), .val (.int (1 : Int32))]) rfl rfl ?_
      refine g_aload W50 at_59 (pc' := 61) rfl rfl rfl ?_
      refine g_static W50 at_61 (pc' := 64) (fr' := []) (argsL := [(.ref s1)]) (rest := []) (Wd := 0) (kc := 0) (ks := 0) rfl (hw _ (List.mem_of_getElem? (i := 26) rfl)) (hw _ (List.mem_of_getElem? (i := 27) rfl)) (hw _ (List.mem_of_getElem? (i := 28) rfl)) (hw _ (List.mem_of_getElem? (i := 29) rfl)) (by decide) rfl rfl (lenOf pd_11 rfl) rfl all0 (by decide) (by decide) (Met.pays (rm_isF hw hEL Sc hzc s1 cs _ W50.ext S1 (by omega)) (hw _ (List.mem_of_getElem? (i := 29) rfl)) (hw _ (List.mem_of_getElem? (i := 28) rfl)) hEL (by decide) (by decide)) fun v60 T55 h57 W56 K58 q59 => ?_
      obtain ⟨rfl, rfl⟩ := q59
      show Goes _ _ _ _ _ _ _ _ _ _ _ T55 (mkF m 64 #[.val (.int p1), .val (.int p2), .val (.int p3), .val (.int p4), .val (.int (2 : Int32)), .val (.int (0 : Int32)), .val (.ref s1), .val (.int (1 : Int32))] [(.int (1 : Int32))])
      refine g_iload W56 at_64 (pc' := 66) rfl rfl ?_
      refine g_icmpN W56 at_66 (pc' := 69) rfl (Jvm.Free.XT.ii_ne_f rfl) ?_
      refine g_iconst W56 at_69 (pc' := 70) (v := (1 : Int32)) rfl rfl ?_
      refine g_goto W56 at_70 (pc' := 74) (by decide) (by decide) ?_
      have K61 : Keep h h51 [] := ((Keep.refl h []).trans K52 fun _ q => nomatch q)
      exact g_ireturn W56 at_74 (by decide) rfl K61 rfl (by decide) (by decide)
    · refine g_ifN W at_8 (pc' := 11) rfl (Jvm.Free.XT.i0_eq_f c48) ?_
      refine g_iload W at_11 (pc' := 13) rfl rfl ?_
      refine g_ifY W at_13 (pc' := 20) (by decide) (by decide) (Jvm.Free.XT.i0_ne_t (by decide)) ?_
      refine g_iconst W at_20 (pc' := 21) (v := (0 : Int32)) rfl rfl ?_
      refine g_istore W at_21 (pc' := 23) (L' := #[.val (.int p1), .val (.int p2), .val (.int p3), .val (.int p4), .val (.int (2 : Int32)), .val (.int (0 : Int32)), .unset, .unset]) rfl rfl ?_
      refine g_iload W at_23 (pc' := 25) rfl rfl ?_
      refine g_ifY W at_25 (pc' := 32) (by decide) (by decide) (Jvm.Free.XT.i0_eq_t rfl) ?_
      refine g_iload W at_32 (pc' := 34) rfl rfl ?_
      refine g_iload_n W at_34 (pc' := 35) rfl rfl ?_
      refine g_iload_n W at_35 (pc' := 36) rfl rfl ?_
      refine g_iload_n W at_36 (pc' := 37) rfl rfl ?_
      refine g_static W at_37 (pc' := 40) (fr' := []) (argsL := [(.int (2 : Int32)), (.int p2), (.int p3), (.int p4)]) (rest := []) (Wd := 0) (kc := 6) (ks := 20) rfl (hw _ (List.mem_of_getElem? (i := 0) rfl)) (hw _ (List.mem_of_getElem? (i := 1) rfl)) (hw _ (List.mem_of_getElem? (i := 2) rfl)) (hw _ (List.mem_of_getElem? (i := 3) rfl)) (by decide) rfl rfl (lenOf pd_10 rfl) rfl all0 (by decide) (by decide) (Met.pays (rm_dr_2 hw hEL Sc hzc p2 p3 p4 _ W.ext Sa Sh Sl) (hw _ (List.mem_of_getElem? (i := 3) rfl)) (hw _ (List.mem_of_getElem? (i := 2) rfl)) hEL (by decide) (by decide)) fun v67 T62 h64 W63 K65 q66 => ?_
      obtain ⟨s1, cs, rfl, S1, l1⟩ := q66
      show Goes _ _ _ _ _ _ _ _ _ _ _ T62 (mkF m 40 #[.val (.int p1), .val (.int p2), .val (.int p3), .val (.int p4), .val (.int (2 : Int32)), .val (.int (0 : Int32)), .unset, .unset] [(.ref s1)])
      refine g_astore W63 at_40 (pc' := 42) (L' := #[.val (.int p1), .val (.int p2), .val (.int p3), .val (.int p4), .val (.int (2 : Int32)), .val (.int (0 : Int32)), .val (.ref s1), .unset]) rfl rfl rfl ?_
      refine g_iload W63 at_42 (pc' := 44) rfl rfl ?_
      refine g_ifN W63 at_44 (pc' := 47) rfl (Jvm.Free.XT.i0_ne_f rfl) ?_
      refine g_iload W63 at_47 (pc' := 49) rfl rfl ?_
      refine g_ifN W63 at_49 (pc' := 52) rfl (Jvm.Free.XT.i0_le_f (by decide)) ?_
      refine g_iconst W63 at_52 (pc' := 53) (v := (1 : Int32)) rfl rfl ?_
      refine g_goto W63 at_53 (pc' := 57) (by decide) (by decide) ?_
      refine g_istore W63 at_57 (pc' := 59) (L' := #[.val (.int p1), .val (.int p2), .val (.int p3), .val (.int p4), .val (.int (2 : Int32)), .val (.int (0 : Int32)), .val (.ref s1), .val (.int (1 : Int32))]) rfl rfl ?_
      refine g_aload W63 at_59 (pc' := 61) rfl rfl rfl ?_
      refine g_static W63 at_61 (pc' := 64) (fr' := []) (argsL := [(.ref s1)]) (rest := []) (Wd := 0) (kc := 0) (ks := 0) rfl (hw _ (List.mem_of_getElem? (i := 26) rfl)) (hw _ (List.mem_of_getElem? (i := 27) rfl)) (hw _ (List.mem_of_getElem? (i := 28) rfl)) (hw _ (List.mem_of_getElem? (i := 29) rfl)) (by decide) rfl rfl (lenOf pd_11 rfl) rfl all0 (by decide) (by decide) (Met.pays (rm_isF hw hEL Sc hzc s1 cs _ W63.ext S1 (by omega)) (hw _ (List.mem_of_getElem? (i := 29) rfl)) (hw _ (List.mem_of_getElem? (i := 28) rfl)) hEL (by decide) (by decide)) fun v73 T68 h70 W69 K71 q72 => ?_
      obtain ⟨rfl, rfl⟩ := q72
      show Goes _ _ _ _ _ _ _ _ _ _ _ T68 (mkF m 64 #[.val (.int p1), .val (.int p2), .val (.int p3), .val (.int p4), .val (.int (2 : Int32)), .val (.int (0 : Int32)), .val (.ref s1), .val (.int (1 : Int32))] [(.int (1 : Int32))])
      refine g_iload W69 at_64 (pc' := 66) rfl rfl ?_
      refine g_icmpN W69 at_66 (pc' := 69) rfl (Jvm.Free.XT.ii_ne_f rfl) ?_
      refine g_iconst W69 at_69 (pc' := 70) (v := (1 : Int32)) rfl rfl ?_
      refine g_goto W69 at_70 (pc' := 74) (by decide) (by decide) ?_
      have K74 : Keep h h64 [] := ((Keep.refl h []).trans K65 fun _ q => nomatch q)
      exact g_ireturn W69 at_74 (by decide) rfl K74 rfl (by decide) (by decide)
  · rw [c1]
    refine g_istore W at_3 (pc' := 5) (L' := #[.val (.int p1), .val (.int p2), .val (.int p3), .val (.int p4), .val (.int (3 : Int32)), .unset, .unset, .unset]) rfl rfl ?_
    refine g_iload_n W at_5 (pc' := 6) rfl rfl ?_
    refine g_iconst W at_6 (pc' := 7) (v := (4 : Int32)) rfl rfl ?_
    refine g_iand W at_7 (pc' := 8) rfl ?_
    by_cases c75 : (p1 &&& (4 : Int32)) = 0
    · refine g_ifY W at_8 (pc' := 20) (by decide) (by decide) (Jvm.Free.XT.i0_eq_t c75) ?_
      refine g_iconst W at_20 (pc' := 21) (v := (0 : Int32)) rfl rfl ?_
      refine g_istore W at_21 (pc' := 23) (L' := #[.val (.int p1), .val (.int p2), .val (.int p3), .val (.int p4), .val (.int (3 : Int32)), .val (.int (0 : Int32)), .unset, .unset]) rfl rfl ?_
      refine g_iload W at_23 (pc' := 25) rfl rfl ?_
      refine g_ifY W at_25 (pc' := 32) (by decide) (by decide) (Jvm.Free.XT.i0_eq_t rfl) ?_
      refine g_iload W at_32 (pc' := 34) rfl rfl ?_
      refine g_iload_n W at_34 (pc' := 35) rfl rfl ?_
      refine g_iload_n W at_35 (pc' := 36) rfl rfl ?_
      refine g_iload_n W at_36 (pc' := 37) rfl rfl ?_
      refine g_static W at_37 (pc' := 40) (fr' := []) (argsL := [(.int (3 : Int32)), (.int p2), (.int p3), (.int p4)]) (rest := []) (Wd := 0) (kc := 6) (ks := 20) rfl (hw _ (List.mem_of_getElem? (i := 0) rfl)) (hw _ (List.mem_of_getElem? (i := 1) rfl)) (hw _ (List.mem_of_getElem? (i := 2) rfl)) (hw _ (List.mem_of_getElem? (i := 3) rfl)) (by decide) rfl rfl (lenOf pd_10 rfl) rfl all0 (by decide) (by decide) (Met.pays (rm_dr_3 hw hEL Sc hzc p2 p3 p4 _ W.ext Sa Sh Sl) (hw _ (List.mem_of_getElem? (i := 3) rfl)) (hw _ (List.mem_of_getElem? (i := 2) rfl)) hEL (by decide) (by decide)) fun v81 T76 h78 W77 K79 q80 => ?_
      obtain ⟨s1, cs, rfl, S1, l1⟩ := q80
      show Goes _ _ _ _ _ _ _ _ _ _ _ T76 (mkF m 40 #[.val (.int p1), .val (.int p2), .val (.int p3), .val (.int p4), .val (.int (3 : Int32)), .val (.int (0 : Int32)), .unset, .unset] [(.ref s1)])
      refine g_astore W77 at_40 (pc' := 42) (L' := #[.val (.int p1), .val (.int p2), .val (.int p3), .val (.int p4), .val (.int (3 : Int32)), .val (.int (0 : Int32)), .val (.ref s1), .unset]) rfl rfl rfl ?_
      refine g_iload W77 at_42 (pc' := 44) rfl rfl ?_
      refine g_ifN W77 at_44 (pc' := 47) rfl (Jvm.Free.XT.i0_ne_f rfl) ?_
      refine g_iload W77 at_47 (pc' := 49) rfl rfl ?_
      refine g_ifN W77 at_49 (pc' := 52) rfl (Jvm.Free.XT.i0_le_f (by decide)) ?_
      refine g_iconst W77 at_52 (pc' := 53) (v := (1 : Int32)) rfl rfl ?_
      refine g_goto W77 at_53 (pc' := 57) (by decide) (by decide) ?_
      refine g_istore W77 at_57 (pc' := 59) (L' := #[.val (.int p1), .val (.int p2), .val (.int p3), .val (.int p4), .val (.int (3 : Int32)), .val (.int (0 : Int32)), .val (.ref s1), .val (.int (1 : Int32))]) rfl rfl ?_
      refine g_aload W77 at_59 (pc' := 61) rfl rfl rfl ?_
      refine g_static W77 at_61 (pc' := 64) (fr' := []) (argsL := [(.ref s1)]) (rest := []) (Wd := 0) (kc := 0) (ks := 0) rfl (hw _ (List.mem_of_getElem? (i := 26) rfl)) (hw _ (List.mem_of_getElem? (i := 27) rfl)) (hw _ (List.mem_of_getElem? (i := 28) rfl)) (hw _ (List.mem_of_getElem? (i := 29) rfl)) (by decide) rfl rfl (lenOf pd_11 rfl) rfl all0 (by decide) (by decide) (Met.pays (rm_isF hw hEL Sc hzc s1 cs _ W77.ext S1 (by omega)) (hw _ (List.mem_of_getElem? (i := 29) rfl)) (hw _ (List.mem_of_getElem? (i := 28) rfl)) hEL (by decide) (by decide)) fun v87 T82 h84 W83 K85 q86 => ?_
      obtain ⟨rfl, rfl⟩ := q86
      show Goes _ _ _ _ _ _ _ _ _ _ _ T82 (mkF m 64 #[.val (.int p1), .val (.int p2), .val (.int p3), .val (.int p4), .val (.int (3 : Int32)), .val (.int (0 : Int32)), .val (.ref s1), .val (.int (1 : Int32))] [(.int (1 : Int32))])
      refine g_iload W83 at_64 (pc' := 66) rfl rfl ?_
      refine g_icmpN W83 at_66 (pc' := 69) rfl (Jvm.Free.XT.ii_ne_f rfl) ?_
      refine g_iconst W83 at_69 (pc' := 70) (v := (1 : Int32)) rfl rfl ?_
      refine g_goto W83 at_70 (pc' := 74) (by decide) (by decide) ?_
      have K88 : Keep h h78 [] := ((Keep.refl h []).trans K79 fun _ q => nomatch q)
      exact g_ireturn W83 at_74 (by decide) rfl K88 rfl (by decide) (by decide)
    · refine g_ifN W at_8 (pc' := 11) rfl (Jvm.Free.XT.i0_eq_f c75) ?_
      refine g_iload W at_11 (pc' := 13) rfl rfl ?_
      refine g_ifY W at_13 (pc' := 20) (by decide) (by decide) (Jvm.Free.XT.i0_ne_t (by decide)) ?_
      refine g_iconst W at_20 (pc' := 21) (v := (0 : Int32)) rfl rfl ?_
      refine g_istore W at_21 (pc' := 23) (L' := #[.val (.int p1), .val (.int p2), .val (.int p3), .val (.int p4), .val (.int (3 : Int32)), .val (.int (0 : Int32)), .unset, .unset]) rfl rfl ?_
      refine g_iload W at_23 (pc' := 25) rfl rfl ?_
      refine g_ifY W at_25 (pc' := 32) (by decide) (by decide) (Jvm.Free.XT.i0_eq_t rfl) ?_
      refine g_iload W at_32 (pc' := 34) rfl rfl ?_
      refine g_iload_n W at_34 (pc' := 35) rfl rfl ?_
      refine g_iload_n W at_35 (pc' := 36) rfl rfl ?_
      refine g_iload_n W at_36 (pc' := 37) rfl rfl ?_
      refine g_static W at_37 (pc' := 40) (fr' := []) (argsL := [(.int (3 : Int32)), (.int p2), (.int p3), (.int p4)]) (rest := []) (Wd := 0) (kc := 6) (ks := 20) rfl (hw _ (List.mem_of_getElem? (i := 0) rfl)) (hw _ (List.mem_of_getElem? (i := 1) rfl)) (hw _ (List.mem_of_getElem? (i := 2) rfl)) (hw _ (List.mem_of_getElem? (i := 3) rfl)) (by decide) rfl rfl (lenOf pd_10 rfl) rfl all0 (by decide) (by decide) (Met.pays (rm_dr_3 hw hEL Sc hzc p2 p3 p4 _ W.ext Sa Sh Sl) (hw _ (List.mem_of_getElem? (i := 3) rfl)) (hw _ (List.mem_of_getElem? (i := 2) rfl)) hEL (by decide) (by decide)) fun v94 T89 h91 W90 K92 q93 => ?_
      obtain ⟨s1, cs, rfl, S1, l1⟩ := q93
      show Goes _ _ _ _ _ _ _ _ _ _ _ T89 (mkF m 40 #[.val (.int p1), .val (.int p2), .val (.int p3), .val (.int p4), .val (.int (3 : Int32)), .val (.int (0 : Int32)), .unset, .unset] [(.ref s1)])
      refine g_astore W90 at_40 (pc' := 42) (L' := #[.val (.int p1), .val (.int p2), .val (.int p3), .val (.int p4), .val (.int (3 : Int32)), .val (.int (0 : Int32)), .val (.ref s1), .unset]) rfl rfl rfl ?_
      refine g_iload W90 at_42 (pc' := 44) rfl rfl ?_
      refine g_ifN W90 at_44 (pc' := 47) rfl (Jvm.Free.XT.i0_ne_f rfl) ?_
      refine g_iload W90 at_47 (pc' := 49) rfl rfl ?_
      refine g_ifN W90 at_49 (pc' := 52) rfl (Jvm.Free.XT.i0_le_f (by decide)) ?_
      refine g_iconst W90 at_52 (pc' := 53) (v := (1 : Int32)) rfl rfl ?_
      refine g_goto W90 at_53 (pc' := 57) (by decide) (by decide) ?_
      refine g_istore W90 at_57 (pc' := 59) (L' := #[.val (.int p1), .val (.int p2), .val (.int p3), .val (.int p4), .val (.int (3 : Int32)), .val (.int (0 : Int32)), .val (.ref s1), .val (.int (1 : Int32))]) rfl rfl ?_
      refine g_aload W90 at_59 (pc' := 61) rfl rfl rfl ?_
      refine g_static W90 at_61 (pc' := 64) (fr' := []) (argsL := [(.ref s1)]) (rest := []) (Wd := 0) (kc := 0) (ks := 0) rfl (hw _ (List.mem_of_getElem? (i := 26) rfl)) (hw _ (List.mem_of_getElem? (i := 27) rfl)) (hw _ (List.mem_of_getElem? (i := 28) rfl)) (hw _ (List.mem_of_getElem? (i := 29) rfl)) (by decide) rfl rfl (lenOf pd_11 rfl) rfl all0 (by decide) (by decide) (Met.pays (rm_isF hw hEL Sc hzc s1 cs _ W90.ext S1 (by omega)) (hw _ (List.mem_of_getElem? (i := 29) rfl)) (hw _ (List.mem_of_getElem? (i := 28) rfl)) hEL (by decide) (by decide)) fun v100 T95 h97 W96 K98 q99 => ?_
      obtain ⟨rfl, rfl⟩ := q99
      show Goes _ _ _ _ _ _ _ _ _ _ _ T95 (mkF m 64 #[.val (.int p1), .val (.int p2), .val (.int p3), .val (.int p4), .val (.int (3 : Int32)), .val (.int (0 : Int32)), .val (.ref s1), .val (.int (1 : Int32))] [(.int (1 : Int32))])
      refine g_iload W96 at_64 (pc' := 66) rfl rfl ?_
      refine g_icmpN W96 at_66 (pc' := 69) rfl (Jvm.Free.XT.ii_ne_f rfl) ?_
      refine g_iconst W96 at_69 (pc' := 70) (v := (1 : Int32)) rfl rfl ?_
      refine g_goto W96 at_70 (pc' := 74) (by decide) (by decide) ?_
      have K101 : Keep h h91 [] := ((Keep.refl h []).trans K92 fun _ q => nomatch q)
      exact g_ireturn W96 at_74 (by decide) rfl K101 rfl (by decide) (by decide)
set_option maxRecDepth 65536 in
theorem comes_1 {Post : Tables → Env → Array Value → State → Outcome → State → Prop} (hpost : ∀ tb e args s v u, (limb_1_1.after args s (.returned v) u = true ∧ limb_1_2.after args s (.returned v) u = true ∧ True) → ReturnedEndW s (.returned v) u (Jvm.fieldLocs frame_1_writes args s ++ Jvm.arrayLocs frame_1_arrays args s ++ Jvm.staticLocs frame_1_statics s) 24 1152 → Post tb e args s (.returned v) u) :
    ArmFor flags0 classFile x code maxLocals ret World_1 tables_1 room_1 Calls_1 rest_1 Pre_1 Post := by
  intro l hfl _ _ p e ha hc hk s m args below hf hA hF happ hP
  obtain ⟨hcalls, hrest, hpre⟩ := hP
  obtain ⟨-, -, -, hnamed, -, -, -, hat⟩ := (Spec.applies_iff hf).mp happ
  obtain ⟨hg, hn⟩ := and_e (Cond.before_iff.mp (show (Jvm.Cond.and given_1 narrow_1).before args s = true from hpre))
  obtain ⟨g0, r0⟩ := and_e hg
  obtain ⟨g1, r1⟩ := and_e r0
  obtain ⟨g2, r2⟩ := and_e r1
  obtain ⟨g3, r3⟩ := and_e r2
  obtain ⟨w0, w1, w2, w3, rfl⟩ : ∃ w0 w1 w2 w3 : Value, args = #[w0, w1, w2, w3] := by
    have hs : args.size = 4 := by simpa [Cond.value, given_1] using g0
    obtain ⟨L⟩ := args
    match L, hs with
    | [w0, w1, w2, w3], _ => exact ⟨w0, w1, w2, w3, rfl⟩
  have hw := fun d (hd : d ∈ tables_1) => atoms_spec (ws := Jvm.Cond.code x code maxLocals ret :: tables_1) hat d (List.mem_cons_of_mem _ hd)
  obtain ⟨hsets, hown0⟩ := atoms_of _ (rest_1_c_eq ▸ (show rest_1_c.before _ s = true from hrest))
  obtain ⟨i0, e0⟩ := is_v g1
  obtain rfl : w0 = (.int i0) := Option.some.inj e0
  obtain ⟨i1, e1⟩ := is_v g2
  obtain rfl : w1 = (.int i1) := Option.some.inj e1
  obtain ⟨i2, e2⟩ := is_v g3
  obtain rfl : w2 = (.int i2) := Option.some.inj e2
  obtain ⟨i3, e3⟩ := is_v r3
  obtain rfl : w3 = (.int i3) := Option.some.inj e3
  obtain ⟨zc, ez⟩ := is_v (Cond.before_iff.mp (hsets _ (List.mem_of_getElem? (i := 1) rfl)))
  have Sc : Sta s s.heap "java/lang/String" "COMPACT_STRINGS" "Z" (.int zc) := Sta.start ez (Or.inl (hsets _ (List.mem_of_getElem? (i := 0) rfl)))
  have hzc : ¬ (zc = (0 : Int32)) := gotF (Cond.eq_ints ez (Term.int_eval (0))) (not_v (Cond.before_iff.mp (hsets _ (List.mem_of_getElem? (i := 2) rfl))))
  have hEL : EW s _ EL1 := (EW.cons (hw _ (List.mem_of_getElem? (i := 18) rfl)) (by decide) EW.nil)
  have hCH : CHv s EL1 s.vm s.heap := CHv.start hEL hcalls.1 (hsets _ (List.mem_of_getElem? (i := 2) rfl)) (hw _ (List.mem_of_getElem? (i := 19) rfl)) (hw _ (List.mem_of_getElem? (i := 5) rfl))
  have Sa : Sta s s.heap "java/lang/StringUTF16" "$assertionsDisabled" "Z" (.int (1 : Int32)) := Sta.start (eqint_v (Cond.before_iff.mp (hsets _ (List.mem_of_getElem? (i := 12) rfl)))) (Or.inl (hsets _ (List.mem_of_getElem? (i := 11) rfl)))
  have Sh : Sta s s.heap "java/lang/StringUTF16" "HI_BYTE_SHIFT" "I" (.int (0 : Int32)) := Sta.start (eqint_v (Cond.before_iff.mp (hsets _ (List.mem_of_getElem? (i := 15) rfl)))) (Or.inl (hsets _ (List.mem_of_getElem? (i := 14) rfl)))
  have Sl : Sta s s.heap "java/lang/StringUTF16" "LO_BYTE_SHIFT" "I" (.int (8 : Int32)) := Sta.start (eqint_v (Cond.before_iff.mp (hsets _ (List.mem_of_getElem? (i := 18) rfl)))) (Or.inl (hsets _ (List.mem_of_getElem? (i := 17) rfl)))
  obtain ⟨n, o, h1, h2, h3, v, L, rfl, ⟨K, rfl, N⟩, hch, hnw, hq⟩ := rm_law hw hEL Sc hzc i0 i1 i2 i3 s.heap ⟨Nat.le_refl _, fun _ _ q => q⟩ Sa Sh Sl p e ha hc hk s m _ below hf ((Spec.applies_iff_loose hf).mp happ).1 ⟨rfl, State.Warmed39.refl s, rfl, hCH, fun _ q => nomatch q⟩ trivial
  refine ⟨n, _, h1, h2, h3, hpost _ _ _ _ _ _ ⟨Cond.after_iff.mpr rfl, Cond.after_iff.mpr (eq_i res_at (Term.int_eval (1)) rfl), trivial⟩ ⟨⟨_, rfl⟩, hq.2.1, hq.2.2.1, (hq.2.2.2.sift fun y hy => Or.inr (N y hy)).mono (by decide) (by decide)⟩⟩
theorem main_1_1 : Claimed_1_1 := comes_1 fun _ _ _ _ _ _ h hF => ⟨h.1, hF⟩
theorem main_1_2 : Claimed_1_2 := comes_1 fun _ _ _ _ _ _ h hF => ⟨h.2.1, hF⟩
end Own
theorem main_1_1 : Claimed_1_1 := Own.main_1_1
theorem main_1_2 : Claimed_1_2 := Own.main_1_2
end Jvm.Pilot.@@N@@
namespace Jvm.Pilot.@@N@@
open Jvm Jvm.ClassFile Sem Op Lib Jvm.Free Jvm.Stand Jvm.Pilot.@@N@@.Jvm.D
/-! MADE BY PROGRAM (witnessworld.py) out of the Statement's table words and the real class files: 20 classes; the members and pool entries that the words name. The judged class is class 1, her method 2. -/
namespace start1
open Jvm.ClassFile
def u (s : String) : CpInfo := .utf8 (stringToUtf16 s)
/-- a pool by its gaps: so many unusable entries, then the entry; so many at the end -/
def gap : Nat → List CpInfo → List CpInfo
  | 0, r => r
  | n + 1, r => .unusable :: gap n r
def poolList (es : List (Nat × CpInfo)) (last : Nat) : List CpInfo := es.foldr (fun e r => gap e.1 (e.2 :: r)) (gap last [])
def pool (es : List (Nat × CpInfo)) (last : Nat) : Array CpInfo := ⟨poolList es last⟩
def fileOf (pool : Array CpInfo) (this : Nat) (attrs : Array Attribute := #[]) (ms : Array MethodInfo := #[]) (fl : Nat := 33) (sup : Nat := 0) (ifs : Array Nat := #[]) (fds : Array FieldInfo := #[]) : ClassFile where
  minorVersion := 0
  majorVersion := 65
  constantPool := pool
  accessFlags := fl
  thisClass := this
  superClass := sup
  interfaces := ifs
  fields := fds
  methods := ms
  attributes := attrs
def plain (name : String) (sup : Option ClassId) : Class where
  name := name
  kind := .ordinary
  loader := none
  accessFlags := 33
  super := sup
  interfaces := #[]
  cf := none
  fields := #[]
  methods := #[]
  instanceTypes := #[]
  staticTypes := #[]
  resolved := #[]
  callSites := []
  init := .initialized
  statics := none
  mirror := none

def pool0 : Array CpInfo := pool [(5, u "<init>"), (0, u "()V"), (1, .class_ 10), (1, u "java/lang/Object")] 113

def k0c0 : Code := { maxStack := 0, maxLocals := 1, code := object_method_1_code, exceptionTable := #[], attributes := #[] }
def k0m0 : Method := { name := "<init>", desc := "()V", sig := { parameters := [], returnType := none }, accessFlags := 1, code := some k0c0 }
/-- java/lang/Object -/
def k0 : Class := { plain "java/lang/Object" none with
  accessFlags := 33
  interfaces := #[]
  cf := some (fileOf pool0 8 #[] #[{ accessFlags := 1, nameIndex := 5, descriptorIndex := 6, attributes := #[] }] 33 0 #[] #[])
  fields := #[]
  methods := #[k0m0]
  instanceTypes := #[]
  staticTypes := #[]
  resolved := Array.replicate 124 none
  statics := none }

def pool1 : Array CpInfo := pool [(2, .class_ 4), (1, u "java/lang/Object"), (0, u "<init>"), (0, u "()V"), (0, .class_ 8), (0, u "java/lang/String"), (0, .methodref 7 10), (0, .nameAndType 5 11), (0, u "([C)V"), (0, .methodref 13 14), (0, .class_ 15), (0, .nameAndType 16 17), (0, u "com/example/tethercall/tethercall/ServiceAddressIsAddressPinLaw"), (0, u "drawn"), (0, u "(IIII)Ljava/lang/String;"), (0, .methodref 19 20), (0, .class_ 21), (0, .nameAndType 22 23), (0, u "com/example/tethercall/tethercall/ServiceAddress"), (0, u "isAddress"), (0, u "(Ljava/lang/String;)Z"), (3, u "law"), (0, u "(IIII)Z")] 2

def k1m0 : Method := { name := "<init>", desc := "()V", sig := { parameters := [], returnType := none }, accessFlags := 2, code := none }
def k1c1 : Code := { maxStack := 6, maxLocals := 7, code := method_2_code, exceptionTable := #[], attributes := #[] }
def k1m1 : Method := { name := "drawn", desc := "(IIII)Ljava/lang/String;", sig := { parameters := [.int, .int, .int, .int], returnType := some (.object "java/lang/String") }, accessFlags := 10, code := some k1c1 }
def k1c2 : Code := { maxStack := 4, maxLocals := 8, code := code, exceptionTable := #[], attributes := #[] }
def k1m2 : Method := { name := "law", desc := "(IIII)Z", sig := { parameters := [.int, .int, .int, .int], returnType := some .boolean }, accessFlags := 9, code := some k1c2 }
/-- com/example/tethercall/tethercall/ServiceAddressIsAddressPinLaw -/
def k1 : Class := { plain "com/example/tethercall/tethercall/ServiceAddressIsAddressPinLaw" (some 0) with
  accessFlags := 49
  interfaces := #[]
  cf := some (fileOf pool1 13 #[] #[{ accessFlags := 2, nameIndex := 5, descriptorIndex := 6, attributes := #[] }, { accessFlags := 10, nameIndex := 16, descriptorIndex := 17, attributes := #[] }, { accessFlags := 9, nameIndex := 27, descriptorIndex := 28, attributes := #[] }] 49 2 #[] #[])
  fields := #[]
  methods := #[k1m0, k1m1, k1m2]
  instanceTypes := #[]
  staticTypes := #[]
  resolved := Array.replicate 31 none
  statics := none }

def pool2 : Array CpInfo := pool [(1, .class_ 2), (0, u "java/io/Serializable"), (0, .class_ 4), (0, u "java/lang/Object")] 2

/-- java/io/Serializable -/
def k2 : Class := { plain "java/io/Serializable" (some 0) with
  accessFlags := 1537
  interfaces := #[]
  cf := some (fileOf pool2 1 #[] #[] 1537 3 #[] #[])
  fields := #[]
  methods := #[]
  instanceTypes := #[]
  staticTypes := #[]
  resolved := Array.replicate 7 none
  statics := none }

def pool3 : Array CpInfo := pool [(1, .class_ 2), (0, u "java/lang/Comparable"), (0, .class_ 4), (0, u "java/lang/Object")] 7

/-- java/lang/Comparable -/
def k3 : Class := { plain "java/lang/Comparable" (some 0) with
  accessFlags := 1537
  interfaces := #[]
  cf := some (fileOf pool3 1 #[] #[] 1537 3 #[] #[])
  fields := #[]
  methods := #[]
  instanceTypes := #[]
  staticTypes := #[]
  resolved := Array.replicate 12 none
  statics := none }

def pool4 : Array CpInfo := pool [(2, .class_ 4), (1, u "java/lang/CharSequence"), (42, .class_ 48), (0, u "java/lang/CharSequence$1CodePointIterator"), (10, .class_ 60), (0, u "java/lang/CharSequence$1CharIterator"), (5, .class_ 67), (0, u "java/lang/Object")] 63

/-- java/lang/CharSequence -/
def k4 : Class := { plain "java/lang/CharSequence" (some 0) with
  accessFlags := 1537
  interfaces := #[]
  cf := some (fileOf pool4 2 #[.nestMembers #[47, 59]] #[] 1537 66 #[] #[])
  fields := #[]
  methods := #[]
  instanceTypes := #[]
  staticTypes := #[]
  resolved := Array.replicate 131 none
  statics := none }

def pool5 : Array CpInfo := pool [(1, .class_ 2), (0, u "java/lang/constant/Constable"), (0, .class_ 4), (0, u "java/lang/Object")] 6

/-- java/lang/constant/Constable -/
def k5 : Class := { plain "java/lang/constant/Constable" (some 0) with
  accessFlags := 1537
  interfaces := #[]
  cf := some (fileOf pool5 1 #[] #[] 1537 3 #[] #[])
  fields := #[]
  methods := #[]
  instanceTypes := #[]
  staticTypes := #[]
  resolved := Array.replicate 11 none
  statics := none }

def pool6 : Array CpInfo := pool [(1, .class_ 2), (0, u "java/lang/constant/ConstantDesc"), (0, .class_ 4), (0, u "java/lang/Object")] 32

/-- java/lang/constant/ConstantDesc -/
def k6 : Class := { plain "java/lang/constant/ConstantDesc" (some 0) with
  accessFlags := 1537
  interfaces := #[]
  cf := some (fileOf pool6 1 #[] #[] 1537 3 #[] #[])
  fields := #[]
  methods := #[]
  instanceTypes := #[]
  staticTypes := #[]
  resolved := Array.replicate 37 none
  statics := none }

def pool7 : Array CpInfo := pool [(1, .methodref 2 3), (0, .class_ 4), (0, .nameAndType 5 6), (0, u "java/lang/Object"), (0, u "<init>"), (0, u "()V"), (0, .string 8), (0, u ""), (0, .fieldref 10 11), (0, .class_ 12), (0, .nameAndType 13 14), (0, u "java/lang/String"), (0, u "value"), (0, u "[B"), (0, .fieldref 10 16), (0, .nameAndType 17 18), (0, u "coder"), (0, u "B"), (2, u "hash"), (0, u "I"), (2, u "hashIsZero"), (0, u "Z"), (0, .methodref 10 28), (0, .nameAndType 5 29), (0, u "([CIILjava/lang/Void;)V"), (8, .fieldref 10 39), (0, .nameAndType 40 26), (0, u "COMPACT_STRINGS"), (1, .class_ 44), (1, u "java/lang/StringUTF16"), (0, u "compress"), (1, .methodref 42 48), (0, .nameAndType 49 50), (0, u "coderFromArrayLen"), (0, u "([BI)B"), (91, u "()Z"), (34, .methodref 42 178), (0, .nameAndType 45 179), (0, u "([CII)[B"), (395, .class_ 576), (0, u "java/lang/CharSequence"), (22, u "CASE_INSENSITIVE_ORDER"), (0, u "Ljava/util/Comparator;"), (91, u "isEmpty"), (317, u "([C)V"), (90, u "serialPersistentFields"), (0, u "[Ljava/io/ObjectStreamField;"), (0, .class_ 1104), (0, u "java/lang/String$CaseInsensitiveComparator"), (1, .class_ 1107), (0, u "java/io/Serializable"), (0, .class_ 1109), (0, u "java/lang/Comparable"), (0, .class_ 1111), (0, u "java/lang/constant/Constable"), (0, .class_ 1113), (0, u "java/lang/constant/ConstantDesc"), (2, u "serialVersionUID"), (0, u "J"), (3, u "REPL"), (0, u "C"), (2, u "LATIN1"), (1, u "UTF16")] 323

def k7m0 : Method := { name := "<init>", desc := "()V", sig := { parameters := [], returnType := none }, accessFlags := 1, code := none }
def k7c1 : Code := { maxStack := 5, maxLocals := 2, code := jdk_42_method_3_code, exceptionTable := #[], attributes := #[] }
def k7m1 : Method := { name := "<init>", desc := "([C)V", sig := { parameters := [(.array .char)], returnType := none }, accessFlags := 1, code := some k7c1 }
def k7c2 : Code := { maxStack := 1, maxLocals := 1, code := jdk_42_method_55_code, exceptionTable := #[], attributes := #[] }
def k7m2 : Method := { name := "isEmpty", desc := "()Z", sig := { parameters := [], returnType := some .boolean }, accessFlags := 1, code := some k7c2 }
def k7c3 : Code := { maxStack := 4, maxLocals := 6, code := jdk_42_method_149_code, exceptionTable := #[], attributes := #[] }
def k7m3 : Method := { name := "<init>", desc := "([CIILjava/lang/Void;)V", sig := { parameters := [(.array .char), .int, .int, (.object "java/lang/Void")], returnType := none }, accessFlags := 2, code := some k7c3 }
/-- java/lang/String -/
def k7 : Class := { plain "java/lang/String" (some 0) with
  accessFlags := 49
  interfaces := #[2, 3, 4, 5, 6]
  cf := some (fileOf pool7 10 #[.nestMembers #[1103]] #[{ accessFlags := 1, nameIndex := 5, descriptorIndex := 6, attributes := #[] }, { accessFlags := 1, nameIndex := 5, descriptorIndex := 1010, attributes := #[] }, { accessFlags := 1, nameIndex := 692, descriptorIndex := 142, attributes := #[] }, { accessFlags := 2, nameIndex := 5, descriptorIndex := 29, attributes := #[] }] 49 2 #[1106, 1108, 575, 1110, 1112] #[{ accessFlags := 18, nameIndex := 13, descriptorIndex := 14, attributes := #[] }, { accessFlags := 18, nameIndex := 17, descriptorIndex := 18, attributes := #[] }, { accessFlags := 2, nameIndex := 21, descriptorIndex := 22, attributes := #[] }, { accessFlags := 2, nameIndex := 25, descriptorIndex := 26, attributes := #[] }, { accessFlags := 26, nameIndex := 1116, descriptorIndex := 1117, attributes := #[] }, { accessFlags := 24, nameIndex := 40, descriptorIndex := 26, attributes := #[] }, { accessFlags := 26, nameIndex := 1101, descriptorIndex := 1102, attributes := #[] }, { accessFlags := 26, nameIndex := 1121, descriptorIndex := 1122, attributes := #[] }, { accessFlags := 25, nameIndex := 599, descriptorIndex := 600, attributes := #[] }, { accessFlags := 24, nameIndex := 1125, descriptorIndex := 18, attributes := #[] }, { accessFlags := 24, nameIndex := 1127, descriptorIndex := 18, attributes := #[] }])
  fields := #[{ name := "value", type := (.array .byte), accessFlags := 18, slot := 0, constantValue := 0 }, { name := "coder", type := .byte, accessFlags := 18, slot := 1, constantValue := 0 }, { name := "hash", type := .int, accessFlags := 2, slot := 2, constantValue := 0 }, { name := "hashIsZero", type := .boolean, accessFlags := 2, slot := 3, constantValue := 0 }, { name := "serialVersionUID", type := .long, accessFlags := 26, slot := 0, constantValue := 0 }, { name := "COMPACT_STRINGS", type := .boolean, accessFlags := 24, slot := 1, constantValue := 0 }, { name := "serialPersistentFields", type := (.array (.object "java/io/ObjectStreamField")), accessFlags := 26, slot := 2, constantValue := 0 }, { name := "REPL", type := .char, accessFlags := 26, slot := 3, constantValue := 0 }, { name := "CASE_INSENSITIVE_ORDER", type := (.object "java/util/Comparator"), accessFlags := 25, slot := 4, constantValue := 0 }, { name := "LATIN1", type := .byte, accessFlags := 24, slot := 5, constantValue := 0 }, { name := "UTF16", type := .byte, accessFlags := 24, slot := 6, constantValue := 0 }]
  methods := #[k7m0, k7m1, k7m2, k7m3]
  instanceTypes := #[(.array .byte), .byte, .int, .boolean]
  staticTypes := #[.long, .boolean, (.array (.object "java/io/ObjectStreamField")), .char, (.object "java/util/Comparator"), .byte, .byte]
  resolved := Array.replicate 1451 none
  statics := some 0 }

def pool8 : Array CpInfo := pool [(2, .class_ 4), (1, u "java/lang/Object"), (0, u "<init>"), (0, u "()V"), (0, .methodref 8 9), (0, .class_ 10), (0, .nameAndType 11 12), (0, u "java/lang/String"), (0, u "isEmpty"), (0, u "()Z"), (9, .class_ 24), (1, u "com/example/tethercall/tethercall/ServiceAddress"), (0, u "isAddress"), (0, u "(Ljava/lang/String;)Z")] 14

def k8m0 : Method := { name := "<init>", desc := "()V", sig := { parameters := [], returnType := none }, accessFlags := 2, code := none }
def k8c1 : Code := { maxStack := 1, maxLocals := 1, code := prog_15_method_2_code, exceptionTable := #[], attributes := #[] }
def k8m1 : Method := { name := "isAddress", desc := "(Ljava/lang/String;)Z", sig := { parameters := [(.object "java/lang/String")], returnType := some .boolean }, accessFlags := 8, code := some k8c1 }
/-- com/example/tethercall/tethercall/ServiceAddress -/
def k8 : Class := { plain "com/example/tethercall/tethercall/ServiceAddress" (some 0) with
  accessFlags := 48
  interfaces := #[]
  cf := some (fileOf pool8 22 #[] #[{ accessFlags := 2, nameIndex := 5, descriptorIndex := 6, attributes := #[] }, { accessFlags := 8, nameIndex := 25, descriptorIndex := 26, attributes := #[] }] 48 2 #[] #[])
  fields := #[]
  methods := #[k8m0, k8m1]
  instanceTypes := #[]
  staticTypes := #[]
  resolved := Array.replicate 41 none
  statics := none }

def pool9 : Array CpInfo := pool [(6, .class_ 8), (1, u "java/lang/Object"), (0, u "<init>"), (0, u "()V"), (0, .methodref 12 13), (0, .class_ 14), (0, .nameAndType 15 16), (0, u "java/lang/StringUTF16"), (0, u "newBytesLength"), (0, u "(I)I"), (3, .integer 1073741823), (23, .fieldref 12 45), (0, .nameAndType 46 47), (0, u "$assertionsDisabled"), (0, u "Z"), (11, .fieldref 12 60), (0, .nameAndType 61 62), (0, u "HI_BYTE_SHIFT"), (0, u "I"), (0, .fieldref 12 64), (0, .nameAndType 65 62), (0, u "LO_BYTE_SHIFT"), (5, .methodref 12 72), (0, .nameAndType 73 74), (0, u "getChar"), (0, u "([BI)C"), (32, .methodref 12 108), (0, .nameAndType 109 110), (0, u "newBytesFor"), (0, u "(I)[B"), (0, .methodref 12 112), (0, .nameAndType 113 114), (0, u "putChar"), (0, u "([BII)V"), (0, .methodref 12 116), (0, .nameAndType 117 118), (0, u "compress"), (0, u "([CI[BII)I"), (0, .methodref 12 120), (0, .nameAndType 121 122), (0, u "toBytes"), (0, u "([CII)[B"), (138, u "coderFromArrayLen"), (0, u "([BI)B"), (106, .class_ 371), (1, u "java/lang/StringUTF16$LinesSpliterator"), (58, u "MAX_LENGTH"), (196, .class_ 628), (0, u "java/lang/StringUTF16$CodePointsSpliterator"), (0, .class_ 630), (0, u "java/lang/StringUTF16$CharsSpliterator")] 4

def k9m0 : Method := { name := "<init>", desc := "()V", sig := { parameters := [], returnType := none }, accessFlags := 0, code := none }
def k9c1 : Code := { maxStack := 1, maxLocals := 1, code := jdk_52_method_2_code, exceptionTable := #[], attributes := #[] }
def k9m1 : Method := { name := "newBytesFor", desc := "(I)[B", sig := { parameters := [.int], returnType := some (.array .byte) }, accessFlags := 9, code := some k9c1 }
def k9c2 : Code := { maxStack := 4, maxLocals := 1, code := jdk_52_method_3_code, exceptionTable := #[], attributes := #[] }
def k9m2 : Method := { name := "newBytesLength", desc := "(I)I", sig := { parameters := [.int], returnType := some .int }, accessFlags := 9, code := some k9c2 }
def k9c3 : Code := { maxStack := 4, maxLocals := 3, code := jdk_52_method_4_code, exceptionTable := #[], attributes := #[] }
def k9m3 : Method := { name := "putChar", desc := "([BII)V", sig := { parameters := [(.array .byte), .int, .int], returnType := none }, accessFlags := 8, code := some k9c3 }
def k9c4 : Code := { maxStack := 3, maxLocals := 2, code := jdk_52_method_5_code, exceptionTable := #[], attributes := #[] }
def k9m4 : Method := { name := "getChar", desc := "([BI)C", sig := { parameters := [(.array .byte), .int], returnType := some .char }, accessFlags := 8, code := some k9c4 }
def k9c5 : Code := { maxStack := 4, maxLocals := 5, code := jdk_52_method_14_code, exceptionTable := #[], attributes := #[] }
def k9m5 : Method := { name := "toBytes", desc := "([CII)[B", sig := { parameters := [(.array .char), .int, .int], returnType := some (.array .byte) }, accessFlags := 9, code := some k9c5 }
def k9c6 : Code := { maxStack := 2, maxLocals := 2, code := jdk_52_method_15_code, exceptionTable := #[], attributes := #[] }
def k9m6 : Method := { name := "coderFromArrayLen", desc := "([BI)B", sig := { parameters := [(.array .byte), .int], returnType := some .byte }, accessFlags := 8, code := some k9c6 }
def k9c7 : Code := { maxStack := 5, maxLocals := 6, code := jdk_52_method_16_code, exceptionTable := #[], attributes := #[] }
def k9m7 : Method := { name := "compress", desc := "([CII)[B", sig := { parameters := [(.array .char), .int, .int], returnType := some (.array .byte) }, accessFlags := 9, code := some k9c7 }
def k9c8 : Code := { maxStack := 3, maxLocals := 7, code := jdk_52_method_21_code, exceptionTable := #[], attributes := #[] }
def k9m8 : Method := { name := "compress", desc := "([CI[BII)I", sig := { parameters := [(.array .char), .int, (.array .byte), .int, .int], returnType := some .int }, accessFlags := 9, code := some k9c8 }
/-- java/lang/StringUTF16 -/
def k9 : Class := { plain "java/lang/StringUTF16" (some 0) with
  accessFlags := 48
  interfaces := #[]
  cf := some (fileOf pool9 12 #[.nestMembers #[627, 629, 369]] #[{ accessFlags := 0, nameIndex := 9, descriptorIndex := 10, attributes := #[] }, { accessFlags := 9, nameIndex := 109, descriptorIndex := 110, attributes := #[] }, { accessFlags := 9, nameIndex := 15, descriptorIndex := 16, attributes := #[] }, { accessFlags := 8, nameIndex := 113, descriptorIndex := 114, attributes := #[] }, { accessFlags := 8, nameIndex := 73, descriptorIndex := 74, attributes := #[] }, { accessFlags := 9, nameIndex := 121, descriptorIndex := 122, attributes := #[] }, { accessFlags := 8, nameIndex := 261, descriptorIndex := 262, attributes := #[] }, { accessFlags := 9, nameIndex := 117, descriptorIndex := 122, attributes := #[] }, { accessFlags := 9, nameIndex := 117, descriptorIndex := 118, attributes := #[] }] 48 6 #[] #[{ accessFlags := 26, nameIndex := 61, descriptorIndex := 62, attributes := #[] }, { accessFlags := 26, nameIndex := 65, descriptorIndex := 62, attributes := #[] }, { accessFlags := 24, nameIndex := 430, descriptorIndex := 62, attributes := #[] }, { accessFlags := 4120, nameIndex := 46, descriptorIndex := 47, attributes := #[] }])
  fields := #[{ name := "HI_BYTE_SHIFT", type := .int, accessFlags := 26, slot := 0, constantValue := 0 }, { name := "LO_BYTE_SHIFT", type := .int, accessFlags := 26, slot := 1, constantValue := 0 }, { name := "MAX_LENGTH", type := .int, accessFlags := 24, slot := 2, constantValue := 0 }, { name := "$assertionsDisabled", type := .boolean, accessFlags := 4120, slot := 3, constantValue := 0 }]
  methods := #[k9m0, k9m1, k9m2, k9m3, k9m4, k9m5, k9m6, k9m7, k9m8]
  instanceTypes := #[]
  staticTypes := #[.int, .int, .int, .boolean]
  resolved := Array.replicate 635 none
  statics := some 1 }

def pool10 : Array CpInfo := pool [(4, .class_ 6), (1, u "java/lang/Object"), (0, u "<init>"), (0, u "()V"), (5, .class_ 16), (1, u "java/lang/StringLatin1"), (104, u "$assertionsDisabled"), (0, u "Z"), (98, .class_ 223), (1, u "java/lang/StringLatin1$LinesSpliterator"), (166, .class_ 391), (0, u "java/lang/StringLatin1$CharsSpliterator")] 3

def k10m0 : Method := { name := "<init>", desc := "()V", sig := { parameters := [], returnType := none }, accessFlags := 0, code := none }
/-- java/lang/StringLatin1 -/
def k10 : Class := { plain "java/lang/StringLatin1" (some 0) with
  accessFlags := 48
  interfaces := #[]
  cf := some (fileOf pool10 14 #[.nestMembers #[390, 221]] #[{ accessFlags := 0, nameIndex := 7, descriptorIndex := 8, attributes := #[] }] 48 4 #[] #[{ accessFlags := 4120, nameIndex := 121, descriptorIndex := 122, attributes := #[] }])
  fields := #[{ name := "$assertionsDisabled", type := .boolean, accessFlags := 4120, slot := 0, constantValue := 0 }]
  methods := #[k10m0]
  instanceTypes := #[]
  staticTypes := #[.boolean]
  resolved := Array.replicate 395 none
  statics := none }

def pool11 : Array CpInfo := pool [(2, .class_ 4), (1, u "java/lang/Object"), (0, u "<init>"), (0, u "()V"), (17, .class_ 26), (1, u "jdk/internal/util/Preconditions"), (28, .class_ 56), (0, u "jdk/internal/util/Preconditions$4"), (57, .class_ 115), (0, u "jdk/internal/util/Preconditions$1"), (7, u "SIOOBE_FORMATTER"), (0, u "Ljava/util/function/BiFunction;"), (0, .class_ 126), (0, u "jdk/internal/util/Preconditions$2"), (3, u "AIOOBE_FORMATTER"), (0, .class_ 132), (0, u "jdk/internal/util/Preconditions$3"), (3, u "IOOBE_FORMATTER")] 57

def k11m0 : Method := { name := "<init>", desc := "()V", sig := { parameters := [], returnType := none }, accessFlags := 1, code := none }
/-- jdk/internal/util/Preconditions -/
def k11 : Class := { plain "jdk/internal/util/Preconditions" (some 0) with
  accessFlags := 33
  interfaces := #[]
  cf := some (fileOf pool11 24 #[.nestMembers #[55, 131, 125, 114]] #[{ accessFlags := 1, nameIndex := 5, descriptorIndex := 6, attributes := #[] }] 33 2 #[] #[{ accessFlags := 25, nameIndex := 123, descriptorIndex := 124, attributes := #[] }, { accessFlags := 25, nameIndex := 130, descriptorIndex := 124, attributes := #[] }, { accessFlags := 25, nameIndex := 136, descriptorIndex := 124, attributes := #[] }])
  fields := #[{ name := "SIOOBE_FORMATTER", type := (.object "java/util/function/BiFunction"), accessFlags := 25, slot := 0, constantValue := 0 }, { name := "AIOOBE_FORMATTER", type := (.object "java/util/function/BiFunction"), accessFlags := 25, slot := 1, constantValue := 0 }, { name := "IOOBE_FORMATTER", type := (.object "java/util/function/BiFunction"), accessFlags := 25, slot := 2, constantValue := 0 }]
  methods := #[k11m0]
  instanceTypes := #[]
  staticTypes := #[(.object "java/util/function/BiFunction"), (.object "java/util/function/BiFunction"), (.object "java/util/function/BiFunction")]
  resolved := Array.replicate 194 none
  statics := some 2 }

def pool12 : Array CpInfo := pool [(9, u "<init>"), (6, .class_ 18), (1, u "java/lang/Object"), (0, u "()V"), (1, .class_ 23), (1, u "jdk/internal/util/ArraysSupport"), (0, u "LOG2_ARRAY_LONG_INDEX_SCALE"), (0, u "I"), (2, u "U"), (0, u "Ljdk/internal/misc/Unsafe;"), (8, u "BIG_ENDIAN"), (0, u "Z"), (8, u "LOG2_BYTE_BIT_SIZE"), (4, u "LOG2_ARRAY_INT_INDEX_SCALE"), (54, u "JLA"), (0, u "Ljdk/internal/access/JavaLangAccess;"), (11, u "LOG2_ARRAY_BOOLEAN_INDEX_SCALE"), (9, u "LOG2_ARRAY_BYTE_INDEX_SCALE"), (5, u "LOG2_ARRAY_CHAR_INDEX_SCALE"), (5, u "LOG2_ARRAY_SHORT_INDEX_SCALE"), (18, u "LOG2_ARRAY_FLOAT_INDEX_SCALE"), (24, u "LOG2_ARRAY_DOUBLE_INDEX_SCALE"), (89, u "T_BOOLEAN"), (2, u "T_CHAR"), (1, u "T_FLOAT"), (1, u "T_DOUBLE"), (1, u "T_BYTE"), (1, u "T_SHORT"), (1, u "T_INT"), (1, u "T_LONG"), (1, u "SOFT_MAX_ARRAY_LENGTH")] 83

def k12m0 : Method := { name := "<init>", desc := "()V", sig := { parameters := [], returnType := none }, accessFlags := 2, code := none }
/-- jdk/internal/util/ArraysSupport -/
def k12 : Class := { plain "jdk/internal/util/ArraysSupport" (some 0) with
  accessFlags := 33
  interfaces := #[]
  cf := some (fileOf pool12 21 #[] #[{ accessFlags := 2, nameIndex := 9, descriptorIndex := 19, attributes := #[] }] 33 16 #[] #[{ accessFlags := 24, nameIndex := 28, descriptorIndex := 29, attributes := #[] }, { accessFlags := 26, nameIndex := 38, descriptorIndex := 39, attributes := #[] }, { accessFlags := 25, nameIndex := 121, descriptorIndex := 25, attributes := #[] }, { accessFlags := 25, nameIndex := 131, descriptorIndex := 25, attributes := #[] }, { accessFlags := 25, nameIndex := 137, descriptorIndex := 25, attributes := #[] }, { accessFlags := 25, nameIndex := 143, descriptorIndex := 25, attributes := #[] }, { accessFlags := 25, nameIndex := 53, descriptorIndex := 25, attributes := #[] }, { accessFlags := 25, nameIndex := 24, descriptorIndex := 25, attributes := #[] }, { accessFlags := 25, nameIndex := 162, descriptorIndex := 25, attributes := #[] }, { accessFlags := 25, nameIndex := 187, descriptorIndex := 25, attributes := #[] }, { accessFlags := 26, nameIndex := 48, descriptorIndex := 25, attributes := #[] }, { accessFlags := 25, nameIndex := 277, descriptorIndex := 25, attributes := #[] }, { accessFlags := 25, nameIndex := 280, descriptorIndex := 25, attributes := #[] }, { accessFlags := 25, nameIndex := 282, descriptorIndex := 25, attributes := #[] }, { accessFlags := 25, nameIndex := 284, descriptorIndex := 25, attributes := #[] }, { accessFlags := 25, nameIndex := 286, descriptorIndex := 25, attributes := #[] }, { accessFlags := 25, nameIndex := 288, descriptorIndex := 25, attributes := #[] }, { accessFlags := 25, nameIndex := 290, descriptorIndex := 25, attributes := #[] }, { accessFlags := 25, nameIndex := 292, descriptorIndex := 25, attributes := #[] }, { accessFlags := 26, nameIndex := 108, descriptorIndex := 109, attributes := #[] }, { accessFlags := 25, nameIndex := 294, descriptorIndex := 25, attributes := #[] }])
  fields := #[{ name := "U", type := (.object "jdk/internal/misc/Unsafe"), accessFlags := 24, slot := 0, constantValue := 0 }, { name := "BIG_ENDIAN", type := .boolean, accessFlags := 26, slot := 1, constantValue := 0 }, { name := "LOG2_ARRAY_BOOLEAN_INDEX_SCALE", type := .int, accessFlags := 25, slot := 2, constantValue := 0 }, { name := "LOG2_ARRAY_BYTE_INDEX_SCALE", type := .int, accessFlags := 25, slot := 3, constantValue := 0 }, { name := "LOG2_ARRAY_CHAR_INDEX_SCALE", type := .int, accessFlags := 25, slot := 4, constantValue := 0 }, { name := "LOG2_ARRAY_SHORT_INDEX_SCALE", type := .int, accessFlags := 25, slot := 5, constantValue := 0 }, { name := "LOG2_ARRAY_INT_INDEX_SCALE", type := .int, accessFlags := 25, slot := 6, constantValue := 0 }, { name := "LOG2_ARRAY_LONG_INDEX_SCALE", type := .int, accessFlags := 25, slot := 7, constantValue := 0 }, { name := "LOG2_ARRAY_FLOAT_INDEX_SCALE", type := .int, accessFlags := 25, slot := 8, constantValue := 0 }, { name := "LOG2_ARRAY_DOUBLE_INDEX_SCALE", type := .int, accessFlags := 25, slot := 9, constantValue := 0 }, { name := "LOG2_BYTE_BIT_SIZE", type := .int, accessFlags := 26, slot := 10, constantValue := 0 }, { name := "T_BOOLEAN", type := .int, accessFlags := 25, slot := 11, constantValue := 0 }, { name := "T_CHAR", type := .int, accessFlags := 25, slot := 12, constantValue := 0 }, { name := "T_FLOAT", type := .int, accessFlags := 25, slot := 13, constantValue := 0 }, { name := "T_DOUBLE", type := .int, accessFlags := 25, slot := 14, constantValue := 0 }, { name := "T_BYTE", type := .int, accessFlags := 25, slot := 15, constantValue := 0 }, { name := "T_SHORT", type := .int, accessFlags := 25, slot := 16, constantValue := 0 }, { name := "T_INT", type := .int, accessFlags := 25, slot := 17, constantValue := 0 }, { name := "T_LONG", type := .int, accessFlags := 25, slot := 18, constantValue := 0 }, { name := "JLA", type := (.object "jdk/internal/access/JavaLangAccess"), accessFlags := 26, slot := 19, constantValue := 0 }, { name := "SOFT_MAX_ARRAY_LENGTH", type := .int, accessFlags := 25, slot := 20, constantValue := 0 }]
  methods := #[k12m0]
  instanceTypes := #[]
  staticTypes := #[(.object "jdk/internal/misc/Unsafe"), .boolean, .int, .int, .int, .int, .int, .int, .int, .int, .int, .int, .int, .int, .int, .int, .int, .int, .int, (.object "jdk/internal/access/JavaLangAccess"), .int]
  resolved := Array.replicate 378 none
  statics := none }

def pool13 : Array CpInfo := pool [(1, u "java/lang/Cloneable"), (0, .class_ 1), (0, u "java/lang/Object"), (0, .class_ 3)] 3

/-- java/lang/Cloneable -/
def k13 : Class := { plain "java/lang/Cloneable" (some 0) with
  accessFlags := 1537
  interfaces := #[]
  cf := some (fileOf pool13 2 #[] #[] 1537 4 #[] #[])
  fields := #[]
  methods := #[]
  instanceTypes := #[]
  staticTypes := #[]
  resolved := Array.replicate 8 none
  statics := none }

/-- the primitive byte -/
def k14 : Class := { plain "byte" none with kind := .primitive 'B', accessFlags := 0x411 }
/-- [B -/
def k15 : Class := { plain "[B" (some 0) with kind := .array 14 .byte, interfaces := #[13, 2], accessFlags := 1041 }

/-- the primitive char -/
def k16 : Class := { plain "char" none with kind := .primitive 'C', accessFlags := 0x411 }
/-- [C -/
def k17 : Class := { plain "[C" (some 0) with kind := .array 16 .char, interfaces := #[13, 2], accessFlags := 1041 }

/-- the primitive int -/
def k18 : Class := { plain "int" none with kind := .primitive 'I', accessFlags := 0x411 }
/-- [I -/
def k19 : Class := { plain "[I" (some 0) with kind := .array 18 .int, interfaces := #[13, 2], accessFlags := 1041 }

def heap : Heap := #[{ cls := 7, slots := #[.long 0, .int 1, .null, .int 0, .null, .int 0, .int 0], vm := .statics 7 },
  { cls := 9, slots := #[.int 0, .int 8, .int 0, .int 1], vm := .statics 9 },
  { cls := 11, slots := #[.null, .null, .null], vm := .statics 11 }]
def classes : Array Class := #[k0, k1, k2, k3, k4, k5, k6, k7, k8, k9, k10, k11, k12, k13, k14, k15, k16, k17, k18, k19]
def interned : List (Array UInt16 × Addr) := []
def slotsUsed : Nat := 14
def theMethod : MethodId := ⟨1, 2⟩
def args0 : Array Value := #[.int 5, .int 6, .int 7, .int 8]
def aboutOver (below : List Frame) : State where
  vm := { classes := classes, interned := interned.toArray }
  heap := heap
  slotsUsed := slotsUsed
  threads := #[{ frames := .invoking theMethod args0 :: below }]
def below0 : List Frame := [.native { method := ⟨0, 0⟩, args := #[] }]
def about1 : State := aboutOver below0
def p0 : Program := .bare "" "" ""
def e0 : Env := launch0.env 0 0 0
theorem w_frames : about1.frames = Frame.invoking theMethod args0 :: below0 := rfl
set_option maxRecDepth 65536 in
theorem w_args : argsFit about1.vm theMethod args0 = true := by decide +kernel
set_option maxRecDepth 65536 in
theorem w_heap : heapFits about1 = true := by decide +kernel
set_option maxRecDepth 65536 in
theorem w_runnable : about1.curStatus? = some .runnable := by decide +kernel
set_option maxRecDepth 65536 in
theorem w_alone : about1.alone = true := by decide +kernel
set_option maxRecDepth 65536 in
theorem w_named : about1.methodNamed? x = some theMethod := by decide +kernel
set_option maxRecDepth 65536 in
theorem w_hears : about1.hears theMethod below0 = true := by decide +kernel
set_option maxRecDepth 65536 in
theorem w_ripe : about1.ripe theMethod args0 below0 = true := by decide +kernel
theorem w_running : about1.status = .running := rfl
set_option maxRecDepth 65536 in
theorem w_room : about1.hasRoom e0.platform room_1 = true :=
  launch0.hasRoom_least _ room_1 (by decide +kernel) (by decide +kernel) (by decide +kernel) (by decide +kernel) (by decide +kernel) (by decide +kernel)
theorem allAtoms_all (ts : List Jvm.Cond) (a : Array Jvm.Value) (st : Jvm.State) : (allAtoms ts).before a st = ts.all (fun c => c.before a st) := by
  induction ts with
  | nil => rfl
  | cons c t ih =>
    show (Jvm.Cond.and c (allAtoms t)).before a st = _
    rw [Jvm.Cond.before_and, ih, List.all_cons]
def words1 : List Jvm.Cond := Jvm.Cond.code x code maxLocals ret :: tables_1
/-- a 'code' word, met by the world's own term for the bytes: nothing is compared byte by byte -/
theorem code_word {y : MethodName} {bytes : ByteArray} {mx : Nat} {rt : Option FieldType} {a : Array Value} {s : State} {m : MethodId} {meth : Method} {c : Code} (h1 : s.methodNamed? y = some m) (h2 : s.vm.method? m = some meth) (h3 : meth.code = some c) (h4 : c.code = bytes)
    (h5 : (c.maxLocals == mx && c.exceptionTable.isEmpty && decide (c.maxStack ≤ mostOperands) && decide (meth.sig.returnType = rt) && !meth.locks && decide (parseMethodDescriptor y.desc = some meth.sig)) = true) : (Jvm.Cond.code y bytes mx rt).before a s = true := by
  simp only [Bool.and_eq_true, beq_iff_eq, Bool.not_eq_true', decide_eq_true_eq] at h5
  obtain ⟨⟨⟨⟨⟨g1, g2⟩, g3⟩, g4⟩, g5⟩, g6⟩ := h5
  simp [Cond.before, Cond.holds, Cond.value, h1, h2, h3, h4, g1, g2, g3, g4, g5, g6]
def isCode : Jvm.Cond → Bool
  | .code _ _ _ _ => true
  | _ => false
theorem all_split {L : List Jvm.Cond} {P : Jvm.Cond → Bool} (h1 : L.all (fun c => isCode c || P c) = true) (h2 : ∀ c ∈ L.filter isCode, P c = true) : L.all P = true := by
  refine List.all_eq_true.mpr fun c hc => ?_
  have h := List.all_eq_true.mp h1 c hc
  rcases Bool.eq_false_or_eq_true (isCode c) with hi | hi
  · exact h2 c (List.mem_filter.mpr ⟨hc, hi⟩)
  · simpa [hi] using h
set_option maxRecDepth 65536 in
theorem w_c0 : (Jvm.Cond.code x code maxLocals ret).before args0 about1 = true := code_word (m := ⟨1, 2⟩) (meth := k1m2) (c := k1c2) (by decide +kernel) rfl rfl rfl (by decide +kernel)
set_option maxRecDepth 65536 in
theorem w_c1 : (Jvm.Cond.code ({ cls := "com/example/tethercall/tethercall/ServiceAddressIsAddressPinLaw", name := "drawn", desc := "(IIII)Ljava/lang/String;" } : Jvm.MethodName) method_2_code (7 : Nat) (Option.some (Jvm.ClassFile.FieldType.object "java/lang/String"))).before args0 about1 = true := code_word (m := ⟨1, 1⟩) (meth := k1m1) (c := k1c1) (by decide +kernel) rfl rfl rfl (by decide +kernel)
set_option maxRecDepth 65536 in
theorem w_c2 : (Jvm.Cond.code ({ cls := "java/lang/String", name := "<init>", desc := "([C)V" } : Jvm.MethodName) jdk_42_method_3_code (2 : Nat) (Option.none : Option Jvm.ClassFile.FieldType)).before args0 about1 = true := code_word (m := ⟨7, 1⟩) (meth := k7m1) (c := k7c1) (by decide +kernel) rfl rfl rfl (by decide +kernel)
set_option maxRecDepth 65536 in
theorem w_c3 : (Jvm.Cond.code ({ cls := "java/lang/String", name := "<init>", desc := "([CIILjava/lang/Void;)V" } : Jvm.MethodName) jdk_42_method_149_code (6 : Nat) (Option.none : Option Jvm.ClassFile.FieldType)).before args0 about1 = true := code_word (m := ⟨7, 3⟩) (meth := k7m3) (c := k7c3) (by decide +kernel) rfl rfl rfl (by decide +kernel)
set_option maxRecDepth 65536 in
theorem w_c4 : (Jvm.Cond.code ({ cls := "java/lang/Object", name := "<init>", desc := "()V" } : Jvm.MethodName) object_method_1_code (1 : Nat) (Option.none : Option Jvm.ClassFile.FieldType)).before args0 about1 = true := code_word (m := ⟨0, 0⟩) (meth := k0m0) (c := k0c0) (by decide +kernel) rfl rfl rfl (by decide +kernel)
set_option maxRecDepth 65536 in
theorem w_c5 : (Jvm.Cond.code ({ cls := "com/example/tethercall/tethercall/ServiceAddress", name := "isAddress", desc := "(Ljava/lang/String;)Z" } : Jvm.MethodName) prog_15_method_2_code (1 : Nat) (Option.some Jvm.ClassFile.FieldType.boolean)).before args0 about1 = true := code_word (m := ⟨8, 1⟩) (meth := k8m1) (c := k8c1) (by decide +kernel) rfl rfl rfl (by decide +kernel)
set_option maxRecDepth 65536 in
theorem w_c6 : (Jvm.Cond.code ({ cls := "java/lang/String", name := "isEmpty", desc := "()Z" } : Jvm.MethodName) jdk_42_method_55_code (1 : Nat) (Option.some Jvm.ClassFile.FieldType.boolean)).before args0 about1 = true := code_word (m := ⟨7, 2⟩) (meth := k7m2) (c := k7c2) (by decide +kernel) rfl rfl rfl (by decide +kernel)
set_option maxRecDepth 65536 in
theorem w_c7 : (Jvm.Cond.code ({ cls := "java/lang/StringUTF16", name := "compress", desc := "([CII)[B" } : Jvm.MethodName) jdk_52_method_16_code (6 : Nat) (Option.some (Jvm.ClassFile.FieldType.array Jvm.ClassFile.FieldType.byte))).before args0 about1 = true := code_word (m := ⟨9, 7⟩) (meth := k9m7) (c := k9c7) (by decide +kernel) rfl rfl rfl (by decide +kernel)
set_option maxRecDepth 65536 in
theorem w_c8 : (Jvm.Cond.code ({ cls := "java/lang/StringUTF16", name := "compress", desc := "([CI[BII)I" } : Jvm.MethodName) jdk_52_method_21_code (7 : Nat) (Option.some Jvm.ClassFile.FieldType.int)).before args0 about1 = true := code_word (m := ⟨9, 8⟩) (meth := k9m8) (c := k9c8) (by decide +kernel) rfl rfl rfl (by decide +kernel)
set_option maxRecDepth 65536 in
theorem w_c9 : (Jvm.Cond.code ({ cls := "java/lang/StringUTF16", name := "coderFromArrayLen", desc := "([BI)B" } : Jvm.MethodName) jdk_52_method_15_code (2 : Nat) (Option.some Jvm.ClassFile.FieldType.byte)).before args0 about1 = true := code_word (m := ⟨9, 6⟩) (meth := k9m6) (c := k9c6) (by decide +kernel) rfl rfl rfl (by decide +kernel)
set_option maxRecDepth 65536 in
theorem w_c10 : (Jvm.Cond.code ({ cls := "java/lang/StringUTF16", name := "toBytes", desc := "([CII)[B" } : Jvm.MethodName) jdk_52_method_14_code (5 : Nat) (Option.some (Jvm.ClassFile.FieldType.array Jvm.ClassFile.FieldType.byte))).before args0 about1 = true := code_word (m := ⟨9, 5⟩) (meth := k9m5) (c := k9c5) (by decide +kernel) rfl rfl rfl (by decide +kernel)
set_option maxRecDepth 65536 in
theorem w_c11 : (Jvm.Cond.code ({ cls := "java/lang/StringUTF16", name := "newBytesFor", desc := "(I)[B" } : Jvm.MethodName) jdk_52_method_2_code (1 : Nat) (Option.some (Jvm.ClassFile.FieldType.array Jvm.ClassFile.FieldType.byte))).before args0 about1 = true := code_word (m := ⟨9, 1⟩) (meth := k9m1) (c := k9c1) (by decide +kernel) rfl rfl rfl (by decide +kernel)
set_option maxRecDepth 65536 in
theorem w_c12 : (Jvm.Cond.code ({ cls := "java/lang/StringUTF16", name := "newBytesLength", desc := "(I)I" } : Jvm.MethodName) jdk_52_method_3_code (1 : Nat) (Option.some Jvm.ClassFile.FieldType.int)).before args0 about1 = true := code_word (m := ⟨9, 2⟩) (meth := k9m2) (c := k9c2) (by decide +kernel) rfl rfl rfl (by decide +kernel)
set_option maxRecDepth 65536 in
theorem w_c13 : (Jvm.Cond.code ({ cls := "java/lang/StringUTF16", name := "putChar", desc := "([BII)V" } : Jvm.MethodName) jdk_52_method_4_code (3 : Nat) (Option.none : Option Jvm.ClassFile.FieldType)).before args0 about1 = true := code_word (m := ⟨9, 3⟩) (meth := k9m3) (c := k9c3) (by decide +kernel) rfl rfl rfl (by decide +kernel)
set_option maxRecDepth 65536 in
theorem w_c14 : (Jvm.Cond.code ({ cls := "java/lang/StringUTF16", name := "getChar", desc := "([BI)C" } : Jvm.MethodName) jdk_52_method_5_code (2 : Nat) (Option.some Jvm.ClassFile.FieldType.char)).before args0 about1 = true := code_word (m := ⟨9, 4⟩) (meth := k9m4) (c := k9c4) (by decide +kernel) rfl rfl rfl (by decide +kernel)
def codes1 : List Jvm.Cond := [Jvm.Cond.code x code maxLocals ret, Jvm.Cond.code ({ cls := "com/example/tethercall/tethercall/ServiceAddressIsAddressPinLaw", name := "drawn", desc := "(IIII)Ljava/lang/String;" } : Jvm.MethodName) method_2_code (7 : Nat) (Option.some (Jvm.ClassFile.FieldType.object "java/lang/String")), Jvm.Cond.code ({ cls := "java/lang/String", name := "<init>", desc := "([C)V" } : Jvm.MethodName) jdk_42_method_3_code (2 : Nat) (Option.none : Option Jvm.ClassFile.FieldType), Jvm.Cond.code ({ cls := "java/lang/String", name := "<init>", desc := "([CIILjava/lang/Void;)V" } : Jvm.MethodName) jdk_42_method_149_code (6 : Nat) (Option.none : Option Jvm.ClassFile.FieldType), Jvm.Cond.code ({ cls := "java/lang/Object", name := "<init>", desc := "()V" } : Jvm.MethodName) object_method_1_code (1 : Nat) (Option.none : Option Jvm.ClassFile.FieldType), Jvm.Cond.code ({ cls := "com/example/tethercall/tethercall/ServiceAddress", name := "isAddress", desc := "(Ljava/lang/String;)Z" } : Jvm.MethodName) prog_15_method_2_code (1 : Nat) (Option.some Jvm.ClassFile.FieldType.boolean), Jvm.Cond.code ({ cls := "java/lang/String", name := "isEmpty", desc := "()Z" } : Jvm.MethodName) jdk_42_method_55_code (1 : Nat) (Option.some Jvm.ClassFile.FieldType.boolean), Jvm.Cond.code ({ cls := "java/lang/StringUTF16", name := "compress", desc := "([CII)[B" } : Jvm.MethodName) jdk_52_method_16_code (6 : Nat) (Option.some (Jvm.ClassFile.FieldType.array Jvm.ClassFile.FieldType.byte)), Jvm.Cond.code ({ cls := "java/lang/StringUTF16", name := "compress", desc := "([CI[BII)I" } : Jvm.MethodName) jdk_52_method_21_code (7 : Nat) (Option.some Jvm.ClassFile.FieldType.int), Jvm.Cond.code ({ cls := "java/lang/StringUTF16", name := "coderFromArrayLen", desc := "([BI)B" } : Jvm.MethodName) jdk_52_method_15_code (2 : Nat) (Option.some Jvm.ClassFile.FieldType.byte), Jvm.Cond.code ({ cls := "java/lang/StringUTF16", name := "toBytes", desc := "([CII)[B" } : Jvm.MethodName) jdk_52_method_14_code (5 : Nat) (Option.some (Jvm.ClassFile.FieldType.array Jvm.ClassFile.FieldType.byte)), Jvm.Cond.code ({ cls := "java/lang/StringUTF16", name := "newBytesFor", desc := "(I)[B" } : Jvm.MethodName) jdk_52_method_2_code (1 : Nat) (Option.some (Jvm.ClassFile.FieldType.array Jvm.ClassFile.FieldType.byte)), Jvm.Cond.code ({ cls := "java/lang/StringUTF16", name := "newBytesLength", desc := "(I)I" } : Jvm.MethodName) jdk_52_method_3_code (1 : Nat) (Option.some Jvm.ClassFile.FieldType.int), Jvm.Cond.code ({ cls := "java/lang/StringUTF16", name := "putChar", desc := "([BII)V" } : Jvm.MethodName) jdk_52_method_4_code (3 : Nat) (Option.none : Option Jvm.ClassFile.FieldType), Jvm.Cond.code ({ cls := "java/lang/StringUTF16", name := "getChar", desc := "([BI)C" } : Jvm.MethodName) jdk_52_method_5_code (2 : Nat) (Option.some Jvm.ClassFile.FieldType.char)]
set_option maxRecDepth 65536 in
theorem codes_eq : words1.filter isCode = codes1 := rfl
theorem w_codes : ∀ c ∈ words1.filter isCode, c.before args0 about1 = true := by
  rw [codes_eq]
  intro c hc
  simp only [codes1, List.mem_cons, List.not_mem_nil, or_false] at hc
  rcases hc with rfl | rfl | rfl | rfl | rfl | rfl | rfl | rfl | rfl | rfl | rfl | rfl | rfl | rfl | rfl
  · exact w_c0
  · exact w_c1
  · exact w_c2
  · exact w_c3
  · exact w_c4
  · exact w_c5
  · exact w_c6
  · exact w_c7
  · exact w_c8
  · exact w_c9
  · exact w_c10
  · exact w_c11
  · exact w_c12
  · exact w_c13
  · exact w_c14
set_option maxRecDepth 65536 in
theorem w_t1 : (words1.take 24).all (fun c => isCode c || c.before args0 about1) = true := by decide +kernel
set_option maxRecDepth 65536 in
theorem w_t2 : ((words1.drop 24).take 24).all (fun c => isCode c || c.before args0 about1) = true := by decide +kernel
set_option maxRecDepth 65536 in
theorem w_t3 : ((words1.drop 24).drop 24).all (fun c => isCode c || c.before args0 about1) = true := by decide +kernel
theorem w_tables : (allAtoms (Jvm.Cond.code x code maxLocals ret :: tables_1)).before args0 about1 = true := by
  rw [allAtoms_all]
  show words1.all (fun c => c.before args0 about1) = true
  refine all_split ?_ w_codes
  rw [← List.take_append_drop 24 words1, List.all_append, w_t1, ← List.take_append_drop 24 (words1.drop 24), List.all_append, w_t2, w_t3]
  rfl
set_option maxRecDepth 65536 in
theorem w_rest : rest_1_c.before args0 about1 = true := by decide +kernel
set_option maxRecDepth 65536 in
theorem w_case : (Jvm.Cond.and given_1 narrow_1).before args0 about1 = true := by decide +kernel
set_option maxRecDepth 65536 in
theorem w_consts : constsHeld consts_1 about1 := Jvm.Lit.constsHeldB_iff.mp (by decide +kernel)
theorem w_applies : (headSpec (Jvm.Cond.code x code maxLocals ret :: tables_1) room_1).applies x e0.platform about1 = true :=
  (Spec.applies_iff w_frames).mpr ⟨w_running, w_runnable, w_alone, w_named, w_hears, w_ripe, w_room, w_tables⟩
theorem atStart : AtStart classFile x code maxLocals ret World_1 tables_1 room_1 Calls_1 rest_1 Pre_1 launch0 p0 e0 about1 theMethod args0 below0 :=
  ⟨lists_1, trivial, launch0.admits_env _ _ _, launch0.least_env, fairChoices_fair.cas, fairChoices_fair.clock, w_frames, w_args, w_heap, w_applies, ⟨w_consts, trivial⟩, w_rest, w_case⟩
end start1
theorem witness_1 : WitnessClaimed_1 := ⟨start1.p0, start1.e0, start1.about1, start1.theMethod, start1.args0, start1.below0, start1.atStart⟩
end Jvm.Pilot.@@N@@
