import JvmDerived
import JvmDerived.Pilot.@@N@@Statement
import JvmDerived.Pilot.@@N@@Code
set_option linter.unusedVariables false
set_option linter.unusedSimpArgs false
/- laws to paste: Road.backV, Road.lenW, Road.codOf (cut by pick.py; bodies as the Statement names them) -/
namespace Jvm.Pilot.@@N@@
namespace StrChars
open Jvm Sem ClassFile Op Lib Jvm.Stand Jvm.Free.XT Jvm.Free.ALB Jvm.Free.JM Jvm.Free
open Jvm.Lib.Cold (StaticIs)
/-- a char array whose places are chars -/
def Ch (a : Addr) (A : Cell) (U : State) : Prop := Arr .char a A U ∧ Typed .char A
theorem Ch.mv {a : Addr} {A : Cell} {U U' : State} (h : Ch a A U) (hal : U.vm.Alike U'.vm) (hh : U'.heap = U.heap) : Ch a A U' := ⟨h.1.mv hal hh, h.2⟩
theorem Ch.keep {a : Addr} {A : Cell} {U U' : State} (h : Ch a A U) (hal : U.vm.Alike U'.vm) (hk : U'.heap[a]? = some A) : Ch a A U' := ⟨h.1.keep hal hk, h.2⟩
/-- what place i of a char[]'s cell holds -/
def cv (A : Cell) (i : Nat) : Int32 := match A.slots[i]? with | some (.int x) => x | _ => 0
theorem Ch.get {a : Addr} {A : Cell} {U : State} (h : Ch a A U) {i : Nat} (hi : i < A.slots.size) : A.slots[i]? = some (.int (cv A i)) := by
  have e := Array.getElem?_eq_getElem hi
  have f := h.2 i _ e
  unfold cv; rw [e]
  generalize A.slots[i] = v at f
  cases v <;> simp [fits] at f ⊢
/-- the byte that i2b leaves of a char -/
def lo8 (x : Int32) : Int32 := x.toInt8.toInt32
theorem fits_lo8 (y : Int32) : fits .byte (.int (lo8 y)) = true := by
  have h1 := y.toInt8.le_toInt
  have h2 := y.toInt8.toInt_lt
  simp only [lo8, fits, Bool.and_eq_true, decide_eq_true_eq, Int32.le_iff_toInt_le, Int8.toInt_toInt32, show (-128 : Int32).toInt = -128 from by decide, show (127 : Int32).toInt = 127 from by decide]
  omega
/-- A' is A but that each place j of lo .. hi - 1 holds f j -/
def Laid (A A' : Cell) (lo hi : Nat) (f : Nat → Value) : Prop := A'.cls = A.cls ∧ A'.vm = A.vm ∧ A'.slots.size = A.slots.size ∧ ∀ i, A'.slots[i]? = if lo ≤ i ∧ i < hi then some (f i) else A.slots[i]?
theorem Laid.zero (A : Cell) (lo : Nat) (f : Nat → Value) : Laid A A lo (lo + 0) f := ⟨rfl, rfl, rfl, fun i => by rw [if_neg (by omega)]⟩
theorem Laid.step {A Ak : Cell} {lo k : Nat} {f : Nat → Value} {v : Value} (h : Laid A Ak lo k f) (hlo : lo ≤ k) (hk : k < Ak.slots.size) (hv : v = f k) : Laid A (Ak.setSlot k v) lo (k + 1) f := by
  refine ⟨h.1, h.2.1, by simpa [Cell.setSlot] using h.2.2.1, fun i => ?_⟩
  by_cases e : k = i
  · subst e; rw [Cell.slots_setSlot_self v hk, if_pos (by omega), hv]
  · rw [Cell.slots_setSlot_ne v e, h.2.2.2 i]
    by_cases q : lo ≤ i ∧ i < k
    · rw [if_pos q, if_pos (by omega)]
    · rw [if_neg q, if_neg (by omega)]
def U16 : String := "java/lang/StringUTF16"
namespace Cmp5
def yN : MethodName := ⟨"java/lang/StringUTF16", "compress", "([CI[BII)I"⟩
abbrev yB : ByteArray := jdk_52_method_21_code
theorem d0 : decode yB 0 = .ok (.iconst 0, 1) := by decide +kernel
theorem d1 : decode yB 1 = .ok (.istore 5, 2) := by decide +kernel
theorem d3 : decode yB 3 = .ok (.iload 5, 2) := by decide +kernel
theorem d5 : decode yB 5 = .ok (.iload 4, 2) := by decide +kernel
theorem d7 : decode yB 7 = .ok (.if_icmp (.ge) 37, 3) := by decide +kernel
theorem d10 : decode yB 10 = .ok (.aload_n 0, 1) := by decide +kernel
theorem d11 : decode yB 11 = .ok (.iload_n 1, 1) := by decide +kernel
theorem d12 : decode yB 12 = .ok (.caload, 1) := by decide +kernel
theorem d13 : decode yB 13 = .ok (.istore 6, 2) := by decide +kernel
theorem d15 : decode yB 15 = .ok (.iload 6, 2) := by decide +kernel
theorem d17 : decode yB 17 = .ok (.sipush 255, 3) := by decide +kernel
theorem d20 : decode yB 20 = .ok (.if_icmp (.le) 6, 3) := by decide +kernel
theorem d26 : decode yB 26 = .ok (.aload_n 2, 1) := by decide +kernel
theorem d27 : decode yB 27 = .ok (.iload_n 3, 1) := by decide +kernel
theorem d28 : decode yB 28 = .ok (.iload 6, 2) := by decide +kernel
theorem d30 : decode yB 30 = .ok (.i2b, 1) := by decide +kernel
theorem d31 : decode yB 31 = .ok (.bastore, 1) := by decide +kernel
theorem d32 : decode yB 32 = .ok (.iinc 1 1, 3) := by decide +kernel
theorem d35 : decode yB 35 = .ok (.iinc 3 1, 3) := by decide +kernel
theorem d38 : decode yB 38 = .ok (.iinc 5 1, 3) := by decide +kernel
theorem d41 : decode yB 41 = .ok (.goto (-38), 3) := by decide +kernel
theorem d44 : decode yB 44 = .ok (.iload 4, 2) := by decide +kernel
theorem d46 : decode yB 46 = .ok (.ireturn, 1) := by decide +kernel
def site : List Cond := []
def tab : Cond := tabOf yN yB 7 (some .int) site
def P (b : Addr) (A : Cell) (d : Addr) (B : Cell) (o q len : Nat) (args : Array Value) (s : State) : Prop := args = #[.ref b, .int (Int32.ofNat o), .ref d, .int (Int32.ofNat q), .int (Int32.ofNat len)] ∧ Ch b A s ∧ Arr .byte d B s ∧ b ≠ d ∧ o + len ≤ A.slots.size ∧ q + len ≤ B.slots.size ∧ ∀ i, i < len → ¬ 255 < cv A (o + i)
def E (b : Addr) (A : Cell) (d : Addr) (B : Cell) (o q len : Nat) (r : Option Value) (s u : State) : Prop := r = some (.int (Int32.ofNat len)) ∧ ∃ B', Put d B' s u ∧ Laid B B' q (q + len) (fun j => Value.int (lo8 (cv A (o + (j - q)))))
/-- no char of the range above 255: len; the places written hold each char's low byte -/
theorem law (l : Launch) (b : Addr) (A : Cell) (d : Addr) (B : Cell) (o q len : Nat) : Law l yN 5 5 0 0 yB 7 (some .int) site (P b A d B o q len) (E b A d B o q len) (copyLocs d q len) 0 0 := by
  refine Law.of_walk (plainFor_of_name (by decide +kernel)) (by decide +kernel) (by decide +kernel) (by decide) (fun _ _ h => by rw [h.1]; rfl) (fun _ U U' hal hh h => ⟨h.1, h.2.1.mv hal hh, h.2.2.1.mv hal hh, h.2.2.2⟩) (fun r U U' V V' h1 hal h2 h => ⟨h.1, h.2.elim fun B' q => ⟨B', q.1.mv h1 h2, q.2⟩⟩) ?_
  intro p e s m args below meth c s₁ X0 hexec hbytes hml hret hlk hnm hown hh0 W hP
  obtain ⟨rfl, hA, hB, hne, l1, l2, hp⟩ := hP
  have c1 : Steps p.tables e below (s₁.setTop (entryFrame m #[.ref b, .int (Int32.ofNat o), .ref d, .int (Int32.ofNat q), .int (Int32.ofNat len)] 7)) (s₁.setTop (mkF m 0 #[.val (.ref b), .val (.int (Int32.ofNat o)), .val (.ref d), .val (.int (Int32.ofNat q)), .val (.int (Int32.ofNat len)), .unset, .unset] [])) := entry rfl
  have hA0 := hA.1.mv X0.warmed.alike hh0
  have hB0 := hB.mv X0.warmed.alike hh0
  have a31 := hA.1.2.2.2
  have c2 : Steps p.tables e below (s₁.setTop (entryFrame m #[.ref b, .int (Int32.ofNat o), .ref d, .int (Int32.ofNat q), .int (Int32.ofNat len)] 7)) (s₁.setTop (mkF m 3 #[.val (.ref b), .val (.int (Int32.ofNat o)), .val (.ref d), .val (.int (Int32.ofNat q)), .val (.int (Int32.ofNat len)), .val (.int 0), .unset] [])) := c1.trans (by
    refine iconstV X0.here hexec rfl 0 (hb hbytes d0) (by decide) ?_
    refine XS.istore X0.here hexec rfl (hb hbytes d1) rfl rfl ?_
    exact Steps.refl _)
  have loop : ∀ (r i : Nat), i + r = len → ∀ (z : Slot), (z = .unset ∨ ∃ w, z = .val w ∧ w.category = 1) → ∀ (Tl : State) (Bk : Cell), Stand p l e { frames := 0, locals := 0, cells := 0, slots := 0 } s m #[.ref b, .int (Int32.ofNat o), .ref d, .int (Int32.ofNat q), .int (Int32.ofNat len)] below meth c Tl ([] ++ copyLocs d q i) 0 0 → Put d Bk s₁ Tl → Laid B Bk q (q + i) (fun j => Value.int (lo8 (cv A (o + (j - q))))) →
      Steps p.tables e below (s₁.setTop (entryFrame m #[.ref b, .int (Int32.ofNat o), .ref d, .int (Int32.ofNat q), .int (Int32.ofNat len)] 7)) (Tl.setTop (mkF m 3 #[.val (.ref b), .val (.int (Int32.ofNat (o + i))), .val (.ref d), .val (.int (Int32.ofNat (q + i))), .val (.int (Int32.ofNat len)), .val (.int (Int32.ofNat i)), z] [])) → ∃ (T' : State) (B' : Cell) (z' : Slot), Stand p l e { frames := 0, locals := 0, cells := 0, slots := 0 } s m #[.ref b, .int (Int32.ofNat o), .ref d, .int (Int32.ofNat q), .int (Int32.ofNat len)] below meth c T' ([] ++ copyLocs d q len) 0 0 ∧ Put d B' s₁ T' ∧ Laid B B' q (q + len) (fun j => Value.int (lo8 (cv A (o + (j - q))))) ∧
      Steps p.tables e below (s₁.setTop (entryFrame m #[.ref b, .int (Int32.ofNat o), .ref d, .int (Int32.ofNat q), .int (Int32.ofNat len)] 7)) (T'.setTop (mkF m 3 #[.val (.ref b), .val (.int (Int32.ofNat (o + len))), .val (.ref d), .val (.int (Int32.ofNat (q + len))), .val (.int (Int32.ofNat len)), .val (.int (Int32.ofNat len)), z'] [])) := by
    intro r
    induction r with
    | zero =>
      intro i hi z hz Tl Bk Xl pl fl cl
      have hil : i = len := by omega
      rw [hil] at Xl fl cl
      exact ⟨Tl, Bk, z, Xl, pl, fl, cl⟩
    | succ r ih =>
      intro i hi z hz Tl Bk Xl pl fl cl
      have all := X0.warmed.alike.symm.trans Xl.warmed.alike
      have hAl := hA0.keep all (pl.other hne hA0.1)
      have hBk := hB0.like all pl.1 fl.1 fl.2.1 fl.2.2.1
      have hlt : q + i < Bk.slots.size := by rw [fl.2.2.1]; omega
      have c3 : Steps p.tables e below (s₁.setTop (entryFrame m #[.ref b, .int (Int32.ofNat o), .ref d, .int (Int32.ofNat q), .int (Int32.ofNat len)] 7)) (Tl.setTop (mkF m 12 #[.val (.ref b), .val (.int (Int32.ofNat (o + i))), .val (.ref d), .val (.int (Int32.ofNat (q + i))), .val (.int (Int32.ofNat len)), .val (.int (Int32.ofNat i)), z] [.int (Int32.ofNat (o + i)), .ref b])) := cl.trans (by
        refine XS.iload Xl.here hexec rfl (hb hbytes d3) rfl ?_
        refine XS.iload Xl.here hexec rfl (hb hbytes d5) rfl ?_
        refine XS.icmpNo Xl.here hexec rfl (hb hbytes d7) rfl (ii_ge_f (lt32 (by omega) (by omega))) ?_
        refine XS.aloadN Xl.here hexec rfl (hb hbytes d10) rfl rfl ?_
        refine XS.iloadN Xl.here hexec rfl (hb hbytes d11) rfl ?_
        exact Steps.refl _)
      have c4 : Steps p.tables e below (s₁.setTop (entryFrame m #[.ref b, .int (Int32.ofNat o), .ref d, .int (Int32.ofNat q), .int (Int32.ofNat len)] 7)) (Tl.setTop (mkF m 13 #[.val (.ref b), .val (.int (Int32.ofNat (o + i))), .val (.ref d), .val (.int (Int32.ofNat (q + i))), .val (.int (Int32.ofNat len)), .val (.int (Int32.ofNat i)), z] [.int (cv A (o + i))])) := c3.trans (by
        refine Xl.aget hexec hAl rfl (hA.get (i := o + i) (by omega)) rfl rfl (hb hbytes d12) ?_
        exact Steps.refl _)
      have c5 : Steps p.tables e below (s₁.setTop (entryFrame m #[.ref b, .int (Int32.ofNat o), .ref d, .int (Int32.ofNat q), .int (Int32.ofNat len)] 7)) (Tl.setTop (mkF m 15 #[.val (.ref b), .val (.int (Int32.ofNat (o + i))), .val (.ref d), .val (.int (Int32.ofNat (q + i))), .val (.int (Int32.ofNat len)), .val (.int (Int32.ofNat i)), .val (.int (cv A (o + i)))] [])) := c4.trans (by
        refine XS.istoreS Xl.here hexec rfl (hb hbytes d13) rfl rfl hz ?_
        exact Steps.refl _)
      have c6 : Steps p.tables e below (s₁.setTop (entryFrame m #[.ref b, .int (Int32.ofNat o), .ref d, .int (Int32.ofNat q), .int (Int32.ofNat len)] 7)) (Tl.setTop (mkF m 31 #[.val (.ref b), .val (.int (Int32.ofNat (o + i))), .val (.ref d), .val (.int (Int32.ofNat (q + i))), .val (.int (Int32.ofNat len)), .val (.int (Int32.ofNat i)), .val (.int (cv A (o + i)))] [.int (lo8 (cv A (o + i))), .int (Int32.ofNat (q + i)), .ref d])) := c5.trans (by
        refine XS.iload Xl.here hexec rfl (hb hbytes d15) rfl ?_
        refine sipushV Xl.here hexec rfl 255 (hb hbytes d17) (by decide) ?_
        refine XS.icmpYes Xl.here hexec rfl (pc0 := 20) rfl (hb hbytes d20) rfl (ii_le_t (hp i (by omega))) (by decide) rfl ?_
        refine XS.aloadN Xl.here hexec rfl (hb hbytes d26) rfl rfl ?_
        refine XS.iloadN Xl.here hexec rfl (hb hbytes d27) rfl ?_
        refine XS.iload Xl.here hexec rfl (hb hbytes d28) rfl ?_
        refine i2b Xl.here hexec rfl (hb hbytes d30) rfl ?_
        exact Steps.refl _)
      obtain ⟨T7, X7, p7, st7⟩ := Xl.aput hexec hBk rfl hlt rfl (fits_lo8 (cv A (o + i))) (g := (mkF m 31 #[.val (.ref b), .val (.int (Int32.ofNat (o + i))), .val (.ref d), .val (.int (Int32.ofNat (q + i))), .val (.int (Int32.ofNat len)), .val (.int (Int32.ofNat i)), .val (.int (cv A (o + i)))] [.int (lo8 (cv A (o + i))), .int (Int32.ofNat (q + i)), .ref d])) rfl (rest := []) rfl (hb hbytes d31)
      have c8 : Steps p.tables e below (s₁.setTop (entryFrame m #[.ref b, .int (Int32.ofNat o), .ref d, .int (Int32.ofNat q), .int (Int32.ofNat len)] 7)) (T7.setTop (mkF m 32 #[.val (.ref b), .val (.int (Int32.ofNat (o + i))), .val (.ref d), .val (.int (Int32.ofNat (q + i))), .val (.int (Int32.ofNat len)), .val (.int (Int32.ofNat i)), .val (.int (cv A (o + i)))] [])) := c6.trans (st7 _ (Steps.refl _))
      have c9 : Steps p.tables e below (s₁.setTop (entryFrame m #[.ref b, .int (Int32.ofNat o), .ref d, .int (Int32.ofNat q), .int (Int32.ofNat len)] 7)) (T7.setTop (mkF m 3 #[.val (.ref b), .val (.int (Int32.ofNat (o + i) + 1)), .val (.ref d), .val (.int (Int32.ofNat (q + i) + 1)), .val (.int (Int32.ofNat len)), .val (.int (Int32.ofNat i + 1)), .val (.int (cv A (o + i)))] [])) := c8.trans (by
        refine iincV X7.here hexec rfl 1 (hb hbytes d32) (by decide) rfl rfl ?_
        refine iincV X7.here hexec rfl 1 (hb hbytes d35) (by decide) rfl rfl ?_
        refine iincV X7.here hexec rfl 1 (hb hbytes d38) (by decide) rfl rfl ?_
        refine XS.goto X7.here hexec rfl (pc0 := 41) rfl (hb hbytes d41) (by decide) rfl ?_
        exact Steps.refl _)
      have c10 : Steps p.tables e below (s₁.setTop (entryFrame m #[.ref b, .int (Int32.ofNat o), .ref d, .int (Int32.ofNat q), .int (Int32.ofNat len)] 7)) (T7.setTop (mkF m 3 #[.val (.ref b), .val (.int (Int32.ofNat (o + (i + 1)))), .val (.ref d), .val (.int (Int32.ofNat (q + (i + 1)))), .val (.int (Int32.ofNat len)), .val (.int (Int32.ofNat (i + 1))), .val (.int (cv A (o + i)))] [])) := by
        have := c9
        rw [succ32, succ32, succ32] at this
        exact this
      exact ih (i + 1) (by omega) _ (Or.inr ⟨_, rfl, rfl⟩) T7 _ (by rw [copyLocs_step, ← List.append_assoc]; exact X7) (pl.trans p7) (fl.step (by omega) hlt (by simp)) c10
  obtain ⟨T9, B9, z9, X9, p9, f9, g9⟩ := loop len 0 (by omega) .unset (Or.inl rfl) s₁ B (by simpa [copyLocs] using X0) ⟨hB0.1, fun _ _ => rfl, rfl⟩ (Laid.zero _ _ _) c2
  have c11 : Steps p.tables e below (s₁.setTop (entryFrame m #[.ref b, .int (Int32.ofNat o), .ref d, .int (Int32.ofNat q), .int (Int32.ofNat len)] 7)) (T9.setTop (mkF m 46 #[.val (.ref b), .val (.int (Int32.ofNat (o + len))), .val (.ref d), .val (.int (Int32.ofNat (q + len))), .val (.int (Int32.ofNat len)), .val (.int (Int32.ofNat len)), z9] [.int (Int32.ofNat len)])) := g9.trans (by
    refine XS.iload X9.here hexec rfl (hb hbytes d3) rfl ?_
    refine XS.iload X9.here hexec rfl (hb hbytes d5) rfl ?_
    refine XS.icmpYes X9.here hexec rfl (pc0 := 7) rfl (hb hbytes d7) rfl (ii_ge_t (nlt32 (by omega) (Nat.le_refl _))) (by decide) rfl ?_
    refine XS.iload X9.here hexec rfl (hb hbytes d44) rfl ?_
    exact Steps.refl _)
  exact ⟨T9, some (.int (Int32.ofNat len)), _, _, _, X9, by simp, rfl, rfl, (fun h => by cases h), ⟨rfl, B9, p9.from hh0, f9⟩, fun fs hl => c11.trans (X9.ireturnOut hexec hret rfl (Or.inl rfl) (hb hbytes d46) hl)⟩
end Cmp5
namespace Cmp3
def yN : MethodName := ⟨"java/lang/StringUTF16", "compress", "([CII)[B"⟩
abbrev yB : ByteArray := jdk_52_method_16_code
theorem d0 : decode yB 0 = .ok (.iload_n 2, 1) := by decide +kernel
theorem d1 : decode yB 1 = .ok (.newarray .byte, 2) := by decide +kernel
theorem d3 : decode yB 3 = .ok (.astore_n 3, 1) := by decide +kernel
theorem d4 : decode yB 4 = .ok (.aload_n 0, 1) := by decide +kernel
theorem d5 : decode yB 5 = .ok (.iload_n 1, 1) := by decide +kernel
theorem d6 : decode yB 6 = .ok (.aload_n 3, 1) := by decide +kernel
theorem d7 : decode yB 7 = .ok (.iconst 0, 1) := by decide +kernel
theorem d8 : decode yB 8 = .ok (.iload_n 2, 1) := by decide +kernel
theorem d9 : decode yB 9 = .ok (.invokestatic 115, 3) := by decide +kernel
theorem d12 : decode yB 12 = .ok (.istore 4, 2) := by decide +kernel
theorem d14 : decode yB 14 = .ok (.iload 4, 2) := by decide +kernel
theorem d16 : decode yB 16 = .ok (.iload_n 2, 1) := by decide +kernel
theorem d17 : decode yB 17 = .ok (.if_icmp (.eq) 40, 3) := by decide +kernel
theorem d57 : decode yB 57 = .ok (.aload_n 3, 1) := by decide +kernel
theorem d58 : decode yB 58 = .ok (.areturn, 1) := by decide +kernel
def site : List Cond := [.arrayClass .byte, Cmp5.tab] ++ staticW U16 115 Cmp5.yN
def tab : Cond := tabOf yN yB 6 (some (.array .byte)) site
def P (b : Addr) (A : Cell) (o len : Nat) (args : Array Value) (s : State) : Prop := args = #[.ref b, .int (Int32.ofNat o), .int (Int32.ofNat len)] ∧ Ch b A s ∧ o + len ≤ A.slots.size ∧ len ≤ 536870912 ∧ ∀ i, i < len → ¬ 255 < cv A (o + i)
def E (b : Addr) (A : Cell) (o len : Nat) (r : Option Value) (s u : State) : Prop := NewArr .byte "[B" len (fun j => .int (lo8 (cv A (o + j)))) r s u ∧ u.heap.size = s.heap.size + 1
/-- no char of the range above 255: a new byte[] of their low bytes -/
theorem law (l : Launch) (b : Addr) (A : Cell) (o len : Nat) : Law l yN 3 3 1 18 yB 6 (some (.array .byte)) site (P b A o len) (E b A o len) [] 1 len := by
  refine Law.of_walk (plainFor_of_name (by decide +kernel)) (by decide +kernel) (by decide +kernel) (by decide) (fun _ _ h => by rw [h.1]; rfl) (fun _ U U' hal hh h => ⟨h.1, h.2.1.mv hal hh, h.2.2⟩) (fun r U U' V V' h1 hal h2 h => ⟨NewArr.mv r U U' V V' h1 hal h2 h.1, by rw [h1, h2]; exact h.2⟩) ?_
  intro p e s m args below meth c s₁ X0 hexec hbytes hml hret hlk hnm hown hh0 W hP
  obtain ⟨rfl, hA, l1, l2, hp⟩ := hP
  have a31 := hA.1.2.2.2
  have c1 : Steps p.tables e below (s₁.setTop (entryFrame m #[.ref b, .int (Int32.ofNat o), .int (Int32.ofNat len)] 6)) (s₁.setTop (mkF m 0 #[.val (.ref b), .val (.int (Int32.ofNat o)), .val (.int (Int32.ofNat len)), .unset, .unset, .unset] [])) := entry rfl
  have c2 : Steps p.tables e below (s₁.setTop (entryFrame m #[.ref b, .int (Int32.ofNat o), .int (Int32.ofNat len)] 6)) (s₁.setTop (mkF m 1 #[.val (.ref b), .val (.int (Int32.ofNat o)), .val (.int (Int32.ofNat len)), .unset, .unset, .unset] [.int (Int32.ofNat len)])) := c1.trans (by
    refine XS.iloadN X0.here hexec rfl (hb hbytes d0) rfl ?_
    exact Steps.refl _)
  obtain ⟨T3, B3, X3, ba3, bs3, bv3, bh3, bf3, st3⟩ := X0.anew hexec (atype := .byte) (wk W (.arrayClass .byte)) rfl (by show len * 1 ≤ _; omega) (by omega) (g := (mkF m 1 #[.val (.ref b), .val (.int (Int32.ofNat o)), .val (.int (Int32.ofNat len)), .unset, .unset, .unset] [.int (Int32.ofNat len)])) rfl (hb hbytes d1) (rest := []) rfl (Nat.le_refl _) (by show 0 + len ≤ len; omega)
  rw [hh0] at ba3 st3
  have kp3 : XT.Kept s T3 := (XT.Kept.of_eq hh0).push bh3
  have hA3 := hA.keep X3.warmed.alike (kp3 _ _ hA.1.1)
  have hne : b ≠ s.heap.size := hA.1.ne
  have c4 : Steps p.tables e below (s₁.setTop (entryFrame m #[.ref b, .int (Int32.ofNat o), .int (Int32.ofNat len)] 6)) (T3.setTop (mkF m 3 #[.val (.ref b), .val (.int (Int32.ofNat o)), .val (.int (Int32.ofNat len)), .unset, .unset, .unset] [.ref s.heap.size])) := c2.trans (st3 _ (Steps.refl _))
  have c5 : Steps p.tables e below (s₁.setTop (entryFrame m #[.ref b, .int (Int32.ofNat o), .int (Int32.ofNat len)] 6)) (T3.setTop (mkF m 9 #[.val (.ref b), .val (.int (Int32.ofNat o)), .val (.int (Int32.ofNat len)), .val (.ref s.heap.size), .unset, .unset] [.int (Int32.ofNat len), .int 0, .ref s.heap.size, .int (Int32.ofNat o), .ref b])) := c4.trans (by
    refine XS.astoreN X3.here hexec rfl (hb hbytes d3) rfl rfl rfl ?_
    refine XS.aloadN X3.here hexec rfl (hb hbytes d4) rfl rfl ?_
    refine XS.iloadN X3.here hexec rfl (hb hbytes d5) rfl ?_
    refine XS.aloadN X3.here hexec rfl (hb hbytes d6) rfl rfl ?_
    refine iconstV X3.here hexec rfl 0 (hb hbytes d7) (by decide) ?_
    refine XS.iloadN X3.here hexec rfl (hb hbytes d8) rfl ?_
    exact Steps.refl _)
  obtain ⟨v6, T6, X6, E6, g6⟩ := X3.callS hexec (Cmp5.law l b A s.heap.size B3 o 0 len) hown (wks W (staticW U16 115 Cmp5.yN)) (wk W Cmp5.tab) (W := 0) (Nat.le_of_ble_eq_true rfl) (Nat.le_of_ble_eq_true rfl) (Nat.le_refl _) (by show 0 + len + 0 ≤ len; omega) (g := (mkF m 9 #[.val (.ref b), .val (.int (Int32.ofNat o)), .val (.int (Int32.ofNat len)), .val (.ref s.heap.size), .unset, .unset] [.int (Int32.ofNat len), .int (Int32.ofNat 0), .ref s.heap.size, .int (Int32.ofNat o), .ref b])) rfl (by rw [hml]; rfl) c5 (argsL := [.ref b, .int (Int32.ofNat o), .ref s.heap.size, .int (Int32.ofNat 0), .int (Int32.ofNat len)]) (rest := []) rfl rfl (by show 2 * 0 + 0 ≤ _; decide) (hb hbytes d9) (⟨rfl, hA3, ba3, hne, l1, by rw [bs3]; simp, hp⟩)
  obtain ⟨rfl, B6, p6, f6⟩ := E6
  have c7 : Steps p.tables e below (s₁.setTop (entryFrame m #[.ref b, .int (Int32.ofNat o), .int (Int32.ofNat len)] 6)) (T6.setTop (mkF m 12 #[.val (.ref b), .val (.int (Int32.ofNat o)), .val (.int (Int32.ofNat len)), .val (.ref s.heap.size), .unset, .unset] [.int (Int32.ofNat len)])) := g6
  have c8 : Steps p.tables e below (s₁.setTop (entryFrame m #[.ref b, .int (Int32.ofNat o), .int (Int32.ofNat len)] 6)) (T6.setTop (mkF m 58 #[.val (.ref b), .val (.int (Int32.ofNat o)), .val (.int (Int32.ofNat len)), .val (.ref s.heap.size), .val (.int (Int32.ofNat len)), .unset] [.ref s.heap.size])) := c7.trans (by
    refine XS.istore X6.here hexec rfl (hb hbytes d12) rfl rfl ?_
    refine XS.iload X6.here hexec rfl (hb hbytes d14) rfl ?_
    refine XS.iloadN X6.here hexec rfl (hb hbytes d16) rfl ?_
    refine XS.icmpYes X6.here hexec rfl (pc0 := 17) rfl (hb hbytes d17) rfl (ii_eq_t rfl) (by decide) rfl ?_
    refine XS.aloadN X6.here hexec rfl (hb hbytes d57) rfl rfl ?_
    exact Steps.refl _)
  have X8 := X6.wide (L' := []) (cells' := 1) (slots' := len) (fun x hx hlt => by
    simp only [List.nil_append, copyLocs, List.mem_map, List.mem_range] at hx
    obtain ⟨i, -, rfl⟩ := hx
    exact absurd hlt (Nat.lt_irrefl _)) (Nat.le_refl _) (by omega)
  exact ⟨T6, some (.ref s.heap.size), _, _, _, X8, rfl, rfl, rfl, (fun h => by cases h), ⟨⟨rfl, B6, ba3.like (X3.warmed.alike.symm.trans X6.warmed.alike) p6.1 f6.1 f6.2.1 f6.2.2.1, f6.2.1.trans bv3, by rw [X6.warmed.alike.findClass, f6.1]; exact bf3, by rw [f6.2.2.1, bs3]; simp, fun j hj => by rw [f6.2.2.2 j, if_pos (by omega)]; rfl, kp3.put p6 (Nat.le_refl _)⟩, by rw [p6.2.2, bh3, hh0]; simp⟩, fun fs hl => c8.trans (X8.areturnOut hexec rfl hret rfl (hb hbytes d58) hl)⟩
end Cmp3
namespace CodL
def yN : MethodName := ⟨"java/lang/StringUTF16", "coderFromArrayLen", "([BI)B"⟩
abbrev yB : ByteArray := jdk_52_method_15_code
theorem d0 : decode yB 0 = .ok (.iload_n 1, 1) := by decide +kernel
theorem d1 : decode yB 1 = .ok (.aload_n 0, 1) := by decide +kernel
theorem d2 : decode yB 2 = .ok (.arraylength, 1) := by decide +kernel
theorem d3 : decode yB 3 = .ok (.isub, 1) := by decide +kernel
theorem d4 : decode yB 4 = .ok (.bipush 31, 2) := by decide +kernel
theorem d6 : decode yB 6 = .ok (.iushr, 1) := by decide +kernel
theorem d7 : decode yB 7 = .ok (.i2b, 1) := by decide +kernel
theorem d8 : decode yB 8 = .ok (.ireturn, 1) := by decide +kernel
def site : List Cond := []
def tab : Cond := tabOf yN yB 2 (some .byte) site
def P (d : Addr) (B : Cell) (args : Array Value) (s : State) : Prop := args = #[.ref d, .int (Int32.ofNat B.slots.size)] ∧ Arr .byte d B s
def E (r : Option Value) (s u : State) : Prop := XT.PureE (some (.int 0)) r s u
/-- an array as long as the number of chars: LATIN1 -/
theorem law (l : Launch) (d : Addr) (B : Cell) : Law l yN 2 2 0 0 yB 2 (some .byte) site (P d B) E [] 0 0 := by
  refine Law.of_walk (plainFor_of_name (by decide +kernel)) (by decide +kernel) (by decide +kernel) (by decide) (fun _ _ h => by rw [h.1]; rfl) (fun _ U U' hal hh h => ⟨h.1, h.2.mv hal hh⟩) (fun r U U' V V' h1 hal h2 h => XT.PureE.mv r U U' V V' h1 hal h2 h) ?_
  intro p e s m args below meth c s₁ X0 hexec hbytes hml hret hlk hnm hown hh0 W hP
  obtain ⟨rfl, hB⟩ := hP
  have hB0 := hB.mv X0.warmed.alike hh0
  have c1 : Steps p.tables e below (s₁.setTop (entryFrame m #[.ref d, .int (Int32.ofNat B.slots.size)] 2)) (s₁.setTop (mkF m 0 #[.val (.ref d), .val (.int (Int32.ofNat B.slots.size))] [])) := entry rfl
  have c2 : Steps p.tables e below (s₁.setTop (entryFrame m #[.ref d, .int (Int32.ofNat B.slots.size)] 2)) (s₁.setTop (mkF m 2 #[.val (.ref d), .val (.int (Int32.ofNat B.slots.size))] [.ref d, .int (Int32.ofNat B.slots.size)])) := c1.trans (by
    refine XS.iloadN X0.here hexec rfl (hb hbytes d0) rfl ?_
    refine XS.aloadN X0.here hexec rfl (hb hbytes d1) rfl rfl ?_
    exact Steps.refl _)
  have c3 : Steps p.tables e below (s₁.setTop (entryFrame m #[.ref d, .int (Int32.ofNat B.slots.size)] 2)) (s₁.setTop (mkF m 8 #[.val (.ref d), .val (.int (Int32.ofNat B.slots.size))] [.int (lo8 (ushr (Int32.ofNat B.slots.size - Int32.ofNat B.slots.size) 31))])) := c2.trans (by
    refine X0.alen hexec hB0 rfl rfl (hb hbytes d2) ?_
    refine XS.isub X0.here hexec rfl (hb hbytes d3) rfl ?_
    refine bipushV X0.here hexec rfl 31 (hb hbytes d4) (by decide) ?_
    refine iushr X0.here hexec rfl (hb hbytes d6) rfl ?_
    refine i2b X0.here hexec rfl (hb hbytes d7) rfl ?_
    exact Steps.refl _)
  have e0 : lo8 (ushr (Int32.ofNat B.slots.size - Int32.ofNat B.slots.size) 31) = 0 := by rw [Int32.sub_self]; decide
  rw [e0] at c3
  exact ⟨s₁, some (.int 0), _, _, _, X0, rfl, rfl, rfl, (fun h => by cases h), ⟨rfl, hh0⟩, fun fs hl => c3.trans (X0.ireturnOut hexec hret rfl (Or.inr (Or.inr (Or.inl rfl))) (hb hbytes d8) hl)⟩
end CodL
/-- the String at a is Latin-1 over a new byte[] (the heap's one new cell): the low bytes of the len chars of A from o on; every cell but a is kept -/
def Got (a : Addr) (D : Cell) (fV fC : Field) (A : Cell) (o len : Nat) (r : Option Value) (s u : State) : Prop := r = none ∧ ∃ D' V : Cell, Blank "java/lang/String" a D' u ∧ Same D D' [fV.slot, fC.slot] ∧ D'.slots[fV.slot]? = some (.ref s.heap.size) ∧ D'.slots[fC.slot]? = some (.int 0) ∧ Arr .byte s.heap.size V u ∧ V.vm = .none ∧ u.vm.findClass "[B" = some V.cls ∧ V.slots.size = len ∧ (∀ j, j < len → V.slots[j]? = some (.int (lo8 (cv A (o + j))))) ∧ (∀ (y : Addr) (c : Cell), y ≠ a → s.heap[y]? = some c → u.heap[y]? = some c) ∧ u.heap.size = s.heap.size + 1
theorem Got.mv {a : Addr} {D A : Cell} {fV fC : Field} {o len : Nat} : ∀ r (U U' V V' : State), U'.heap = U.heap → V.vm.Alike V'.vm → V'.heap = V.heap → Got a D fV fC A o len r U V → Got a D fV fC A o len r U' V' :=
  fun r U U' V V' h1 hal h2 ⟨e0, D', X, a1, a2, a3, a4, a5, a6, a7, a8, a9, a10, a11⟩ => ⟨e0, D', X, a1.mv hal h2, a2, by rw [h1]; exact a3, a4, by rw [h1]; exact a5.mv hal h2, a6, by rw [hal.findClass]; exact a7, a8, a9, by rw [h1, h2]; exact a10, by rw [h1, h2]; exact a11⟩
namespace New4
def yN : MethodName := ⟨"java/lang/String", "<init>", "([CIILjava/lang/Void;)V"⟩
abbrev yB : ByteArray := jdk_42_method_149_code
theorem d0 : decode yB 0 = .ok (.aload_n 0, 1) := by decide +kernel
theorem d1 : decode yB 1 = .ok (.invokespecial 1, 3) := by decide +kernel
theorem d4 : decode yB 4 = .ok (.iload_n 3, 1) := by decide +kernel
theorem d5 : decode yB 5 = .ok (.ifCond (.ne) 22, 3) := by decide +kernel
theorem d27 : decode yB 27 = .ok (.getstatic 38, 3) := by decide +kernel
theorem d30 : decode yB 30 = .ok (.ifCond (.eq) 28, 3) := by decide +kernel
theorem d33 : decode yB 33 = .ok (.aload_n 1, 1) := by decide +kernel
theorem d34 : decode yB 34 = .ok (.iload_n 2, 1) := by decide +kernel
theorem d35 : decode yB 35 = .ok (.iload_n 3, 1) := by decide +kernel
theorem d36 : decode yB 36 = .ok (.invokestatic 177, 3) := by decide +kernel
theorem d39 : decode yB 39 = .ok (.astore 5, 2) := by decide +kernel
theorem d41 : decode yB 41 = .ok (.aload_n 0, 1) := by decide +kernel
theorem d42 : decode yB 42 = .ok (.aload 5, 2) := by decide +kernel
theorem d44 : decode yB 44 = .ok (.iload_n 3, 1) := by decide +kernel
theorem d45 : decode yB 45 = .ok (.invokestatic 47, 3) := by decide +kernel
theorem d48 : decode yB 48 = .ok (.putfield 15, 3) := by decide +kernel
theorem d51 : decode yB 51 = .ok (.aload_n 0, 1) := by decide +kernel
theorem d52 : decode yB 52 = .ok (.aload 5, 2) := by decide +kernel
theorem d54 : decode yB 54 = .ok (.putfield 9, 3) := by decide +kernel
theorem d57 : decode yB 57 = .ok (.return_, 1) := by decide +kernel
def site : List Cond := [.fieldLink "java/lang/String" 38 "java/lang/String" "COMPACT_STRINGS" "Z", Cmp3.tab, CodL.tab, .laysFinal "java/lang/String" "java/lang/String" "value" "[B", .fieldLink "java/lang/String" 9 "java/lang/String" "value" "[B", .laysFinal "java/lang/String" "java/lang/String" "coder" "B", .fieldLink "java/lang/String" 15 "java/lang/String" "coder" "B"] ++ objW "java/lang/String" 1 ++ staticW "java/lang/String" 177 Cmp3.yN ++ staticW "java/lang/String" 47 CodL.yN
def tab : Cond := tabOf yN yB 6 none site
def P (a : Addr) (D : Cell) (fV fC : Field) (b : Addr) (A : Cell) (z : Int32) (o len : Nat) (args : Array Value) (s : State) : Prop := args = #[.ref a, .ref b, .int (Int32.ofNat o), .int (Int32.ofNat len), .null] ∧ Blank "java/lang/String" a D s ∧ Found "java/lang/String" "value" "[B" fV s ∧ Found "java/lang/String" "coder" "B" fC s ∧ Ch b A s ∧ StaticIs s "java/lang/String" "COMPACT_STRINGS" "Z" (.int z) ∧ ¬ z = 0 ∧ 0 < len ∧ o + len ≤ A.slots.size ∧ len ≤ 536870912 ∧ ∀ i, i < len → ¬ 255 < cv A (o + i)
def E (a : Addr) (D : Cell) (fV fC : Field) (A : Cell) (o len : Nat) (r : Option Value) (s u : State) : Prop := Got a D fV fC A o len r s u
/-- len > 0, no char of the range above 255: a Latin-1 String of their low bytes -/
theorem law (l : Launch) (a : Addr) (D : Cell) (fV fC : Field) (b : Addr) (A : Cell) (z : Int32) (o len : Nat) : Law l yN 5 4 2 35 yB 6 none site (P a D fV fC b A z o len) (E a D fV fC A o len) [⟨a, fC.slot⟩, ⟨a, fV.slot⟩] 1 len := by
  refine Law.of_walk (plainFor_of_name (by decide +kernel)) (by decide +kernel) (by decide +kernel) (by decide) (fun _ _ h => by rw [h.1]; rfl) (fun _ U U' hal hh h => ⟨h.1, h.2.1.mv hal hh, h.2.2.1.al hal, h.2.2.2.1.al hal, h.2.2.2.2.1.mv hal hh, h.2.2.2.2.2.1.there hal hh, h.2.2.2.2.2.2⟩) (fun r U U' V V' h1 hal h2 h => Got.mv r U U' V V' h1 hal h2 h) ?_
  intro p e s m args below meth c s₁ X0 hexec hbytes hml hret hlk hnm hown hh0 W hP
  obtain ⟨rfl, hB, f1, f2, hA, s1, hz, l0, l1, l2, hp⟩ := hP
  have a31 := hA.1.2.2.2
  have c1 : Steps p.tables e below (s₁.setTop (entryFrame m #[.ref a, .ref b, .int (Int32.ofNat o), .int (Int32.ofNat len), .null] 6)) (s₁.setTop (mkF m 0 #[.val (.ref a), .val (.ref b), .val (.int (Int32.ofNat o)), .val (.int (Int32.ofNat len)), .val .null, .unset] [])) := entry rfl
  have c2 : Steps p.tables e below (s₁.setTop (entryFrame m #[.ref a, .ref b, .int (Int32.ofNat o), .int (Int32.ofNat len), .null] 6)) (s₁.setTop (mkF m 1 #[.val (.ref a), .val (.ref b), .val (.int (Int32.ofNat o)), .val (.int (Int32.ofNat len)), .val .null, .unset] [.ref a])) := c1.trans (by
    refine XS.aloadN X0.here hexec rfl (hb hbytes d0) rfl rfl ?_
    exact Steps.refl _)
  obtain ⟨T3, X3, q3, st3⟩ := X0.oinit hexec hown (wks W (objW "java/lang/String" 1)) (g := (mkF m 1 #[.val (.ref a), .val (.ref b), .val (.int (Int32.ofNat o)), .val (.int (Int32.ofNat len)), .val .null, .unset] [.ref a])) rfl (by rw [hml]; rfl) (rest := []) rfl (hb hbytes d1) (W := 0) (by show 2 * 0 + 0 ≤ _; decide) (Nat.le_of_ble_eq_true rfl) (Nat.le_of_ble_eq_true rfl)
  have hh3 := q3.trans hh0
  have c4 : Steps p.tables e below (s₁.setTop (entryFrame m #[.ref a, .ref b, .int (Int32.ofNat o), .int (Int32.ofNat len), .null] 6)) (T3.setTop (mkF m 27 #[.val (.ref a), .val (.ref b), .val (.int (Int32.ofNat o)), .val (.int (Int32.ofNat len)), .val .null, .unset] [])) := (c2.trans (st3 _ (Steps.refl _))).trans (by
    refine XS.iloadN X3.here hexec rfl (hb hbytes d4) rfl ?_
    refine XS.ifYes X3.here hexec rfl (pc0 := 5) rfl (hb hbytes d5) rfl (i0_ne_t (nz32 (by omega) l0)) (by decide) rfl ?_
    exact Steps.refl _)
  obtain ⟨T5, X5, q5, st5⟩ := X3.sget hexec hown (wk W (.fieldLink "java/lang/String" 38 "java/lang/String" "COMPACT_STRINGS" "Z")) s1 (fun _ _ h => by rw [hh3]; exact h) (g := (mkF m 27 #[.val (.ref a), .val (.ref b), .val (.int (Int32.ofNat o)), .val (.int (Int32.ofNat len)), .val .null, .unset] [])) rfl (hb hbytes d27)
  have hh5 := q5.trans hh3
  have c6 : Steps p.tables e below (s₁.setTop (entryFrame m #[.ref a, .ref b, .int (Int32.ofNat o), .int (Int32.ofNat len), .null] 6)) (T5.setTop (mkF m 30 #[.val (.ref a), .val (.ref b), .val (.int (Int32.ofNat o)), .val (.int (Int32.ofNat len)), .val .null, .unset] [.int z])) := c4.trans (st5 _ (Steps.refl _))
  have c7 : Steps p.tables e below (s₁.setTop (entryFrame m #[.ref a, .ref b, .int (Int32.ofNat o), .int (Int32.ofNat len), .null] 6)) (T5.setTop (mkF m 36 #[.val (.ref a), .val (.ref b), .val (.int (Int32.ofNat o)), .val (.int (Int32.ofNat len)), .val .null, .unset] [.int (Int32.ofNat len), .int (Int32.ofNat o), .ref b])) := c6.trans (by
    refine XS.ifNo X5.here hexec rfl (hb hbytes d30) rfl (i0_eq_f hz) ?_
    refine XS.aloadN X5.here hexec rfl (hb hbytes d33) rfl rfl ?_
    refine XS.iloadN X5.here hexec rfl (hb hbytes d34) rfl ?_
    refine XS.iloadN X5.here hexec rfl (hb hbytes d35) rfl ?_
    exact Steps.refl _)
  obtain ⟨v8, T8, X8, E8, g8⟩ := X5.callS hexec (Cmp3.law l b A o len) hown (wks W (staticW "java/lang/String" 177 Cmp3.yN)) (wk W Cmp3.tab) (W := 0) (Nat.le_of_ble_eq_true rfl) (Nat.le_of_ble_eq_true rfl) (Nat.le_refl _) (by show 0 + len ≤ len; omega) (g := (mkF m 36 #[.val (.ref a), .val (.ref b), .val (.int (Int32.ofNat o)), .val (.int (Int32.ofNat len)), .val .null, .unset] [.int (Int32.ofNat len), .int (Int32.ofNat o), .ref b])) rfl (by rw [hml]; rfl) c7 (argsL := [.ref b, .int (Int32.ofNat o), .int (Int32.ofNat len)]) (rest := []) rfl rfl (by show 2 * 0 + 0 ≤ _; decide) (hb hbytes d36) (⟨rfl, hA.mv X5.warmed.alike hh5, l1, l2, hp⟩)
  obtain ⟨e8, z8⟩ := E8
  obtain ⟨rfl, N, n1, n2, n3, n4, n5, n6⟩ := NewArr.mv _ T5 s _ _ hh5.symm (Vm.Alike.refl _) rfl e8
  rw [hh5] at z8
  have hB1 := hB.keep X8.warmed.alike (n6 _ _ hB.1)
  have hne : s.heap.size ≠ a := (Nat.ne_of_lt (Array.getElem?_eq_some_iff.mp hB.1).1).symm
  have c9 : Steps p.tables e below (s₁.setTop (entryFrame m #[.ref a, .ref b, .int (Int32.ofNat o), .int (Int32.ofNat len), .null] 6)) (T8.setTop (mkF m 39 #[.val (.ref a), .val (.ref b), .val (.int (Int32.ofNat o)), .val (.int (Int32.ofNat len)), .val .null, .unset] [.ref s.heap.size])) := g8
  have c10 : Steps p.tables e below (s₁.setTop (entryFrame m #[.ref a, .ref b, .int (Int32.ofNat o), .int (Int32.ofNat len), .null] 6)) (T8.setTop (mkF m 45 #[.val (.ref a), .val (.ref b), .val (.int (Int32.ofNat o)), .val (.int (Int32.ofNat len)), .val .null, .val (.ref s.heap.size)] [.int (Int32.ofNat N.slots.size), .ref s.heap.size, .ref a])) := by
    have hc : Steps p.tables e below (s₁.setTop (entryFrame m #[.ref a, .ref b, .int (Int32.ofNat o), .int (Int32.ofNat len), .null] 6)) (T8.setTop (mkF m 45 #[.val (.ref a), .val (.ref b), .val (.int (Int32.ofNat o)), .val (.int (Int32.ofNat len)), .val .null, .val (.ref s.heap.size)] [.int (Int32.ofNat len), .ref s.heap.size, .ref a])) := c9.trans (by
      refine XS.astore X8.here hexec rfl (hb hbytes d39) rfl rfl rfl ?_
      refine XS.aloadN X8.here hexec rfl (hb hbytes d41) rfl rfl ?_
      refine XS.aload X8.here hexec rfl (hb hbytes d42) rfl rfl ?_
      refine XS.iloadN X8.here hexec rfl (hb hbytes d44) rfl ?_
      exact Steps.refl _)
    rw [n4]; exact hc
  obtain ⟨v11, T11, X11, E11, g11⟩ := X8.callS hexec (CodL.law l s.heap.size N) hown (wks W (staticW "java/lang/String" 47 CodL.yN)) (wk W CodL.tab) (W := 1) (Nat.le_of_ble_eq_true rfl) (Nat.le_of_ble_eq_true rfl) (Nat.le_refl _) (by show 0 + len + 0 ≤ len; omega) (g := (mkF m 45 #[.val (.ref a), .val (.ref b), .val (.int (Int32.ofNat o)), .val (.int (Int32.ofNat len)), .val .null, .val (.ref s.heap.size)] [.int (Int32.ofNat N.slots.size), .ref s.heap.size, .ref a])) rfl (by rw [hml]; rfl) c10 (argsL := [.ref s.heap.size, .int (Int32.ofNat N.slots.size)]) (rest := [.ref a]) rfl rfl (by show 2 * 0 + (1 + 0) ≤ _; decide) (hb hbytes d45) (⟨rfl, n1⟩)
  obtain ⟨rfl, q11⟩ := E11
  have hB11 := hB1.mv (X8.warmed.alike.symm.trans X11.warmed.alike) q11
  have c12 : Steps p.tables e below (s₁.setTop (entryFrame m #[.ref a, .ref b, .int (Int32.ofNat o), .int (Int32.ofNat len), .null] 6)) (T11.setTop (mkF m 48 #[.val (.ref a), .val (.ref b), .val (.int (Int32.ofNat o)), .val (.int (Int32.ofNat len)), .val .null, .val (.ref s.heap.size)] [.int 0, .ref a])) := g11
  obtain ⟨T13, X13, p13, bl13, sl13, st13⟩ := X11.finit hexec hown (wk W (.fieldLink "java/lang/String" 15 "java/lang/String" "coder" "B")) (Or.inr ⟨_, (wk W (.laysFinal "java/lang/String" "java/lang/String" "coder" "B"))⟩) (Or.inl ⟨rfl, hnm⟩) f2 (Or.inl rfl) hB11 (t := .byte) (by decide +kernel) rfl (g := (mkF m 48 #[.val (.ref a), .val (.ref b), .val (.int (Int32.ofNat o)), .val (.int (Int32.ofNat len)), .val .null, .val (.ref s.heap.size)] [.int 0, .ref a])) rfl (rest := []) rfl (hb hbytes d48)
  have c14 : Steps p.tables e below (s₁.setTop (entryFrame m #[.ref a, .ref b, .int (Int32.ofNat o), .int (Int32.ofNat len), .null] 6)) (T13.setTop (mkF m 54 #[.val (.ref a), .val (.ref b), .val (.int (Int32.ofNat o)), .val (.int (Int32.ofNat len)), .val .null, .val (.ref s.heap.size)] [.ref s.heap.size, .ref a])) := (c12.trans (st13 _ (Steps.refl _))).trans (by
    refine XS.aloadN X13.here hexec rfl (hb hbytes d51) rfl rfl ?_
    refine XS.aload X13.here hexec rfl (hb hbytes d52) rfl rfl ?_
    exact Steps.refl _)
  obtain ⟨T15, X15, p15, bl15, sl15, st15⟩ := X13.finit hexec hown (wk W (.fieldLink "java/lang/String" 9 "java/lang/String" "value" "[B")) (Or.inr ⟨_, (wk W (.laysFinal "java/lang/String" "java/lang/String" "value" "[B"))⟩) (Or.inl ⟨rfl, hnm⟩) f1 (Or.inl rfl) bl13 (t := (.array .byte)) (by decide +kernel) rfl (g := (mkF m 54 #[.val (.ref a), .val (.ref b), .val (.int (Int32.ofNat o)), .val (.int (Int32.ofNat len)), .val .null, .val (.ref s.heap.size)] [.ref s.heap.size, .ref a])) rfl (rest := []) rfl (hb hbytes d54)
  have c16 : Steps p.tables e below (s₁.setTop (entryFrame m #[.ref a, .ref b, .int (Int32.ofNat o), .int (Int32.ofNat len), .null] 6)) (T15.setTop (mkF m 57 #[.val (.ref a), .val (.ref b), .val (.int (Int32.ofNat o)), .val (.int (Int32.ofNat len)), .val .null, .val (.ref s.heap.size)] [])) := c14.trans (st15 _ (Steps.refl _))
  have ap := apart (Or.inr ⟨_, (wk W (.laysFinal "java/lang/String" "java/lang/String" "value" "[B"))⟩) (Or.inr ⟨_, (wk W (.laysFinal "java/lang/String" "java/lang/String" "coder" "B"))⟩) f1 f2 (t₁ := .array .byte) (t₂ := .byte) (by decide +kernel) (by decide +kernel) (by decide)
  have al := X8.warmed.alike.symm.trans X15.warmed.alike
  have n7 : T11.heap[s.heap.size]? = some N := by rw [q11]; exact n1.1
  exact ⟨T15, none, _, _, _, X15, by simp, rfl, by omega, (fun _ => rfl), ⟨rfl, _, N, bl15, ((Same.refl D _).set _ (by simp)).set _ (by simp), sl15, (Cell.slots_setSlot_ne _ ap).trans sl13, n1.keep al (p15.other hne (p13.other hne n7)), n2, by rw [al.findClass]; exact n3, n4, n5, fun y c h1 h2 => p15.other h1 (p13.other h1 (by rw [q11]; exact n6 y c h2)), by rw [p15.2.2, p13.2.2, q11]; exact z8⟩, fun fs hl => c16.trans (X15.returnOut hexec hret (hb hbytes d57) hl)⟩
end New4
namespace New1
def yN : MethodName := ⟨"java/lang/String", "<init>", "([C)V"⟩
abbrev yB : ByteArray := jdk_42_method_3_code
theorem d0 : decode yB 0 = .ok (.aload_n 0, 1) := by decide +kernel
theorem d1 : decode yB 1 = .ok (.aload_n 1, 1) := by decide +kernel
theorem d2 : decode yB 2 = .ok (.iconst 0, 1) := by decide +kernel
theorem d3 : decode yB 3 = .ok (.aload_n 1, 1) := by decide +kernel
theorem d4 : decode yB 4 = .ok (.arraylength, 1) := by decide +kernel
theorem d5 : decode yB 5 = .ok (.aconst_null, 1) := by decide +kernel
theorem d6 : decode yB 6 = .ok (.invokespecial 27, 3) := by decide +kernel
theorem d9 : decode yB 9 = .ok (.return_, 1) := by decide +kernel
def site : List Cond := [New4.tab] ++ initW "java/lang/String" 27 New4.yN
def tab : Cond := tabOf yN yB 2 none site
def P (a : Addr) (D : Cell) (fV fC : Field) (b : Addr) (A : Cell) (z : Int32) (args : Array Value) (s : State) : Prop := args = #[.ref a, .ref b] ∧ Blank "java/lang/String" a D s ∧ Found "java/lang/String" "value" "[B" fV s ∧ Found "java/lang/String" "coder" "B" fC s ∧ Ch b A s ∧ StaticIs s "java/lang/String" "COMPACT_STRINGS" "Z" (.int z) ∧ ¬ z = 0 ∧ 0 < A.slots.size ∧ A.slots.size ≤ 536870912 ∧ ∀ i, i < A.slots.size → ¬ 255 < cv A i
def E (a : Addr) (D : Cell) (fV fC : Field) (A : Cell) (r : Option Value) (s u : State) : Prop := Got a D fV fC A 0 A.slots.size r s u
/-- new String(chars), not empty, no char above 255: a Latin-1 String of their low bytes -/
theorem law (l : Launch) (a : Addr) (D : Cell) (fV fC : Field) (b : Addr) (A : Cell) (z : Int32) : Law l yN 2 1 3 52 yB 2 none site (P a D fV fC b A z) (E a D fV fC A) [⟨a, fC.slot⟩, ⟨a, fV.slot⟩] 1 A.slots.size := by
  refine Law.of_walk (plainFor_of_name (by decide +kernel)) (by decide +kernel) (by decide +kernel) (by decide) (fun _ _ h => by rw [h.1]; rfl) (fun _ U U' hal hh h => ⟨h.1, h.2.1.mv hal hh, h.2.2.1.al hal, h.2.2.2.1.al hal, h.2.2.2.2.1.mv hal hh, h.2.2.2.2.2.1.there hal hh, h.2.2.2.2.2.2⟩) (fun r U U' V V' h1 hal h2 h => Got.mv r U U' V V' h1 hal h2 h) ?_
  intro p e s m args below meth c s₁ X0 hexec hbytes hml hret hlk hnm hown hh0 W hP
  obtain ⟨rfl, hB, f1, f2, hA, s1, hz, l0, l2, hp⟩ := hP
  have c1 : Steps p.tables e below (s₁.setTop (entryFrame m #[.ref a, .ref b] 2)) (s₁.setTop (mkF m 0 #[.val (.ref a), .val (.ref b)] [])) := entry rfl
  have c2 : Steps p.tables e below (s₁.setTop (entryFrame m #[.ref a, .ref b] 2)) (s₁.setTop (mkF m 6 #[.val (.ref a), .val (.ref b)] [.null, .int (Int32.ofNat A.slots.size), .int 0, .ref b, .ref a])) := c1.trans (by
    refine XS.aloadN X0.here hexec rfl (hb hbytes d0) rfl rfl ?_
    refine XS.aloadN X0.here hexec rfl (hb hbytes d1) rfl rfl ?_
    refine iconstV X0.here hexec rfl 0 (hb hbytes d2) (by decide) ?_
    refine XS.aloadN X0.here hexec rfl (hb hbytes d3) rfl rfl ?_
    refine X0.alen hexec (hA.1.mv X0.warmed.alike hh0) rfl rfl (hb hbytes d4) ?_
    refine XS.aconstNull X0.here hexec rfl (hb hbytes d5) ?_
    exact Steps.refl _)
  obtain ⟨v3, T3, X3, E3, g3⟩ := X0.callN hexec (New4.law l a D fV fC b A z 0 A.slots.size) rfl hown (wks W (initW "java/lang/String" 27 New4.yN)) (W New4.tab (by simp only [site, List.mem_cons, List.mem_append, true_or, or_true])) (W := 0) (Nat.le_of_ble_eq_true rfl) (Nat.le_of_ble_eq_true rfl) (Nat.le_refl _) (by show 0 + A.slots.size ≤ A.slots.size; omega) (g := (mkF m 6 #[.val (.ref a), .val (.ref b)] [.null, .int (Int32.ofNat A.slots.size), .int (Int32.ofNat 0), .ref b, .ref a])) rfl (by rw [hml]; rfl) c2 (argsL := [.ref b, .int (Int32.ofNat 0), .int (Int32.ofNat A.slots.size), .null]) (rest := []) rfl rfl (by show 2 * 0 + 0 ≤ _; decide) (hb hbytes d6) (⟨rfl, hB.mv X0.warmed.alike hh0, f1.al X0.warmed.alike, f2.al X0.warmed.alike, hA.mv X0.warmed.alike hh0, s1.there X0.warmed.alike hh0, hz, l0, by omega, l2, fun i hi => by rw [Nat.zero_add]; exact hp i hi⟩)
  have e0 := Got.mv _ s₁ s _ _ hh0.symm (Vm.Alike.refl _) rfl E3
  obtain rfl := e0.1
  have c4 : Steps p.tables e below (s₁.setTop (entryFrame m #[.ref a, .ref b] 2)) (T3.setTop (mkF m 9 #[.val (.ref a), .val (.ref b)] [])) := g3
  exact ⟨T3, none, _, _, _, X3, by simp, rfl, by omega, (fun _ => rfl), e0, fun fs hl => c4.trans (X3.returnOut hexec hret (hb hbytes d9) hl)⟩
theorem pays {l : Launch} {R : Room} {p : Program} {e : Env} {below : List Frame} {s : State} {sargs : Array Value} {len W : Nat} (a : Addr) (D : Cell) (fV fC : Field) (b : Addr) (A : Cell) (z : Int32) (htab : tab.before sargs s = true) (hfr : 4 ≤ R.frames) (hlo : W + 65 ≤ R.locals) :
    Back l R p e below s sargs yN len W (fun A₁ a₁ => A₁.cells + 1 ≤ R.cells ∧ A₁.slots + A.slots.size ≤ R.slots ∧ P a D fV fC b A z a₁ A₁.U) (fun A₁ _ v₁ B₁ => E a D fV fC A v₁ A₁.U B₁.U ∧ B₁.locs = A₁.locs ++ [⟨a, fC.slot⟩, ⟨a, fV.slot⟩] ∧ B₁.cells = A₁.cells + 1 ∧ B₁.slots = A₁.slots + A.slots.size) :=
  (law l a D fV fC b A z).pays htab hfr (by omega)
end New1
end StrChars
namespace StrChars.Road
open Jvm Sem ClassFile Op Lib Jvm.Stand Jvm.Free Jvm.Free.XT
open Jvm.Lib.Cold (StaticIs)
abbrev ST : String := "java/lang/String"
/-- every table word that New1's law asks, flat -/
abbrev words : List Jvm.Cond := [.code New1.yN New1.yB 2 none, .initialized ST, .methodLink ST 27 New4.yN, .instanceMethod New4.yN,
  .code New4.yN New4.yB 6 none, .fieldLink ST 38 ST "COMPACT_STRINGS" "Z", .laysFinal ST ST "value" "[B", .fieldLink ST 9 ST "value" "[B", .laysFinal ST ST "coder" "B", .fieldLink ST 15 ST "coder" "B",
  .methodLink ST 1 Lib.objectInit, .instanceMethod Lib.objectInit, .code Lib.objectInit ⟨#[0xb1]⟩ 1 none, .methodLink ST 177 Cmp3.yN, .static Cmp3.yN, .methodLink ST 47 CodL.yN, .static CodL.yN,
  .code Cmp3.yN Cmp3.yB 6 (some (.array .byte)), .initialized U16, .arrayClass .byte, .methodLink U16 115 Cmp5.yN, .static Cmp5.yN, .code Cmp5.yN Cmp5.yB 7 (some .int), .code CodL.yN CodL.yB 2 (some .byte)]
theorem tab_of {a : Array Value} {s : State} (h : ∀ w ∈ words, w.before a s = true) : New1.tab.before a s = true := by
  have h5 : Cmp5.tab.before a s = true := unparts (wk h (.code Cmp5.yN Cmp5.yB 7 (some .int))) (wks h (.initialized Cmp5.yN.cls :: Cmp5.site))
  have hc : CodL.tab.before a s = true := unparts (wk h (.code CodL.yN CodL.yB 2 (some .byte))) (wks h (.initialized CodL.yN.cls :: CodL.site))
  have q5 : ∀ w ∈ Cmp5.tab :: words, w.before a s = true := fun w hw => (List.mem_cons.mp hw).elim (fun e => e ▸ h5) (h w)
  have h3 : Cmp3.tab.before a s = true := unparts (wk q5 (.code Cmp3.yN Cmp3.yB 6 (some (.array .byte)))) (wks q5 (.initialized Cmp3.yN.cls :: Cmp3.site))
  have q3 : ∀ w ∈ Cmp3.tab :: CodL.tab :: words, w.before a s = true := fun w hw => (List.mem_cons.mp hw).elim (fun e => e ▸ h3) fun hw => (List.mem_cons.mp hw).elim (fun e => e ▸ hc) (h w)
  have h4 : New4.tab.before a s = true := unparts (wk q3 (.code New4.yN New4.yB 6 none)) (wks q3 (.initialized New4.yN.cls :: New4.site))
  have q4 : ∀ w ∈ New4.tab :: words, w.before a s = true := fun w hw => (List.mem_cons.mp hw).elim (fun e => e ▸ h4) (h w)
  exact unparts (wk q4 (.code New1.yN New1.yB 2 none)) (wks q4 (.initialized New1.yN.cls :: New1.site))
/-- the words ride from the start Z to the walk's own state -/
theorem moved {Z s : State} {a0 args : Array Value} (hZ : Z.Warmed39 s.vm) (hw : ∀ d ∈ words, d.before a0 Z = true) : ∀ d ∈ words, d.before args s = true := fun d hd => by
  have q := hw d hd
  have t : ∀ d ∈ words, d = .arrayClass .byte ∨ (d.onTables && d.keepsFace) = true := by decide +kernel
  rcases t d hd with rfl | t
  · exact RoadKit.mvA hZ q
  · exact RoadKit.mv hZ q t
/-- WHAT COMES BACK, over the tables of the start Z: h the heap at the call, h' behind it -/
def Q (Z : State) (x : Addr) (A : Cell) (h : Heap) (v : Option Value) (h' : Heap) (L : List Loc) : Prop := v = none ∧ (∀ y ∈ L, y.base = x) ∧ RoadKit.Keep h h' [x] ∧ h'.size = h.size + 1 ∧ RoadKit.Exa Z h' x ST ∧ RoadKit.Fld Z h' x ST "value" "[B" (.ref h.size) ∧ RoadKit.Fld Z h' x ST "coder" "B" (.int 0) ∧
  (∃ V : Cell, RoadKit.Arr Z h' h.size V .byte ∧ V.vm = .none ∧ Z.vm.findClass "[B" = some V.cls ∧ V.slots.size = A.slots.size ∧ ∀ j, j < A.slots.size → V.slots[j]? = some (.int (lo8 (cv A j)))) ∧
  ∀ (O n d : String) (w : Value), RoadKit.Fld Z h x O n d w → RoadKit.slotOf Z O n d ≠ RoadKit.slotOf Z ST "value" "[B" → RoadKit.slotOf Z O n d ≠ RoadKit.slotOf Z ST "coder" "B" → RoadKit.Fld Z h' x O n d w
/-- **new String(chars) AT A CALL, IN THE ROAD'S FORM**: for specialBack behind newO: x the fresh String, b the char[] with the cell A -/
theorem back {p : Program} {l : Launch} {e : Env} {R : Room} {s : State} {args : Array Value} {below : List Frame} {len W : Nat} {Z : State} {a0 : Array Value} {h : Heap} (hZ : Z.Warmed39 s.vm) (hw : ∀ d ∈ words, d.before a0 Z = true) {kI : Nat} (wi : (Jvm.Cond.instantiable ST kI).before a0 Z = true)
    {x b : Addr} {A : Cell} {z : Int32} {v0 c0 : Value} (E : RoadKit.Exa Z h x ST) (V : RoadKit.Fld Z h x ST "value" "[B" v0) (C : RoadKit.Fld Z h x ST "coder" "B" c0) (K : RoadKit.Arr Z h b A .char) (hty : Typed .char A) (S : RoadKit.Sta Z h ST "COMPACT_STRINGS" "Z" (.int z)) (hz : ¬ z = 0)
    (l0 : 0 < A.slots.size) (l2 : A.slots.size ≤ 536870912) (hp : ∀ i, i < A.slots.size → ¬ 255 < cv A i) (hfr : 4 ≤ R.frames) (hlo : W + 65 ≤ R.locals) :
    Back l R p e below s args New1.yN len W (fun P a => a = #[.ref x, .ref b] ∧ P.U.heap = h ∧ P.cells + 1 ≤ R.cells ∧ P.slots + A.slots.size ≤ R.slots)
      (fun P _ v B => ∃ L, Q Z x A h v B.U.heap L ∧ B.locs = P.locs ++ L ∧ B.cells = P.cells + 1 ∧ B.slots = P.slots + A.slots.size) := by
  intro m meth c P g ig mk a X hg hsize hdg hW hn hp'
  obtain ⟨rfl, rfl, r1, r2⟩ := hp'
  have al : Z.vm.Alike P.U.vm := hZ.alike.trans X.warmed.alike
  obtain ⟨D, cfV, kV, iV, fV, hD, gV, stV, knV, obV, asV, slV⟩ := id V
  obtain ⟨D', cfC, kC, iC, fC, hD', gC, stC, -, -, asC, slC⟩ := id C
  cases hD.symm.trans hD'
  obtain ⟨D2, kD, e1, e2, e3, e4, e5⟩ := id E
  cases hD.symm.trans e1
  obtain ⟨c2, k2, i1, i2, i3, -⟩ := Cond.instantiable_spec wi
  cases e2.symm.trans i1
  cases e3.symm.trans i2
  obtain ⟨kU, u1, u2⟩ := al.2.2 _ _ e3
  have hB : Blank ST x D P.U := ⟨hD, ⟨knV, fun q hq => by rw [hq] at obV; cases obV⟩, by rw [al.findClass]; exact e2, kU, u1, by rw [u2]; exact i3, by rw [u2]; exact e5 i3⟩
  have F1 : Found ST "value" "[B" fV P.U := ⟨SBG.found_only al ⟨cfV, kV, iV, gV⟩, stV⟩
  have F2 : Found ST "coder" "B" fC P.U := ⟨SBG.found_only al ⟨cfC, kC, iC, gC⟩, stC⟩
  have hA : Ch b A P.U := ⟨⟨K.1, State.isArrayOf_alike al K.2.1, K.2.2, by omega⟩, hty⟩
  have hS : StaticIs P.U ST "COMPACT_STRINGS" "Z" (.int z) := by
    obtain ⟨cfS, iS, kS, fS, st, cS, t1, t2, t3, t4, t5, t6, t7⟩ := S
    exact StaticIs.there (s := { Z with heap := P.U.heap }) ⟨cfS, iS, kS, fS, st, cS, t1, t2, t3, t4, t5, (fun q => by rw [q] at t6; cases t6), t7⟩ al rfl
  obtain ⟨v, B, X', ⟨⟨hv, E', V', q1, q2, q3, q4, q5, q6, q7, q8, q9, q10, q11⟩, hl, hc, hs⟩, st⟩ := New1.pays x D fV fC b A z (tab_of (moved hZ hw)) hfr hlo m meth c P g ig mk _ X hg hsize hdg hW hn ⟨r1, r2, rfl, hB, F1, F2, hA, hS, hz, l0, l2, hp⟩
  have al' : Z.vm.Alike B.U.vm := hZ.alike.trans X'.warmed.alike
  have hsz : E'.slots.size = D.slots.size := by
    obtain ⟨-, -, -, kB, w1, w2, w3⟩ := q1
    obtain ⟨kB', y1, y2⟩ := al'.2.2 _ _ e3
    rw [q2.2.1] at w1
    cases w1.symm.trans y1
    rw [w3, e5 i3, y2]
  refine ⟨v, B, X', ⟨_, ⟨hv, ?_, ⟨by omega, fun y cy hy hn' => q10 y cy (by simpa using hn') hy, fun y cy hy => ?_⟩, q11, ⟨E', _, q1.1, by rw [q2.2.1]; exact e2, by rw [q2.2.1]; exact e3, by rw [q2.1]; exact obV, fun _ => by rw [hsz]; exact e5 i3⟩,
    ⟨E', cfV, kV, iV, fV, q1.1, gV, stV, by rw [q2.1]; exact knV, by rw [q2.1]; exact obV, by rw [q2.2.1]; exact asV, q3⟩, ⟨E', cfC, kC, iC, fC, q1.1, gC, stC, by rw [q2.1]; exact knV, by rw [q2.1]; exact obV, by rw [q2.2.1]; exact asC, q4⟩,
    ⟨V', ⟨q5.1, State.isArrayOf_alike al'.symm q5.2.1, q5.2.2.1⟩, q6, by rw [← al'.findClass]; exact q7, q8, fun j hj => by have := q9 j hj; rwa [Nat.zero_add] at this⟩, fun O n d w F n1 n2 => ?_⟩, hl, hc, hs⟩, st⟩
  · intro y hy
    simp only [List.mem_cons, List.not_mem_nil, or_false] at hy
    rcases hy with rfl | rfl <;> rfl
  · by_cases q : y = x
    · subst q
      cases hD.symm.trans hy
      exact ⟨E', q1.1, q2.2.1, q2.1, hsz⟩
    · exact ⟨cy, q10 y cy q hy, rfl, rfl, rfl⟩
  · obtain ⟨D3, cf, k, i, f, g1, g2, g3, g4, g5, g6, g7⟩ := F
    cases hD.symm.trans g1
    simp only [RoadKit.slotOf, g2, gV, gC, Option.map_some, Option.getD_some] at n1 n2
    exact ⟨E', cf, k, i, f, q1.1, g2, g3, by rw [q2.1]; exact g4, by rw [q2.1]; exact g5, by rw [q2.2.1]; exact g6, by rw [q2.2.2 f.slot (by simp [n1, n2])]; exact g7⟩
end StrChars.Road
namespace StrChars.Road
open Jvm Sem ClassFile Op Lib Jvm.Stand Jvm.Free Jvm.Free.XT
/-- WHAT COMES BACK, the byte[] as a list of values -/
def QA (Z : State) (x : Addr) (zn : Int32) (cs : List Int32) (h : Heap) (v : Option Value) (h' : Heap) (L : List Loc) : Prop := v = none ∧ (∀ y ∈ L, y.base = x) ∧ RoadKit.Keep h h' [x] ∧ h'.size = h.size + 1 ∧ RoadKit.Exa Z h' x ST ∧ RoadKit.Fld Z h' x ST "value" "[B" (.ref h.size) ∧ RoadKit.Fld Z h' x ST "coder" "B" (.int 0) ∧
  (∃ kb, Z.vm.findClass "[B" = some kb ∧ RoadKit.Arv Z h' h.size kb .byte zn (cs.map fun c => .int (lo8 c)) (.int 0)) ∧
  ∀ (O n d : String) (w : Value), RoadKit.Fld Z h x O n d w → RoadKit.slotOf Z O n d ≠ RoadKit.slotOf Z ST "value" "[B" → RoadKit.slotOf Z O n d ≠ RoadKit.slotOf Z ST "coder" "B" → RoadKit.Fld Z h' x O n d w
/-- **new String(chars) AT A CALL, THE ARRAYS AS LISTS**: the char[] at b holds cs, not empty, no char above 255 -/
theorem backArv {p : Program} {l : Launch} {e : Env} {R : Room} {s : State} {args : Array Value} {below : List Frame} {len W : Nat} {Z : State} {a0 : Array Value} {h : Heap} (hZ : Z.Warmed39 s.vm) (hw : ∀ d ∈ words, d.before a0 Z = true) {kI : Nat} (wi : (Jvm.Cond.instantiable ST kI).before a0 Z = true)
    {x b : Addr} {k : ClassId} {zn z : Int32} {cs : List Int32} {dv v0 c0 : Value} (E : RoadKit.Exa Z h x ST) (V : RoadKit.Fld Z h x ST "value" "[B" v0) (C : RoadKit.Fld Z h x ST "coder" "B" c0) (K : RoadKit.Arv Z h b k .char zn (cs.map Value.int) dv) (S : RoadKit.Sta Z h ST "COMPACT_STRINGS" "Z" (.int z)) (hz : ¬ z = 0)
    (hlen : zn.toNatClampNeg = cs.length) (h0 : 0 < cs.length) (hbig : cs.length ≤ 536870912) (hall : ∀ c ∈ cs, ¬ 255 < c) (hfr : 4 ≤ R.frames) (hlo : W + 65 ≤ R.locals) :
    Back l R p e below s args New1.yN len W (fun P a => a = #[.ref x, .ref b] ∧ P.U.heap = h ∧ P.cells + 1 ≤ R.cells ∧ P.slots + cs.length ≤ R.slots)
      (fun P _ v B => ∃ L, QA Z x zn cs h v B.U.heap L ∧ B.locs = P.locs ++ L ∧ B.cells = P.cells + 1 ∧ B.slots = P.slots + cs.length) := by
  obtain ⟨A, K1, K2, K3, K4, K5, K6⟩ := K
  have e : A.slots.size = cs.length := K3.trans hlen
  have hat : ∀ (i : Nat) (hi : i < cs.length), A.slots[i]? = some (.int cs[i]) := fun i hi => by rw [K5 i (by omega)]; simp [List.getD_eq_getElem?_getD, hi]
  have hcv : ∀ (i : Nat) (hi : i < cs.length), cv A i = cs[i] := fun i hi => by unfold cv; rw [hat i hi]
  have hty : Typed .char A := fun i v hv => by
    have hi : i < A.slots.size := (Array.getElem?_eq_some_iff.mp hv).1
    have q := K5 i hi
    rw [hv] at q
    rw [Option.some.inj q]
    exact K6 i hi
  refine Back.mono (back hZ hw wi E V C K1 hty S hz (by omega) (by omega) (fun i hi => by rw [hcv i (by omega)]; exact hall _ (List.getElem_mem _)) hfr hlo) (fun P a hp => ⟨hp.1, hp.2.1, hp.2.2.1, by rw [e]; exact hp.2.2.2⟩) (fun P a v B hp hq => ?_)
  obtain ⟨L, ⟨q1, q2, q3, q4, q5, q6, q7, ⟨V', v1, v2, v3, v4, v5⟩, q9⟩, hl, hc, hs⟩ := hq
  refine ⟨L, ⟨q1, q2, q3, q4, q5, q6, q7, ⟨V'.cls, v3, V', v1, rfl, by rw [v4, e, hlen], K4, fun i hi => ?_, fun i hi => ?_⟩, q9⟩, hl, hc, by rw [hs, e]⟩
  · have hi' : i < cs.length := by omega
    rw [v5 i (by omega), hcv i hi']; simp [List.getD_eq_getElem?_getD, hi']
  · have hi' : i < cs.length := by omega
    simp only [List.getD_eq_getElem?_getD, List.getElem?_map, List.getElem?_eq_getElem hi', Option.map_some, Option.getD_some]
    exact fits_lo8 _
end StrChars.Road
namespace StrChars.Road
open Jvm Sem ClassFile Op Lib Jvm.Stand Jvm.Free Jvm.Free.XT
/-- WHAT COMES BACK, in the writer's own shape -/
def QV (Z : State) (x : Addr) (N : Int32) (bs : List Int32) (h : Heap) (n0 : Nat) (v : Option Value) (h' : Heap) (L : List Loc) : Prop := v = none ∧ RoadKit.Fr n0 L ∧ RoadKit.Keep h h' [x] ∧ RoadKit.Exa Z h' x ST ∧ RoadKit.Fld Z h' x ST "coder" "B" (.int 0) ∧
  ∃ (t : Addr) (kb : ClassId), n0 ≤ t ∧ h.size ≤ t ∧ ¬ t = x ∧ RoadKit.Fld Z h' x ST "value" "[B" (.ref t) ∧ RoadKit.Arv Z h' t kb .byte N (bs.map Value.int) (.int 0)
/-- **new String(chars) AT A CALL, FOR THE WRITER**: a char[] of n known ints, each 0 to 255 -/
theorem backV {p : Program} {l : Launch} {e : Env} {R : Room} {s : State} {args : Array Value} {below : List Frame} {len W : Nat} {Z : State} {a0 : Array Value} {h : Heap} (hZ : Z.Warmed39 s.vm) (hw : ∀ d ∈ words, d.before a0 Z = true) {kI : Nat} (wi : (Jvm.Cond.instantiable ST kI).before a0 Z = true)
    {x b : Addr} {kC : ClassId} {cs bs : List Int32} {d v0 c0 : Value} {z N : Int32} {n n0 : Nat} (hx0 : n0 ≤ x) (hh0 : n0 ≤ h.size) (E : RoadKit.Exa Z h x ST) (V : RoadKit.Fld Z h x ST "value" "[B" v0) (C : RoadKit.Fld Z h x ST "coder" "B" c0) (K : RoadKit.Arv Z h b kC .char N (cs.map Value.int) d) (S : RoadKit.Sta Z h ST "COMPACT_STRINGS" "Z" (.int z)) (hz : ¬ z = 0)
    (hn : cs.length = n) (hN : N = Int32.ofNat n) (l0 : 0 < n) (l2 : n ≤ 4000) (hp : ∀ c ∈ cs, ¬ c < 0 ∧ ¬ (255 : Int32) < c) (hb : bs = cs.map (fun c => c.toInt8.toInt32)) (hfr : 4 ≤ R.frames) (hlo : W + 65 ≤ R.locals) :
    Back l R p e below s args (⟨"java/lang/String", "<init>", "([C)V"⟩ : MethodName) len W (fun P a => a = #[.ref x, .ref b] ∧ P.U.heap = h ∧ P.cells + 1 ≤ R.cells ∧ P.slots + n ≤ R.slots)
      (fun P _ v B => ∃ L, QV Z x N bs h n0 v B.U.heap L ∧ B.locs = P.locs ++ L ∧ B.cells = P.cells + 1 ∧ B.slots = P.slots + n) := by
  subst hn hN hb
  refine Back.mono (backArv hZ hw wi E V C K S hz (n32 (by omega)) l0 (by omega) (fun c hc => (hp c hc).2) hfr hlo) (fun P a hp => hp) (fun P a v B hp hq => ?_)
  obtain ⟨L, ⟨q1, q2, q3, q4, q5, q6, q7, ⟨kb, v1, v2⟩, q9⟩, hl, hc, hs⟩ := hq
  exact ⟨L, ⟨q1, fun y hy => by rw [q2 y hy]; exact hx0, q3, q5, q7, h.size, kb, hh0, Nat.le_refl _, Nat.ne_of_gt E.lt, q6, by rw [List.map_map]; exact v2⟩, hl, hc, hs⟩
end StrChars.Road
namespace StrChars
open Jvm Sem ClassFile Op Lib Jvm.Stand Jvm.Free.XT Jvm.Free.ALB Jvm.Free.JM Jvm.Free
open Jvm.Lib.Cold (StaticIs)
def hi8 (x : Int32) : Int32 := lo8 (x >>> ((8 : Int32) &&& 31))
theorem shr0 (c : Int32) : c >>> ((0 : Int32) &&& 31) = c := by
  have e : ((0 : Int32) &&& 31) = 0 := by decide
  rw [e]
  apply Int32.toBitVec_inj.mp
  rw [Int32.toBitVec_shiftRight]
  have e1 : ((0 : Int32).toBitVec.smod 32) = 0#32 := by decide
  rw [e1, BitVec.sshiftRight_eq']
  exact BitVec.sshiftRight_zero
end StrChars
namespace StrChars
open Jvm Sem ClassFile Op Lib Jvm.Stand Jvm.Free.XT Jvm.Free.ALB Jvm.Free.JM Jvm.Free
open Jvm.Lib.Cold (StaticIs)
theorem shr1 {n : Nat} (h : 2 * n < 2 ^ 31) : Int32.ofNat (2 * n) >>> ((1 : Int32) &&& 31) = Int32.ofNat n := by
  have e : ((1 : Int32) &&& 31) = 1 := by decide
  rw [e]
  apply Int32.toBitVec_inj.mp
  rw [Int32.toBitVec_shiftRight]
  have e1 : ((1 : Int32).toBitVec.smod 32) = 1#32 := by decide
  have hm : (BitVec.ofNat 32 (2 * n)).toNat = 2 * n := by rw [BitVec.toNat_ofNat, Nat.mod_eq_of_lt (by omega)]
  rw [e1, BitVec.sshiftRight_eq']
  apply BitVec.eq_of_toNat_eq
  show ((BitVec.ofNat 32 (2 * n)).sshiftRight 1).toNat = (BitVec.ofNat 32 n).toNat
  rw [BitVec.toNat_sshiftRight_of_msb_false (by rw [BitVec.msb_eq_false_iff_two_mul_lt, hm]; omega), hm, BitVec.toNat_ofNat, Nat.shiftRight_eq_div_pow]
  omega
/-- the array's cell V codes the n chars f 0 .. f (n - 1) by the coder cd, as the JDK does: coder 1 just where some char is above 255 -/
def Cod (cd : Int32) (n : Nat) (f : Nat → Int32) (V : Cell) : Prop := (cd = 0 ∧ V.slots.size = n ∧ ∀ j, j < n → V.slots[j]? = some (.int (lo8 (f j))) ∧ ¬ 255 < f j) ∨ (cd = 1 ∧ V.slots.size = 2 * n ∧ (∀ j, j < n → V.slots[2 * j]? = some (.int (lo8 (f j))) ∧ V.slots[2 * j + 1]? = some (.int (hi8 (f j)))) ∧ ∃ j, j < n ∧ 255 < f j)
theorem Cod.cd {cd : Int32} {n : Nat} {f : Nat → Int32} {V : Cell} (h : Cod cd n f V) : cd = 0 ∨ cd = 1 := h.imp (fun q => q.1) fun q => q.1
theorem Cod.len {cd : Int32} {n : Nat} {f : Nat → Int32} {V : Cell} (h : Cod cd n f V) (hs : V.slots.size < 2 ^ 31) : Int32.ofNat V.slots.size >>> (cd &&& 31) = Int32.ofNat n := by
  rcases h with ⟨rfl, h, -⟩ | ⟨rfl, h, -⟩
  · rw [shr0, h]
  · rw [h, shr1 (by omega)]
/-- **x is a String of the n chars f 0 .. f (n - 1)**, Latin-1 or UTF-16; its array at t has the cell V -/
def Txt (x t : Addr) (V : Cell) (cd : Int32) (n : Nat) (f : Nat → Int32) (U : State) : Prop := Exact "java/lang/String" x U ∧ Has x "java/lang/String" "value" "[B" (.ref t) U ∧ Has x "java/lang/String" "coder" "B" (.int cd) U ∧ XT.Arr .byte t V U ∧ Cod cd n f V ∧ ∀ j, j < n → ¬ f j < 0 ∧ ¬ 65535 < f j
theorem Txt.mv {x t : Addr} {V : Cell} {cd : Int32} {n : Nat} {f : Nat → Int32} {U U' : State} (h : Txt x t V cd n f U) (hal : U.vm.Alike U'.vm) (hh : U'.heap = U.heap) : Txt x t V cd n f U' := ⟨h.1.mv hal hh, h.2.1.mv hal hh, h.2.2.1.mv hal hh, h.2.2.2.1.mv hal hh, h.2.2.2.2⟩
namespace Cdr
def yN : MethodName := ⟨"java/lang/String", "coder", "()B"⟩
abbrev yB : ByteArray := jdk_42_method_152_code
theorem d0 : decode yB 0 = .ok (.getstatic 38, 3) := by decide +kernel
theorem d3 : decode yB 3 = .ok (.ifCond (.eq) 10, 3) := by decide +kernel
theorem d6 : decode yB 6 = .ok (.aload_n 0, 1) := by decide +kernel
theorem d7 : decode yB 7 = .ok (.getfield 15, 3) := by decide +kernel
theorem d10 : decode yB 10 = .ok (.goto 4, 3) := by decide +kernel
theorem d14 : decode yB 14 = .ok (.ireturn, 1) := by decide +kernel
def site : List Cond := [.fieldLink "java/lang/String" 38 "java/lang/String" "COMPACT_STRINGS" "Z", .fieldLink "java/lang/String" 15 "java/lang/String" "coder" "B"]
def tab : Cond := tabOf yN yB 1 (some .byte) site
def P (x : Addr) (cd z : Int32) (args : Array Value) (s : State) : Prop := args = #[.ref x] ∧ Has x "java/lang/String" "coder" "B" (.int cd) s ∧ (cd = 0 ∨ cd = 1) ∧ StaticIs s "java/lang/String" "COMPACT_STRINGS" "Z" (.int z) ∧ ¬ z = 0
def E (cd : Int32) (r : Option Value) (s u : State) : Prop := XT.PureE (some (.int cd)) r s u
theorem law (l : Launch) (x : Addr) (cd z : Int32) : Law l yN 1 0 0 0 yB 1 (some .byte) site (P x cd z) (E cd) [] 0 0 := by
  refine Law.of_walk (plainFor_of_name (by decide +kernel)) (by decide +kernel) (by decide +kernel) (by decide) (fun _ _ h => by rw [h.1]; rfl) (fun _ U U' hal hh h => ⟨h.1, h.2.1.mv hal hh, h.2.2.1, h.2.2.2.1.there hal hh, h.2.2.2.2⟩) (fun r U U' V V' h1 hal h2 h => XT.PureE.mv r U U' V V' h1 hal h2 h) ?_
  intro p e s m args below meth c s₁ X0 hexec hbytes hml hret hlk hnm hown hh0 W hP
  obtain ⟨rfl, hx, hc, s1, hz⟩ := hP
  have c1 : Steps p.tables e below (s₁.setTop (entryFrame m #[.ref x] 1)) (s₁.setTop (mkF m 0 #[.val (.ref x)] [])) := entry rfl
  obtain ⟨T2, X2, q2, st2⟩ := X0.sget hexec hown (wk W (.fieldLink "java/lang/String" 38 "java/lang/String" "COMPACT_STRINGS" "Z")) s1 (fun _ _ h => by rw [hh0]; exact h) (g := (mkF m 0 #[.val (.ref x)] [])) rfl (hb hbytes d0)
  have hh2 := q2.trans hh0
  have c3 : Steps p.tables e below (s₁.setTop (entryFrame m #[.ref x] 1)) (T2.setTop (mkF m 7 #[.val (.ref x)] [.ref x])) := (c1.trans (st2 _ (Steps.refl _))).trans (by
    refine XS.ifNo X2.here hexec rfl (hb hbytes d3) rfl (i0_eq_f hz) ?_
    refine XS.aloadN X2.here hexec rfl (hb hbytes d6) rfl rfl ?_
    exact Steps.refl _)
  obtain ⟨T4, X4, q4, st4⟩ := X2.hget hexec hown (wk W (.fieldLink "java/lang/String" 15 "java/lang/String" "coder" "B")) (hx.mv X2.warmed.alike hh2) (g := (mkF m 7 #[.val (.ref x)] [.ref x])) rfl (rest := []) rfl (hb hbytes d7)
  have c5 : Steps p.tables e below (s₁.setTop (entryFrame m #[.ref x] 1)) (T4.setTop (mkF m 14 #[.val (.ref x)] [.int cd])) := (c3.trans (st4 _ (Steps.refl _))).trans (by
    refine XS.goto X4.here hexec rfl (pc0 := 10) rfl (hb hbytes d10) (by decide) rfl ?_
    exact Steps.refl _)
  exact ⟨T4, some (.int cd), _, _, _, X4, rfl, rfl, rfl, (fun h => by cases h), ⟨rfl, q4.trans hh2⟩, fun fs hl => c5.trans (X4.ireturnOut hexec hret (by rcases hc with rfl | rfl <;> rfl) (Or.inr (Or.inr (Or.inl rfl))) (hb hbytes d14) hl)⟩
end Cdr
namespace Len
def yN : MethodName := ⟨"java/lang/String", "length", "()I"⟩
abbrev yB : ByteArray := jdk_42_method_54_code
theorem d0 : decode yB 0 = .ok (.aload_n 0, 1) := by decide +kernel
theorem d1 : decode yB 1 = .ok (.getfield 9, 3) := by decide +kernel
theorem d4 : decode yB 4 = .ok (.arraylength, 1) := by decide +kernel
theorem d5 : decode yB 5 = .ok (.aload_n 0, 1) := by decide +kernel
theorem d6 : decode yB 6 = .ok (.invokevirtual 335, 3) := by decide +kernel
theorem d9 : decode yB 9 = .ok (.ishr, 1) := by decide +kernel
theorem d10 : decode yB 10 = .ok (.ireturn, 1) := by decide +kernel
def site : List Cond := [.fieldLink "java/lang/String" 9 "java/lang/String" "value" "[B", Cdr.tab] ++ virtW "java/lang/String" 335 "java/lang/String" Cdr.yN Cdr.yN
def tab : Cond := tabOf yN yB 1 (some .int) site
def P (x t : Addr) (V : Cell) (cd : Int32) (n : Nat) (f : Nat → Int32) (z : Int32) (args : Array Value) (s : State) : Prop := args = #[.ref x] ∧ Txt x t V cd n f s ∧ StaticIs s "java/lang/String" "COMPACT_STRINGS" "Z" (.int z) ∧ ¬ z = 0
def E (n : Nat) (r : Option Value) (s u : State) : Prop := XT.PureE (some (.int (Int32.ofNat n))) r s u
/-- length() of a String of n chars, in either coding -/
theorem law (l : Launch) (x t : Addr) (V : Cell) (cd : Int32) (n : Nat) (f : Nat → Int32) (z : Int32) : Law l yN 1 0 1 13 yB 1 (some .int) site (P x t V cd n f z) (E n) [] 0 0 := by
  refine Law.of_walk (plainFor_of_name (by decide +kernel)) (by decide +kernel) (by decide +kernel) (by decide) (fun _ _ h => by rw [h.1]; rfl) (fun _ U U' hal hh h => ⟨h.1, h.2.1.mv hal hh, h.2.2.1.there hal hh, h.2.2.2⟩) (fun r U U' V V' h1 hal h2 h => XT.PureE.mv r U U' V V' h1 hal h2 h) ?_
  intro p e s m args below meth c s₁ X0 hexec hbytes hml hret hlk hnm hown hh0 W hP
  obtain ⟨rfl, hx, s1, hz⟩ := hP
  have v31 := hx.2.2.2.1.2.2.2
  have c1 : Steps p.tables e below (s₁.setTop (entryFrame m #[.ref x] 1)) (s₁.setTop (mkF m 1 #[.val (.ref x)] [.ref x])) := Steps.trans (entry rfl) (by
    show Steps p.tables e below (s₁.setTop (mkF m 0 #[.val (.ref x)] [])) _
    refine XS.aloadN X0.here hexec rfl (hb hbytes d0) rfl rfl ?_
    exact Steps.refl _)
  obtain ⟨T2, X2, q2, st2⟩ := X0.hget hexec hown (wk W (.fieldLink "java/lang/String" 9 "java/lang/String" "value" "[B")) (hx.mv X0.warmed.alike hh0).2.1 (g := (mkF m 1 #[.val (.ref x)] [.ref x])) rfl (rest := []) rfl (hb hbytes d1)
  have hh2 := q2.trans hh0
  have hx2 := hx.mv X2.warmed.alike hh2
  have c3 : Steps p.tables e below (s₁.setTop (entryFrame m #[.ref x] 1)) (T2.setTop (mkF m 6 #[.val (.ref x)] [.ref x, .int (Int32.ofNat V.slots.size)])) := (c1.trans (st2 _ (Steps.refl _))).trans (by
    refine X2.alen hexec hx2.2.2.2.1 rfl rfl (hb hbytes d4) ?_
    refine XS.aloadN X2.here hexec rfl (hb hbytes d5) rfl rfl ?_
    exact Steps.refl _)
  obtain ⟨v4, T4, X4, E4, g4⟩ := X2.callV hexec (Cdr.law l x cd z) hown (wks W (virtW "java/lang/String" 335 "java/lang/String" Cdr.yN Cdr.yN)) rfl (by decide) (wk W Cdr.tab) (W := 1) (Nat.le_of_ble_eq_true rfl) (Nat.le_of_ble_eq_true rfl) (Nat.le_refl _) (Nat.le_refl _) (hx2.1.fc X2.warmed.alike) hx2.1.is (g := (mkF m 6 #[.val (.ref x)] [.ref x, .int (Int32.ofNat V.slots.size)])) rfl (by rw [hml]; rfl) c3 (argsL := []) (rest := [.int (Int32.ofNat V.slots.size)]) rfl rfl (by show 2 * 0 + (1 + 0) ≤ _; decide) (hb hbytes d6) (⟨rfl, hx2.2.2.1, hx.2.2.2.2.1.cd, s1.there X2.warmed.alike hh2, hz⟩)
  obtain ⟨rfl, q4⟩ := E4
  have c5 : Steps p.tables e below (s₁.setTop (entryFrame m #[.ref x] 1)) (T4.setTop (mkF m 10 #[.val (.ref x)] [.int (Int32.ofNat V.slots.size >>> (cd &&& 31))])) := Steps.trans g4 (by
    refine ishr X4.here hexec rfl (hb hbytes d9) rfl ?_
    exact Steps.refl _)
  rw [hx.2.2.2.2.1.len v31] at c5
  exact ⟨T4, some (.int (Int32.ofNat n)), _, _, _, X4, rfl, rfl, rfl, (fun h => by cases h), ⟨rfl, q4.trans hh2⟩, fun fs hl => c5.trans (X4.ireturnOut hexec hret rfl (Or.inl rfl) (hb hbytes d10) hl)⟩
theorem pays {l : Launch} {R : Room} {p : Program} {e : Env} {below : List Frame} {s : State} {sargs : Array Value} {len W : Nat} (x t : Addr) (V : Cell) (cd : Int32) (n : Nat) (f : Nat → Int32) (z : Int32) (htab : tab.before sargs s = true) (hfr : 2 ≤ R.frames) (hlo : W + 25 ≤ R.locals) :
    Back l R p e below s sargs yN len W (fun A₁ a₁ => A₁.cells + 0 ≤ R.cells ∧ A₁.slots + 0 ≤ R.slots ∧ P x t V cd n f z a₁ A₁.U) (fun A₁ _ v₁ B₁ => E n v₁ A₁.U B₁.U ∧ B₁.locs = A₁.locs ++ [] ∧ B₁.cells = A₁.cells + 0 ∧ B₁.slots = A₁.slots + 0) :=
  (law l x t V cd n f z).pays htab hfr (by omega)
end Len
end StrChars
namespace StrChars.Road
open Jvm Sem ClassFile Op Lib Jvm.Stand Jvm.Free Jvm.Free.XT
open Jvm.Lib.Cold (StaticIs)
theorem consq {a : Array Value} {s : State} {c : Jvm.Cond} {L : List Jvm.Cond} (h0 : c.before a s = true) (h : ∀ w ∈ L, w.before a s = true) : ∀ w ∈ c :: L, w.before a s = true := fun w hw => (List.mem_cons.mp hw).elim (fun e => e ▸ h0) (h w)
/-- the words of String.length(), either coding -/
abbrev wordsLen : List Jvm.Cond := [.code Len.yN Len.yB 1 (some .int), .initialized ST, .fieldLink ST 9 ST "value" "[B", .fieldLink ST 38 ST "COMPACT_STRINGS" "Z", .fieldLink ST 15 ST "coder" "B", .code Cdr.yN Cdr.yB 1 (some .byte), .methodLink ST 335 Cdr.yN, .declares Cdr.yN, .selects ST Cdr.yN Cdr.yN, .instanceMethod Cdr.yN]
theorem tabLen_of {a : Array Value} {s : State} (h : ∀ w ∈ wordsLen, w.before a s = true) : Len.tab.before a s = true := by
  have hc : Cdr.tab.before a s = true := unparts (wk h (.code Cdr.yN Cdr.yB 1 (some .byte))) (wks h (.initialized Cdr.yN.cls :: Cdr.site))
  have q := consq hc h
  exact unparts (wk q (.code Len.yN Len.yB 1 (some .int))) (wks q (.initialized Len.yN.cls :: Len.site))
theorem movedLen {Z s : State} {a0 args : Array Value} (hZ : Z.Warmed39 s.vm) (hw : ∀ d ∈ wordsLen, d.before a0 Z = true) : ∀ d ∈ wordsLen, d.before args s = true := fun d hd => by
  have q := hw d hd
  have t : ∀ d ∈ wordsLen, d = .arrayClass .byte ∨ (d.onTables && d.keepsFace) = true := by decide +kernel
  rcases t d hd with rfl | t
  · exact RoadKit.mvA hZ q
  · exact RoadKit.mv hZ q t
/-- the bytes of the chars cs, low before high -/
def wideBytes : List Int32 → List Value
  | [] => []
  | c :: cs => .int (lo8 c) :: .int (hi8 c) :: wideBytes cs
theorem wide_lo (d : Value) : ∀ (cs : List Int32) (j : Nat), j < cs.length → (wideBytes cs).getD (2 * j) d = .int (lo8 (cs.getD j 0))
  | [], j, h => absurd h (Nat.not_lt_zero j)
  | c :: cs, 0, _ => rfl
  | c :: cs, j + 1, h => by
    have q := wide_lo d cs j (by simpa using h)
    rw [show 2 * (j + 1) = 2 * j + 1 + 1 from by omega]
    simpa [wideBytes] using q
theorem wide_hi (d : Value) : ∀ (cs : List Int32) (j : Nat), j < cs.length → (wideBytes cs).getD (2 * j + 1) d = .int (hi8 (cs.getD j 0))
  | [], j, h => absurd h (Nat.not_lt_zero j)
  | c :: cs, 0, _ => rfl
  | c :: cs, j + 1, h => by
    have q := wide_hi d cs j (by simpa using h)
    rw [show 2 * (j + 1) + 1 = 2 * j + 1 + 1 + 1 from by omega]
    simpa [wideBytes] using q
theorem low_at (d : Value) (cs : List Int32) (j : Nat) (h : j < cs.length) : (cs.map fun c => Value.int (lo8 c)).getD j d = .int (lo8 (cs.getD j 0)) := by
  simp [List.getD_eq_getElem?_getD, h]
/-- an array of N2 bytes vs codes the chars cs by the coder cd -/
def CodA (cs : List Int32) (cd N2 : Int32) (vs : List Value) : Prop := (cd = 0 ∧ N2 = Int32.ofNat cs.length ∧ vs = (cs.map fun c => Value.int (lo8 c)) ∧ ∀ c ∈ cs, ¬ 255 < c) ∨ (cd = 1 ∧ N2 = Int32.ofNat (2 * cs.length) ∧ vs = wideBytes cs ∧ ∃ c ∈ cs, 255 < c)
theorem CodA.cod {cs : List Int32} {cd N2 : Int32} {vs : List Value} {V : Cell} (h : CodA cs cd N2 vs) (hn : 2 * cs.length < 2 ^ 31) (hs : V.slots.size = N2.toNatClampNeg) (hv : RoadKit.Has V vs (.int 0)) : Cod cd cs.length (fun j => cs.getD j 0) V := by
  rcases h with ⟨rfl, rfl, rfl, h⟩ | ⟨rfl, rfl, rfl, c, hc, hw⟩
  · rw [n32 (by omega)] at hs
    exact Or.inl ⟨rfl, hs, fun j hj => ⟨by rw [hv j (by omega), low_at _ _ _ hj], by
      have e : cs.getD j 0 = cs[j] := by simp [List.getD_eq_getElem?_getD, hj]
      show ¬ 255 < cs.getD j 0
      rw [e]; exact h _ (List.getElem_mem _)⟩⟩
  · rw [n32 (by omega)] at hs
    obtain ⟨j, hj, rfl⟩ := List.getElem_of_mem hc
    exact Or.inr ⟨rfl, hs, fun j hj => ⟨by rw [hv _ (by omega), wide_lo _ _ _ hj], by rw [hv _ (by omega), wide_hi _ _ _ hj]⟩, j, hj, by
      have e : cs.getD j 0 = cs[j] := by simp [List.getD_eq_getElem?_getD, hj]
      show 255 < cs.getD j 0
      rw [e]; exact hw⟩
/-- an object of exactly java/lang/String, its two fields found: as the laws ask it -/
theorem strObj {Z U : State} {a0 : Array Value} {kI : Nat} (wi : (Jvm.Cond.instantiable ST kI).before a0 Z = true) (al : Z.vm.Alike U.vm) {x : Addr} {v0 c0 : Value} (E : RoadKit.Exa Z U.heap x ST) (V : RoadKit.Fld Z U.heap x ST "value" "[B" v0) (C : RoadKit.Fld Z U.heap x ST "coder" "B" c0) :
    ∃ (D : Cell) (fV fC : Field), Blank ST x D U ∧ Found ST "value" "[B" fV U ∧ Found ST "coder" "B" fC U ∧ D.slots[fV.slot]? = some v0 ∧ D.slots[fC.slot]? = some c0 ∧ RoadKit.slotOf Z ST "value" "[B" = fV.slot ∧ RoadKit.slotOf Z ST "coder" "B" = fC.slot := by
  obtain ⟨D, cfV, kV, iV, fV, hD, gV, stV, knV, obV, asV, slV⟩ := V
  obtain ⟨D', cfC, kC, iC, fC, hD', gC, stC, -, -, asC, slC⟩ := C
  cases hD.symm.trans hD'
  obtain ⟨D2, kD, e1, e2, e3, e4, e5⟩ := E
  cases hD.symm.trans e1
  obtain ⟨c2, k2, i1, i2, i3, -⟩ := Cond.instantiable_spec wi
  cases e2.symm.trans i1
  cases e3.symm.trans i2
  obtain ⟨kU, u1, u2⟩ := al.2.2 _ _ e3
  exact ⟨D, fV, fC, ⟨hD, ⟨knV, fun q hq => by rw [hq] at obV; cases obV⟩, by rw [al.findClass]; exact e2, kU, u1, by rw [u2]; exact i3, by rw [u2]; exact e5 i3⟩, ⟨SBG.found_only al ⟨cfV, kV, iV, gV⟩, stV⟩, ⟨SBG.found_only al ⟨cfC, kC, iC, gC⟩, stC⟩, slV, slC, by simp [RoadKit.slotOf, gV], by simp [RoadKit.slotOf, gC]⟩
theorem sta_is {Z U : State} (al : Z.vm.Alike U.vm) {C n d : String} {v : Value} (S : RoadKit.Sta Z U.heap C n d v) : StaticIs U C n d v := by
  obtain ⟨cfS, iS, kS, fS, st, cS, t1, t2, t3, t4, t5, t6, t7⟩ := S
  exact StaticIs.there (s := { Z with heap := U.heap }) ⟨cfS, iS, kS, fS, st, cS, t1, t2, t3, t4, t5, (fun q => by rw [q] at t6; cases t6), t7⟩ al rfl
/-- **length() OF SUCH A STRING** -/
theorem lenW {p : Program} {l : Launch} {e : Env} {R : Room} {s : State} {args : Array Value} {below : List Frame} {len W : Nat} {Z : State} {a0 : Array Value} {h : Heap} (hZ : Z.Warmed39 s.vm) (hw : ∀ d ∈ wordsLen, d.before a0 Z = true) {kI : Nat} (wi : (Jvm.Cond.instantiable ST kI).before a0 Z = true)
    {x t : Addr} {kb : ClassId} {cs : List Int32} {cd N2 z : Int32} {vs : List Value} (E : RoadKit.Exa Z h x ST) (V : RoadKit.Fld Z h x ST "value" "[B" (.ref t)) (C : RoadKit.Fld Z h x ST "coder" "B" (.int cd)) (K : RoadKit.Arv Z h t kb .byte N2 vs (.int 0)) (hc : CodA cs cd N2 vs) (hb : ∀ c ∈ cs, ¬ c < 0 ∧ ¬ (65535 : Int32) < c)
    (S : RoadKit.Sta Z h ST "COMPACT_STRINGS" "Z" (.int z)) (hz : ¬ z = 0) (l2 : cs.length ≤ 4000) (hfr : 2 ≤ R.frames) (hlo : W + 25 ≤ R.locals) :
    Back l R p e below s args (⟨"java/lang/String", "length", "()I"⟩ : MethodName) len W (fun P a => a = #[.ref x] ∧ P.U.heap = h ∧ P.cells + 0 ≤ R.cells ∧ P.slots + 0 ≤ R.slots)
      (fun P _ v B => ∃ L, (v = some (.int (Int32.ofNat cs.length)) ∧ L = [] ∧ B.U.heap = h) ∧ B.locs = P.locs ++ L ∧ B.cells = P.cells + 0 ∧ B.slots = P.slots + 0) := by
  obtain ⟨A, K1, K2, K3, K4, K5, K6⟩ := K
  have hcod := hc.cod (by omega) K3 K5
  intro m meth c P g ig mk a X hg hsize hdg hW hn hp'
  obtain ⟨rfl, rfl, r1, r2⟩ := hp'
  have al : Z.vm.Alike P.U.vm := hZ.alike.trans X.warmed.alike
  obtain ⟨D, fV, fC, hB, F1, F2, g1, g2, -, -⟩ := strObj wi al E V C
  have hx : Txt x t A cd cs.length (fun j => cs.getD j 0) P.U := ⟨⟨_, hB.2.2.1, D, hB.1, rfl, by cases q : D.vm <;> first | rfl | exact absurd q (hB.2.1.2 _)⟩, Has.of hB F1 g1, Has.of hB F2 g2, ⟨K1.1, State.isArrayOf_alike al K1.2.1, K1.2.2, by rcases hcod with ⟨-, q, -⟩ | ⟨-, q, -⟩ <;> omega⟩, hcod, fun j hj => by
    have e : cs.getD j 0 = cs[j] := by simp [List.getD_eq_getElem?_getD, hj]
    show ¬ cs.getD j 0 < 0 ∧ ¬ 65535 < cs.getD j 0
    rw [e]; exact hb _ (List.getElem_mem _)⟩
  obtain ⟨v, B, X', ⟨⟨hv, hh⟩, hl, hk, hs⟩, st⟩ := Len.pays x t A cd cs.length (fun j => cs.getD j 0) z (tabLen_of (movedLen hZ hw)) hfr hlo m meth c P g ig mk _ X hg hsize hdg hW hn ⟨r1, r2, rfl, hx, sta_is al S, hz⟩
  exact ⟨v, B, X', ⟨[], ⟨hv, rfl, hh⟩, hl, hk, hs⟩, st⟩
end StrChars.Road
namespace StrChars.Road
open Jvm Sem ClassFile Op Lib Jvm.Stand Jvm.Free Jvm.Free.XT
open Jvm.Lib.Cold (StaticIs)
/-- what backV says of its String, as the contracts of this text ask it: cs's low bytes, coder 0 -/
theorem codOf {cs : List Int32} {n : Nat} (hn : cs.length = n) (hb : ∀ c ∈ cs, ¬ 255 < c) : CodA cs 0 (Int32.ofNat n) ((cs.map lo8).map Value.int) := Or.inl ⟨rfl, by rw [hn], by simp [List.map_map, Function.comp_def], hb⟩
end StrChars.Road
end Jvm.Pilot.@@N@@
namespace Jvm.Pilot.@@N@@
open Jvm Jvm.ClassFile Sem Op Lib Jvm.Free Jvm.Stand Jvm.LawKit Jvm.RoadKit Bundle Jvm.Pilot.@@N@@.Jvm.D
section OwnKit
variable {p : Program} {l : Launch} {e : Env} {R : Room} {s : State} {m : MethodId} {args : Array Value} {below : List Frame} {meth : Method} {c : Code} {T : State} {locs : List Loc} {cells slots : Nat} {C N : Nat} {F : Outcome → State → List Loc → Prop} {Q : Option Value → Heap → List Loc → Prop} {pc : Nat} {Ls : Array Slot} {S : List Value} {Z : State} {a0 : Array Value} {h : Heap} {own : String}
def Go (p : Program) (e : Env) (below : List Frame) (F : Outcome → State → List Loc → Prop) (Q : Option Value → Heap → List Loc → Prop) (T : State) (g : JFrame) : Prop :=
  ∃ s₂ o, Steps p.tables e below (T.setTop g) s₂ ∧ s₂.status = .running ∧ Ended s₂ below o ∧ ∃ v L, o = .returned v ∧ Q v s₂.heap L ∧ F o s₂ L
def FE (s : State) (C N : Nat) (o : Outcome) (t : State) (L : List Loc) : Prop := FrameEnd s o t L C N
theorem Go.st {T' : State} {g g' : JFrame} (h : Go p e below F Q T' g') (st : ∀ t, Steps p.tables e below (T'.setTop g') t → Steps p.tables e below (T.setTop g) t) : Go p e below F Q T g := by
  obtain ⟨s₂, o, h1, h2⟩ := h
  exact ⟨s₂, o, st _ h1, h2⟩
theorem Go.tr {T' : State} {g g' : JFrame} (h : Go p e below F Q T' g') (st : Steps p.tables e below (T.setTop g) (T'.setTop g')) : Go p e below F Q T g := by
  obtain ⟨s₂, o, h1, h2⟩ := h
  exact ⟨s₂, o, st.trans h1, h2⟩
/-- a body's contract out of its walk -/
theorem metOf {y : MethodName} {bytes : ByteArray} {maxL : Nat} {ret : Option FieldType} {rm : Room} {ws : List Jvm.Cond} {as' : Array Value} {h0 : Heap} (hpl : plainFor y = true)
    (body : ∀ p e s m below meth c s₁, Stand p l e rm s m as' below meth c s₁ [] 0 0 → p.tables.exec = Jvm.exec → c.code = bytes → c.maxLocals = maxL → meth.sig.returnType = ret → meth.locks = false → Z.Warmed39 s.vm → s.vm.findClass y.cls = some m.cls → meth.name = y.name → s₁.heap = h0 → Go p e below (FE s rm.cells rm.slots) Q s₁ (entryFrame m as' maxL)) :
    MetFree l y (head1 (Jvm.Cond.code y bytes maxL ret :: ws) rm) (fun a U => a = as' ∧ Z.Warmed39 U.vm ∧ U.heap = h0) (fun _ _ _ _ _ => True) (fun _ U o U' => ∃ v L, o = .returned v ∧ Q v U'.heap L ∧ FrameEnd U o U' L rm.cells rm.slots) := by
  refine MetFree.of_bodySF hpl hisR ?_
  intro p e s m args below meth c s₁ Bd hml0 hP hK
  obtain ⟨rfl, hZ, hh⟩ := hP
  exact body p e s m below meth c s₁ (Stand.of_body Bd) Bd.exec Bd.bytes hml0 Bd.returns Bd.notSynchronized hZ (findClass_of_methodNamed Bd.named) (name_of_methodNamed Bd.named Bd.method).1 (by rw [← hh, Bd.state]; rfl)
theorem Go.iloadN (X : Stand p l e R s m args below meth c T locs cells slots) (hx : p.tables.exec = Jvm.exec) {k : Fin 4} {v : Int32} (hd : decode c.code pc = .ok (.iload_n k, 1)) (hl : Ls[k.val]? = some (.val (.int v))) (h : Go p e below F Q T (mkF m (pc + 1) Ls (.int v :: S))) : Go p e below F Q T (mkF m pc Ls S) := h.st fun _ k => XS.iloadN X.here hx rfl hd hl k
theorem Go.iload (X : Stand p l e R s m args below meth c T locs cells slots) (hx : p.tables.exec = Jvm.exec) {k : Nat} {v : Int32} (hd : decode c.code pc = .ok (.iload k, 2)) (hl : Ls[k]? = some (.val (.int v))) (h : Go p e below F Q T (mkF m (pc + 2) Ls (.int v :: S))) : Go p e below F Q T (mkF m pc Ls S) := h.st fun _ k => XS.iload X.here hx rfl hd hl k
theorem Go.istoreN (X : Stand p l e R s m args below meth c T locs cells slots) (hx : p.tables.exec = Jvm.exec) {k : Fin 4} {x : Int32} {l' : Array Slot} (hd : decode c.code pc = .ok (.istore_n k, 1)) (hl : storeLocals Ls k.val (.int x) = some l') (h : Go p e below F Q T (mkF m (pc + 1) l' S)) : Go p e below F Q T (mkF m pc Ls (.int x :: S)) := h.st fun _ k => XS.istoreN X.here hx rfl hd rfl hl k
theorem Go.istore (X : Stand p l e R s m args below meth c T locs cells slots) (hx : p.tables.exec = Jvm.exec) {k : Nat} {x : Int32} {l' : Array Slot} (hd : decode c.code pc = .ok (.istore k, 2)) (hl : storeLocals Ls k (.int x) = some l') (h : Go p e below F Q T (mkF m (pc + 2) l' S)) : Go p e below F Q T (mkF m pc Ls (.int x :: S)) := h.st fun _ k => XS.istore X.here hx rfl hd rfl hl k
theorem Go.lloadN (X : Stand p l e R s m args below meth c T locs cells slots) (hx : p.tables.exec = Jvm.exec) {k : Fin 4} {v : Int64} (hd : decode c.code pc = .ok (.lload_n k, 1)) (hl : Ls[k.val]? = some (.val (.long v))) (h : Go p e below F Q T (mkF m (pc + 1) Ls (.long v :: S))) : Go p e below F Q T (mkF m pc Ls S) := h.st fun _ k => XS.lloadN X.here hx rfl hd hl k
theorem Go.lload (X : Stand p l e R s m args below meth c T locs cells slots) (hx : p.tables.exec = Jvm.exec) {k : Nat} {v : Int64} (hd : decode c.code pc = .ok (.lload k, 2)) (hl : Ls[k]? = some (.val (.long v))) (h : Go p e below F Q T (mkF m (pc + 2) Ls (.long v :: S))) : Go p e below F Q T (mkF m pc Ls S) := h.st fun _ k => XS.lload X.here hx rfl hd hl k
theorem Go.lstoreN (X : Stand p l e R s m args below meth c T locs cells slots) (hx : p.tables.exec = Jvm.exec) {k : Fin 4} {x : Int64} {l' : Array Slot} (hd : decode c.code pc = .ok (.lstore_n k, 1)) (hl : storeLocals Ls k.val (.long x) = some l') (h : Go p e below F Q T (mkF m (pc + 1) l' S)) : Go p e below F Q T (mkF m pc Ls (.long x :: S)) := h.st fun _ k => XS.lstoreN X.here hx rfl hd rfl hl k
theorem Go.lstore (X : Stand p l e R s m args below meth c T locs cells slots) (hx : p.tables.exec = Jvm.exec) {k : Nat} {x : Int64} {l' : Array Slot} (hd : decode c.code pc = .ok (.lstore k, 2)) (hl : storeLocals Ls k (.long x) = some l') (h : Go p e below F Q T (mkF m (pc + 2) l' S)) : Go p e below F Q T (mkF m pc Ls (.long x :: S)) := h.st fun _ k => XS.lstore X.here hx rfl hd rfl hl k
theorem Go.aloadN (X : Stand p l e R s m args below meth c T locs cells slots) (hx : p.tables.exec = Jvm.exec) {k : Fin 4} {v : Value} (hd : decode c.code pc = .ok (.aload_n k, 1)) (hl : Ls[k.val]? = some (.val v)) (hv : v.isRef = true) (h : Go p e below F Q T (mkF m (pc + 1) Ls (v :: S))) : Go p e below F Q T (mkF m pc Ls S) := h.st fun _ k => XS.aloadN X.here hx rfl hd hl hv k
theorem Go.aload (X : Stand p l e R s m args below meth c T locs cells slots) (hx : p.tables.exec = Jvm.exec) {k : Nat} {v : Value} (hd : decode c.code pc = .ok (.aload k, 2)) (hl : Ls[k]? = some (.val v)) (hv : v.isRef = true) (h : Go p e below F Q T (mkF m (pc + 2) Ls (v :: S))) : Go p e below F Q T (mkF m pc Ls S) := h.st fun _ k => XS.aload X.here hx rfl hd hl hv k
theorem Go.astoreN (X : Stand p l e R s m args below meth c T locs cells slots) (hx : p.tables.exec = Jvm.exec) {k : Fin 4} {x : Value} {l' : Array Slot} (hd : decode c.code pc = .ok (.astore_n k, 1)) (hv : x.isRef = true) (hl : storeLocals Ls k.val x = some l') (h : Go p e below F Q T (mkF m (pc + 1) l' S)) : Go p e below F Q T (mkF m pc Ls (x :: S)) := h.st fun _ k => XS.astoreN X.here hx rfl hd rfl hv hl k
theorem Go.astore (X : Stand p l e R s m args below meth c T locs cells slots) (hx : p.tables.exec = Jvm.exec) {k : Nat} {x : Value} {l' : Array Slot} (hd : decode c.code pc = .ok (.astore k, 2)) (hv : x.isRef = true) (hl : storeLocals Ls k x = some l') (h : Go p e below F Q T (mkF m (pc + 2) l' S)) : Go p e below F Q T (mkF m pc Ls (x :: S)) := h.st fun _ k => XS.astore X.here hx rfl hd rfl hv hl k
theorem Go.iconst (X : Stand p l e R s m args below meth c T locs cells slots) (hx : p.tables.exec = Jvm.exec) {i : Int} (v : Int32) (hd : decode c.code pc = .ok (.iconst i, 1)) (hv : Int32.ofInt i = v) (h : Go p e below F Q T (mkF m (pc + 1) Ls (.int v :: S))) : Go p e below F Q T (mkF m pc Ls S) := h.st fun _ k => XT.iconstV X.here hx rfl v hd hv k
theorem Go.bipush (X : Stand p l e R s m args below meth c T locs cells slots) (hx : p.tables.exec = Jvm.exec) {i : Int} (v : Int32) (hd : decode c.code pc = .ok (.bipush i, 2)) (hv : (Int8.ofInt i).toInt32 = v) (h : Go p e below F Q T (mkF m (pc + 2) Ls (.int v :: S))) : Go p e below F Q T (mkF m pc Ls S) := h.st fun _ k => XT.bipushV X.here hx rfl v hd hv k
theorem Go.sipush (X : Stand p l e R s m args below meth c T locs cells slots) (hx : p.tables.exec = Jvm.exec) {i : Int} (v : Int32) (hd : decode c.code pc = .ok (.sipush i, 3)) (hv : (Int16.ofInt i).toInt32 = v) (h : Go p e below F Q T (mkF m (pc + 3) Ls (.int v :: S))) : Go p e below F Q T (mkF m pc Ls S) := h.st fun _ k => XT.sipushV X.here hx rfl v hd hv k
theorem Go.lconst (X : Stand p l e R s m args below meth c T locs cells slots) (hx : p.tables.exec = Jvm.exec) {i : Fin 2} (v : Int64) (hd : decode c.code pc = .ok (.lconst i, 1)) (hv : Int64.ofNat i = v) (h : Go p e below F Q T (mkF m (pc + 1) Ls (.long v :: S))) : Go p e below F Q T (mkF m pc Ls S) := h.st fun _ k => XT.lconstV X.here hx rfl v hd hv k
theorem Go.aconstNull (X : Stand p l e R s m args below meth c T locs cells slots) (hx : p.tables.exec = Jvm.exec)  (hd : decode c.code pc = .ok (.aconst_null, 1))  (h : Go p e below F Q T (mkF m (pc + 1) Ls (.null :: S))) : Go p e below F Q T (mkF m pc Ls S) := h.st fun _ k => XS.aconstNull X.here hx rfl hd  k
theorem Go.iadd (X : Stand p l e R s m args below meth c T locs cells slots) (hx : p.tables.exec = Jvm.exec) {x y : Int32} (hd : decode c.code pc = .ok (.iadd, 1))  (h : Go p e below F Q T (mkF m (pc + 1) Ls (.int (x + y) :: S))) : Go p e below F Q T (mkF m pc Ls (.int y :: .int x :: S)) := h.st fun _ k => XS.iadd X.here hx rfl hd rfl k
theorem Go.isub (X : Stand p l e R s m args below meth c T locs cells slots) (hx : p.tables.exec = Jvm.exec) {x y : Int32} (hd : decode c.code pc = .ok (.isub, 1))  (h : Go p e below F Q T (mkF m (pc + 1) Ls (.int (x - y) :: S))) : Go p e below F Q T (mkF m pc Ls (.int y :: .int x :: S)) := h.st fun _ k => XS.isub X.here hx rfl hd rfl k
theorem Go.imul (X : Stand p l e R s m args below meth c T locs cells slots) (hx : p.tables.exec = Jvm.exec) {x y : Int32} (hd : decode c.code pc = .ok (.imul, 1))  (h : Go p e below F Q T (mkF m (pc + 1) Ls (.int (x * y) :: S))) : Go p e below F Q T (mkF m pc Ls (.int y :: .int x :: S)) := h.st fun _ k => XS.imul X.here hx rfl hd rfl k
theorem Go.iand (X : Stand p l e R s m args below meth c T locs cells slots) (hx : p.tables.exec = Jvm.exec) {x y : Int32} (hd : decode c.code pc = .ok (.iand, 1))  (h : Go p e below F Q T (mkF m (pc + 1) Ls (.int (x &&& y) :: S))) : Go p e below F Q T (mkF m pc Ls (.int y :: .int x :: S)) := h.st fun _ k => XS.iand X.here hx rfl hd rfl k
theorem Go.ior (X : Stand p l e R s m args below meth c T locs cells slots) (hx : p.tables.exec = Jvm.exec) {x y : Int32} (hd : decode c.code pc = .ok (.ior, 1))  (h : Go p e below F Q T (mkF m (pc + 1) Ls (.int (x ||| y) :: S))) : Go p e below F Q T (mkF m pc Ls (.int y :: .int x :: S)) := h.st fun _ k => XS.ior X.here hx rfl hd rfl k
theorem Go.ixor (X : Stand p l e R s m args below meth c T locs cells slots) (hx : p.tables.exec = Jvm.exec) {x y : Int32} (hd : decode c.code pc = .ok (.ixor, 1))  (h : Go p e below F Q T (mkF m (pc + 1) Ls (.int (x ^^^ y) :: S))) : Go p e below F Q T (mkF m pc Ls (.int y :: .int x :: S)) := h.st fun _ k => XS.ixor X.here hx rfl hd rfl k
theorem Go.idiv (X : Stand p l e R s m args below meth c T locs cells slots) (hx : p.tables.exec = Jvm.exec) {x y : Int32} (hd : decode c.code pc = .ok (.idiv, 1)) (hy : y ≠ 0) (h : Go p e below F Q T (mkF m (pc + 1) Ls (.int (x / y) :: S))) : Go p e below F Q T (mkF m pc Ls (.int y :: .int x :: S)) := h.st fun _ k => XS.idiv X.here hx rfl hd rfl hy k
theorem Go.ineg (X : Stand p l e R s m args below meth c T locs cells slots) (hx : p.tables.exec = Jvm.exec) {x : Int32} (hd : decode c.code pc = .ok (.ineg, 1))  (h : Go p e below F Q T (mkF m (pc + 1) Ls (.int (-x) :: S))) : Go p e below F Q T (mkF m pc Ls (.int x :: S)) := h.st fun _ k => XS.ineg X.here hx rfl hd rfl k
theorem Go.ladd (X : Stand p l e R s m args below meth c T locs cells slots) (hx : p.tables.exec = Jvm.exec) {x y : Int64} (hd : decode c.code pc = .ok (.ladd, 1))  (h : Go p e below F Q T (mkF m (pc + 1) Ls (.long (x + y) :: S))) : Go p e below F Q T (mkF m pc Ls (.long y :: .long x :: S)) := h.st fun _ k => XS.ladd X.here hx rfl hd rfl k
theorem Go.lsub (X : Stand p l e R s m args below meth c T locs cells slots) (hx : p.tables.exec = Jvm.exec) {x y : Int64} (hd : decode c.code pc = .ok (.lsub, 1))  (h : Go p e below F Q T (mkF m (pc + 1) Ls (.long (x - y) :: S))) : Go p e below F Q T (mkF m pc Ls (.long y :: .long x :: S)) := h.st fun _ k => XS.lsub X.here hx rfl hd rfl k
theorem Go.lmul (X : Stand p l e R s m args below meth c T locs cells slots) (hx : p.tables.exec = Jvm.exec) {x y : Int64} (hd : decode c.code pc = .ok (.lmul, 1))  (h : Go p e below F Q T (mkF m (pc + 1) Ls (.long (x * y) :: S))) : Go p e below F Q T (mkF m pc Ls (.long y :: .long x :: S)) := h.st fun _ k => XS.lmul X.here hx rfl hd rfl k
theorem Go.land (X : Stand p l e R s m args below meth c T locs cells slots) (hx : p.tables.exec = Jvm.exec) {x y : Int64} (hd : decode c.code pc = .ok (.land, 1))  (h : Go p e below F Q T (mkF m (pc + 1) Ls (.long (x &&& y) :: S))) : Go p e below F Q T (mkF m pc Ls (.long y :: .long x :: S)) := h.st fun _ k => XS.land X.here hx rfl hd rfl k
theorem Go.lor (X : Stand p l e R s m args below meth c T locs cells slots) (hx : p.tables.exec = Jvm.exec) {x y : Int64} (hd : decode c.code pc = .ok (.lor, 1))  (h : Go p e below F Q T (mkF m (pc + 1) Ls (.long (x ||| y) :: S))) : Go p e below F Q T (mkF m pc Ls (.long y :: .long x :: S)) := h.st fun _ k => XS.lor X.here hx rfl hd rfl k
theorem Go.lxor (X : Stand p l e R s m args below meth c T locs cells slots) (hx : p.tables.exec = Jvm.exec) {x y : Int64} (hd : decode c.code pc = .ok (.lxor, 1))  (h : Go p e below F Q T (mkF m (pc + 1) Ls (.long (x ^^^ y) :: S))) : Go p e below F Q T (mkF m pc Ls (.long y :: .long x :: S)) := h.st fun _ k => XS.lxor X.here hx rfl hd rfl k
theorem Go.ldiv (X : Stand p l e R s m args below meth c T locs cells slots) (hx : p.tables.exec = Jvm.exec) {x y : Int64} (hd : decode c.code pc = .ok (.ldiv, 1)) (hy : y ≠ 0) (h : Go p e below F Q T (mkF m (pc + 1) Ls (.long (x / y) :: S))) : Go p e below F Q T (mkF m pc Ls (.long y :: .long x :: S)) := h.st fun _ k => XS.ldiv X.here hx rfl hd rfl hy k
theorem Go.lneg (X : Stand p l e R s m args below meth c T locs cells slots) (hx : p.tables.exec = Jvm.exec) {x : Int64} (hd : decode c.code pc = .ok (.lneg, 1))  (h : Go p e below F Q T (mkF m (pc + 1) Ls (.long (-x) :: S))) : Go p e below F Q T (mkF m pc Ls (.long x :: S)) := h.st fun _ k => XS.lneg X.here hx rfl hd rfl k
theorem Go.irem (X : Stand p l e R s m args below meth c T locs cells slots) (hx : p.tables.exec = Jvm.exec) {x y : Int32} (hd : decode c.code pc = .ok (.irem, 1)) (hy : y ≠ 0) (h : Go p e below F Q T (mkF m (pc + 1) Ls (.int (x % y) :: S))) : Go p e below F Q T (mkF m pc Ls (.int y :: .int x :: S)) := h.st fun _ k => Jvm.RoadKit.iremM X hx rfl hd rfl hy k
theorem Go.lrem (X : Stand p l e R s m args below meth c T locs cells slots) (hx : p.tables.exec = Jvm.exec) {x y : Int64} (hd : decode c.code pc = .ok (.lrem, 1)) (hy : y ≠ 0) (h : Go p e below F Q T (mkF m (pc + 1) Ls (.long (x % y) :: S))) : Go p e below F Q T (mkF m pc Ls (.long y :: .long x :: S)) := h.st fun _ k => XS.lrem X.here hx rfl hd rfl hy (by rw [lrem_mod]; exact k)
theorem Go.ishl (X : Stand p l e R s m args below meth c T locs cells slots) (hx : p.tables.exec = Jvm.exec) {x : Int32} {y : Int32} (hd : decode c.code pc = .ok (.ishl, 1))  (h : Go p e below F Q T (mkF m (pc + 1) Ls (.int (x <<< (y &&& 31)) :: S))) : Go p e below F Q T (mkF m pc Ls (.int y :: .int x :: S)) := h.st fun _ k => XS.ishl X.here hx rfl hd rfl k
theorem Go.ishr (X : Stand p l e R s m args below meth c T locs cells slots) (hx : p.tables.exec = Jvm.exec) {x : Int32} {y : Int32} (hd : decode c.code pc = .ok (.ishr, 1))  (h : Go p e below F Q T (mkF m (pc + 1) Ls (.int (x >>> (y &&& 31)) :: S))) : Go p e below F Q T (mkF m pc Ls (.int y :: .int x :: S)) := h.st fun _ k => XS.ishr X.here hx rfl hd rfl k
theorem Go.iushr (X : Stand p l e R s m args below meth c T locs cells slots) (hx : p.tables.exec = Jvm.exec) {x : Int32} {y : Int32} (hd : decode c.code pc = .ok (.iushr, 1))  (h : Go p e below F Q T (mkF m (pc + 1) Ls (.int ((x.toUInt32 >>> (y &&& 31).toUInt32).toInt32) :: S))) : Go p e below F Q T (mkF m pc Ls (.int y :: .int x :: S)) := h.st fun _ k => XS.iushr X.here hx rfl hd rfl k
theorem Go.lshl (X : Stand p l e R s m args below meth c T locs cells slots) (hx : p.tables.exec = Jvm.exec) {x : Int64} {y : Int32} (hd : decode c.code pc = .ok (.lshl, 1))  (h : Go p e below F Q T (mkF m (pc + 1) Ls (.long (x <<< (y &&& 0x3f).toInt64) :: S))) : Go p e below F Q T (mkF m pc Ls (.int y :: .long x :: S)) := h.st fun _ k => XS.lshl X.here hx rfl hd rfl k
theorem Go.lshr (X : Stand p l e R s m args below meth c T locs cells slots) (hx : p.tables.exec = Jvm.exec) {x : Int64} {y : Int32} (hd : decode c.code pc = .ok (.lshr, 1))  (h : Go p e below F Q T (mkF m (pc + 1) Ls (.long (x >>> (y &&& 0x3f).toInt64) :: S))) : Go p e below F Q T (mkF m pc Ls (.int y :: .long x :: S)) := h.st fun _ k => XS.lshr X.here hx rfl hd rfl k
theorem Go.lushr (X : Stand p l e R s m args below meth c T locs cells slots) (hx : p.tables.exec = Jvm.exec) {x : Int64} {y : Int32} (hd : decode c.code pc = .ok (.lushr, 1))  (h : Go p e below F Q T (mkF m (pc + 1) Ls (.long ((x.toUInt64 >>> (y &&& 0x3f).toInt64.toUInt64).toInt64) :: S))) : Go p e below F Q T (mkF m pc Ls (.int y :: .long x :: S)) := h.st fun _ k => XS.lushr X.here hx rfl hd rfl k
theorem Go.i2l (X : Stand p l e R s m args below meth c T locs cells slots) (hx : p.tables.exec = Jvm.exec) {x : Int32} (hd : decode c.code pc = .ok (.i2l, 1))  (h : Go p e below F Q T (mkF m (pc + 1) Ls (.long (x.toInt64) :: S))) : Go p e below F Q T (mkF m pc Ls (.int x :: S)) := h.st fun _ k => XS.i2l X.here hx rfl hd rfl k
theorem Go.l2i (X : Stand p l e R s m args below meth c T locs cells slots) (hx : p.tables.exec = Jvm.exec) {x : Int64} (hd : decode c.code pc = .ok (.l2i, 1))  (h : Go p e below F Q T (mkF m (pc + 1) Ls (.int (x.toInt32) :: S))) : Go p e below F Q T (mkF m pc Ls (.long x :: S)) := h.st fun _ k => XS.l2i X.here hx rfl hd rfl k
theorem Go.i2b (X : Stand p l e R s m args below meth c T locs cells slots) (hx : p.tables.exec = Jvm.exec) {x : Int32} (hd : decode c.code pc = .ok (.i2b, 1))  (h : Go p e below F Q T (mkF m (pc + 1) Ls (.int (x.toInt8.toInt32) :: S))) : Go p e below F Q T (mkF m pc Ls (.int x :: S)) := h.st fun _ k => XS.i2b X.here hx rfl hd rfl k
theorem Go.i2s (X : Stand p l e R s m args below meth c T locs cells slots) (hx : p.tables.exec = Jvm.exec) {x : Int32} (hd : decode c.code pc = .ok (.i2s, 1))  (h : Go p e below F Q T (mkF m (pc + 1) Ls (.int (x.toInt16.toInt32) :: S))) : Go p e below F Q T (mkF m pc Ls (.int x :: S)) := h.st fun _ k => XS.i2s X.here hx rfl hd rfl k
theorem Go.i2c (X : Stand p l e R s m args below meth c T locs cells slots) (hx : p.tables.exec = Jvm.exec) {x : Int32} (hd : decode c.code pc = .ok (.i2c, 1))  (h : Go p e below F Q T (mkF m (pc + 1) Ls (.int (x.toUInt32.toUInt16.toUInt32.toInt32) :: S))) : Go p e below F Q T (mkF m pc Ls (.int x :: S)) := h.st fun _ k => XS.i2c X.here hx rfl hd rfl k
theorem Go.lcmp (X : Stand p l e R s m args below meth c T locs cells slots) (hx : p.tables.exec = Jvm.exec) {x y : Int64} (hd : decode c.code pc = .ok (.lcmp, 1))  (h : Go p e below F Q T (mkF m (pc + 1) Ls (.int (XT.cmpL x y) :: S))) : Go p e below F Q T (mkF m pc Ls (.long y :: .long x :: S)) := h.st fun _ k => XT.lcmp X.here hx rfl hd rfl k
theorem Go.dup (X : Stand p l e R s m args below meth c T locs cells slots) (hx : p.tables.exec = Jvm.exec) {x : Value} (hd : decode c.code pc = .ok (.dup, 1)) (hc : x.category = 1) (h : Go p e below F Q T (mkF m (pc + 1) Ls (x :: x :: S))) : Go p e below F Q T (mkF m pc Ls (x :: S)) := h.st fun _ k => XS.dup X.here hx rfl hd rfl hc k
theorem Go.pop (X : Stand p l e R s m args below meth c T locs cells slots) (hx : p.tables.exec = Jvm.exec) {x : Value} (hd : decode c.code pc = .ok (.pop, 1)) (hc : x.category = 1) (h : Go p e below F Q T (mkF m (pc + 1) Ls S)) : Go p e below F Q T (mkF m pc Ls (x :: S)) := h.st fun _ k => XS.pop X.here hx rfl hd rfl hc k
theorem Go.dupX1 (X : Stand p l e R s m args below meth c T locs cells slots) (hx : p.tables.exec = Jvm.exec) {x y : Value} (hd : decode c.code pc = .ok (.dup_x1, 1)) (hc : x.category = 1) (hc' : y.category = 1) (h : Go p e below F Q T (mkF m (pc + 1) Ls (x :: y :: x :: S))) : Go p e below F Q T (mkF m pc Ls (x :: y :: S)) := h.st fun _ k => XS.dupX1 X.here hx rfl hd rfl hc hc' k
theorem Go.iinc (X : Stand p l e R s m args below meth c T locs cells slots) (hx : p.tables.exec = Jvm.exec) {k : Nat} {cst : Int} {x : Int32} {l' : Array Slot} (v : Int32) (hd : decode c.code pc = .ok (.iinc k cst, 3)) (hv : Int32.ofInt cst = v) (hl : Ls[k]? = some (.val (.int x))) (hl' : storeLocals Ls k (.int (x + v)) = some l') (h : Go p e below F Q T (mkF m (pc + 3) l' S)) : Go p e below F Q T (mkF m pc Ls S) := h.st fun _ k => XT.iincV X.here hx rfl v hd hv hl hl' k
theorem Go.iincF (X : Stand p l e R s m args below meth c T locs cells slots) (hx : p.tables.exec = Jvm.exec) {k : Nat} {cst : Int} {x : Int32} {l' : Array Slot} (v z : Int32) (hd : decode c.code pc = .ok (.iinc k cst, 3)) (hv : Int32.ofInt cst = v) (hz : x + v = z) (hl : Ls[k]? = some (.val (.int x))) (hl' : storeLocals Ls k (.int z) = some l') (h : Go p e below F Q T (mkF m (pc + 3) l' S)) : Go p e below F Q T (mkF m pc Ls S) := Go.iinc X hx v hd hv hl (hz ▸ hl') h
theorem Go.istoreS (X : Stand p l e R s m args below meth c T locs cells slots) (hx : p.tables.exec = Jvm.exec) {k : Nat} {x : Int32} {o : Slot} (hd : decode c.code pc = .ok (.istore k, 2)) (hold : Ls[k]? = some o) (ho : One o) (h : Go p e below F Q T (mkF m (pc + 2) (Ls.setIfInBounds k (.val (.int x))) S)) : Go p e below F Q T (mkF m pc Ls (.int x :: S)) := h.st fun _ q => XS.istoreS X.here hx rfl hd rfl hold ho q
theorem Go.istoreNS (X : Stand p l e R s m args below meth c T locs cells slots) (hx : p.tables.exec = Jvm.exec) {k : Fin 4} {x : Int32} {o : Slot} (hd : decode c.code pc = .ok (.istore_n k, 1)) (hold : Ls[k.val]? = some o) (ho : One o) (h : Go p e below F Q T (mkF m (pc + 1) (Ls.setIfInBounds k.val (.val (.int x))) S)) : Go p e below F Q T (mkF m pc Ls (.int x :: S)) := h.st fun _ q => XS.istoreNS X.here hx rfl hd rfl hold ho q
theorem Go.goto (X : Stand p l e R s m args below meth c T locs cells slots) (hx : p.tables.exec = Jvm.exec) {o : Int} {pc' : Nat} (hd : decode c.code pc = .ok (.goto o, 3)) (ho : 0 ≤ (pc : Int) + o) (hp : ((pc : Int) + o).toNat = pc') (h : Go p e below F Q T (mkF m pc' Ls S)) : Go p e below F Q T (mkF m pc Ls S) := h.st fun _ k => XS.goto X.here hx rfl rfl hd ho hp k
theorem Go.ifYes (X : Stand p l e R s m args below meth c T locs cells slots) (hx : p.tables.exec = Jvm.exec) {cd : ClassFile.Cond} {x : Int32} {o : Int} {pc' : Nat} (hd : decode c.code pc = .ok (.ifCond cd o, 3)) (hc : ifCond.holds cd x = true) (ho : 0 ≤ (pc : Int) + o) (hp : ((pc : Int) + o).toNat = pc') (h : Go p e below F Q T (mkF m pc' Ls S)) : Go p e below F Q T (mkF m pc Ls (.int x :: S)) := h.st fun _ k => XS.ifYes X.here hx rfl rfl hd rfl hc ho hp k
theorem Go.ifNo (X : Stand p l e R s m args below meth c T locs cells slots) (hx : p.tables.exec = Jvm.exec) {cd : ClassFile.Cond} {x : Int32} {o : Int} (hd : decode c.code pc = .ok (.ifCond cd o, 3)) (hc : ifCond.holds cd x = false) (h : Go p e below F Q T (mkF m (pc + 3) Ls S)) : Go p e below F Q T (mkF m pc Ls (.int x :: S)) := h.st fun _ k => XS.ifNo X.here hx rfl hd rfl hc k
theorem Go.icmpYes (X : Stand p l e R s m args below meth c T locs cells slots) (hx : p.tables.exec = Jvm.exec) {cd : ClassFile.Cond} {x y : Int32} {o : Int} {pc' : Nat} (hd : decode c.code pc = .ok (.if_icmp cd o, 3)) (hc : if_icmp.holds cd x y = true) (ho : 0 ≤ (pc : Int) + o) (hp : ((pc : Int) + o).toNat = pc') (h : Go p e below F Q T (mkF m pc' Ls S)) : Go p e below F Q T (mkF m pc Ls (.int y :: .int x :: S)) := h.st fun _ k => XS.icmpYes X.here hx rfl rfl hd rfl hc ho hp k
theorem Go.icmpNo (X : Stand p l e R s m args below meth c T locs cells slots) (hx : p.tables.exec = Jvm.exec) {cd : ClassFile.Cond} {x y : Int32} {o : Int} (hd : decode c.code pc = .ok (.if_icmp cd o, 3)) (hc : if_icmp.holds cd x y = false) (h : Go p e below F Q T (mkF m (pc + 3) Ls S)) : Go p e below F Q T (mkF m pc Ls (.int y :: .int x :: S)) := h.st fun _ k => XS.icmpNo X.here hx rfl hd rfl hc k
theorem Go.ifnullYes (X : Stand p l e R s m args below meth c T locs cells slots) (hx : p.tables.exec = Jvm.exec) {o : Int} {pc' : Nat} (hd : decode c.code pc = .ok (.ifnull o, 3)) (ho : 0 ≤ (pc : Int) + o) (hp : ((pc : Int) + o).toNat = pc') (h : Go p e below F Q T (mkF m pc' Ls S)) : Go p e below F Q T (mkF m pc Ls (.null :: S)) := h.st fun _ k => XS.ifnullYes X.here hx rfl rfl hd rfl ho hp k
theorem Go.ifnullNo (X : Stand p l e R s m args below meth c T locs cells slots) (hx : p.tables.exec = Jvm.exec) {o : Int} {b : Addr} (hd : decode c.code pc = .ok (.ifnull o, 3)) (h : Go p e below F Q T (mkF m (pc + 3) Ls S)) : Go p e below F Q T (mkF m pc Ls (.ref b :: S)) := h.st fun _ k => XS.ifnullNo X.here hx rfl hd rfl k
theorem Go.ifnonnullYes (X : Stand p l e R s m args below meth c T locs cells slots) (hx : p.tables.exec = Jvm.exec) {o : Int} {b : Addr} {pc' : Nat} (hd : decode c.code pc = .ok (.ifnonnull o, 3)) (ho : 0 ≤ (pc : Int) + o) (hp : ((pc : Int) + o).toNat = pc') (h : Go p e below F Q T (mkF m pc' Ls S)) : Go p e below F Q T (mkF m pc Ls (.ref b :: S)) := h.st fun _ k => XS.ifnonnullYes X.here hx rfl rfl hd rfl ho hp k
theorem Go.ifnonnullNo (X : Stand p l e R s m args below meth c T locs cells slots) (hx : p.tables.exec = Jvm.exec) {o : Int} (hd : decode c.code pc = .ok (.ifnonnull o, 3)) (h : Go p e below F Q T (mkF m (pc + 3) Ls S)) : Go p e below F Q T (mkF m pc Ls (.null :: S)) := h.st fun _ k => XS.ifnonnullNo X.here hx rfl hd rfl k
theorem Go.acmpYes (X : Stand p l e R s m args below meth c T locs cells slots) (hx : p.tables.exec = Jvm.exec) {cd : ClassFile.ACond} {x y : Value} {o : Int} {pc' : Nat} (hd : decode c.code pc = .ok (.if_acmp cd o, 3)) (hx' : x.isRef = true) (hy' : y.isRef = true) (hc : XT.acmp cd x y = true) (ho : 0 ≤ (pc : Int) + o) (hp : ((pc : Int) + o).toNat = pc') (h : Go p e below F Q T (mkF m pc' Ls S)) : Go p e below F Q T (mkF m pc Ls (y :: x :: S)) := h.st fun _ k => XT.acmpYes X.here hx rfl rfl hd rfl hx' hy' hc ho hp k
theorem Go.acmpNo (X : Stand p l e R s m args below meth c T locs cells slots) (hx : p.tables.exec = Jvm.exec) {cd : ClassFile.ACond} {x y : Value} {o : Int} (hd : decode c.code pc = .ok (.if_acmp cd o, 3)) (hx' : x.isRef = true) (hy' : y.isRef = true) (hc : XT.acmp cd x y = false) (h : Go p e below F Q T (mkF m (pc + 3) Ls S)) : Go p e below F Q T (mkF m pc Ls (y :: x :: S)) := h.st fun _ k => XT.acmpNo X.here hx rfl hd rfl hx' hy' hc k
theorem Go.ldcI (X : Stand p l e R s m args below meth c T locs cells slots) (hx : p.tables.exec = Jvm.exec) (hZ : Z.Warmed39 s.vm) {index : Nat} {v : Int32} (hown : s.vm.findClass own = some m.cls) (w : (Jvm.Cond.constant own index v).before a0 Z = true) (hd : decode c.code pc = .ok (.ldc index, 2)) (h : Go p e below F Q T (mkF m (pc + 2) Ls (.int v :: S))) : Go p e below F Q T (mkF m pc Ls S) := h.st fun _ k => Jvm.Stand.ldcI X hx hown (mvT hZ w) rfl hd k
theorem Go.ldcWI (X : Stand p l e R s m args below meth c T locs cells slots) (hx : p.tables.exec = Jvm.exec) (hZ : Z.Warmed39 s.vm) {index : Nat} {v : Int32} (hown : s.vm.findClass own = some m.cls) (w : (Jvm.Cond.constant own index v).before a0 Z = true) (hd : decode c.code pc = .ok (.ldc_w index, 3)) (h : Go p e below F Q T (mkF m (pc + 3) Ls (.int v :: S))) : Go p e below F Q T (mkF m pc Ls S) := h.st fun _ k => Jvm.Stand.ldcWI X hx hown (mvT hZ w) rfl hd k
theorem Go.ldc2J (X : Stand p l e R s m args below meth c T locs cells slots) (hx : p.tables.exec = Jvm.exec) (hZ : Z.Warmed39 s.vm) {index : Nat} {v : Int64} (hown : s.vm.findClass own = some m.cls) (w : (Jvm.Cond.constantLong own index v).before a0 Z = true) (hd : decode c.code pc = .ok (.ldc2_w index, 3)) (h : Go p e below F Q T (mkF m (pc + 3) Ls (.long v :: S))) : Go p e below F Q T (mkF m pc Ls S) := h.st fun _ k => Jvm.Stand.ldc2J X hx hown (mvT hZ w) rfl hd k
theorem Go.retN (X : Stand p l e R s m args below meth c T locs cells slots) (hx : p.tables.exec = Jvm.exec) {t : FieldType} {z : Int32} (hret : meth.sig.returnType = some t) (hlk : meth.locks = false) (ht : t = .boolean ∨ t = .byte ∨ t = .char ∨ t = .short) (hd : decode c.code pc = .ok (.ireturn, 1)) (hC : cells ≤ C) (hN : slots ≤ N) (hQ : Q (some (.int (nar t z))) T.heap locs) : Go p e below (FE s C N) Q T (mkF m pc Ls (.int z :: S)) := by
  obtain ⟨fs, hr, hrun, hended, hW, hsame⟩ := X.leave (v := some (.int (nar t z))) (fun h => by rw [hret] at h; cases h) hlk
  exact ⟨_, _, Jvm.RoadKit.retN X hx hret ht hd hr, hrun, hended, _, _, rfl, hQ, ⟨_, rfl⟩, hW, hsame.mono hC hN⟩
theorem Go.retI (X : Stand p l e R s m args below meth c T locs cells slots) (hx : p.tables.exec = Jvm.exec) {z : Int32} (hret : meth.sig.returnType = some .int) (hlk : meth.locks = false) (hd : decode c.code pc = .ok (.ireturn, 1)) (hC : cells ≤ C) (hN : slots ≤ N) (hQ : Q (some (.int z)) T.heap locs) : Go p e below (FE s C N) Q T (mkF m pc Ls (.int z :: S)) := by
  obtain ⟨fs, hr, hrun, hended, hW, hsame⟩ := X.leave (v := some (.int z)) (fun h => by rw [hret] at h; cases h) hlk
  exact ⟨_, _, retOut X hx hret rfl (Or.inl ⟨rfl, Or.inl rfl, _, rfl⟩) hd hr, hrun, hended, _, _, rfl, hQ, ⟨_, rfl⟩, hW, hsame.mono hC hN⟩
theorem Go.retJ (X : Stand p l e R s m args below meth c T locs cells slots) (hx : p.tables.exec = Jvm.exec) {z : Int64} (hret : meth.sig.returnType = some .long) (hlk : meth.locks = false) (hd : decode c.code pc = .ok (.lreturn, 1)) (hC : cells ≤ C) (hN : slots ≤ N) (hQ : Q (some (.long z)) T.heap locs) : Go p e below (FE s C N) Q T (mkF m pc Ls (.long z :: S)) := by
  obtain ⟨fs, hr, hrun, hended, hW, hsame⟩ := X.leave (v := some (.long z)) (fun h => by rw [hret] at h; cases h) hlk
  exact ⟨_, _, retOut X hx hret rfl (Or.inr (Or.inl ⟨rfl, rfl, _, rfl⟩)) hd hr, hrun, hended, _, _, rfl, hQ, ⟨_, rfl⟩, hW, hsame.mono hC hN⟩
theorem Go.retA (X : Stand p l e R s m args below meth c T locs cells slots) (hx : p.tables.exec = Jvm.exec) {w : Value} {t : FieldType} (hret : meth.sig.returnType = some t) (hlk : meth.locks = false) (ht : t.isReference = true) (hw : w.isRef = true) (hn : narrow t w = w) (hd : decode c.code pc = .ok (.areturn, 1)) (hC : cells ≤ C) (hN : slots ≤ N) (hQ : Q (some w) T.heap locs) : Go p e below (FE s C N) Q T (mkF m pc Ls (w :: S)) := by
  obtain ⟨fs, hr, hrun, hended, hW, hsame⟩ := X.leave (v := some w) (fun h => by rw [hret] at h; cases h) hlk
  exact ⟨_, _, retOut X hx hret hn (Or.inr (Or.inr (Or.inr (Or.inr ⟨rfl, ht, hw⟩)))) hd hr, hrun, hended, _, _, rfl, hQ, ⟨_, rfl⟩, hW, hsame.mono hC hN⟩
theorem Go.retV (X : Stand p l e R s m args below meth c T locs cells slots) (hx : p.tables.exec = Jvm.exec) (hret : meth.sig.returnType = none) (hlk : meth.locks = false) (hd : decode c.code pc = .ok (.return_, 1)) (hC : cells ≤ C) (hN : slots ≤ N) (hQ : Q none T.heap locs) : Go p e below (FE s C N) Q T (mkF m pc Ls []) := by
  obtain ⟨fs, hr, hrun, hended, hW, hsame⟩ := X.leave (v := none) (fun _ => rfl) hlk
  exact ⟨_, _, X.returnOut hx hret hd hr, hrun, hended, _, _, rfl, hQ, ⟨_, rfl⟩, hW, hsame.mono hC hN⟩
theorem Go.getF (X : Stand p l e R s m args below meth c T locs cells slots) (hx : p.tables.exec = Jvm.exec) (hZ : Z.Warmed39 s.vm) {R0 O n d host : String} {index : Nat} (hown : s.vm.findClass own = some m.cls) (w : (Jvm.Cond.fieldLink own index R0 n d).before a0 Z = true ∨ (Jvm.Cond.fieldLinkNest own index R0 n d host).before a0 Z = true) (via : Via Z R0 O n d) (eT : T.heap = h) {a : Addr} {v : Value} (Fl : Fld Z h a O n d v) (hd : decode c.code pc = .ok (.getfield index, 3)) (k : ∀ T', Stand p l e R s m args below meth c T' locs cells slots → T'.heap = h → Go p e below F Q T' (mkF m (pc + 3) Ls (v :: S))) : Go p e below F Q T (mkF m pc Ls (.ref a :: S)) := by
  obtain ⟨T', X', e', st⟩ := Jvm.RoadKit.getF X hx hZ hown w via eT Fl (g := mkF m pc Ls (.ref a :: S)) rfl rfl hd
  exact (k T' X' e').st st
theorem Go.getS (X : Stand p l e R s m args below meth c T locs cells slots) (hx : p.tables.exec = Jvm.exec) (hZ : Z.Warmed39 s.vm) {R0 O n d host : String} {index : Nat} (hown : s.vm.findClass own = some m.cls) (w : (Jvm.Cond.fieldLink own index R0 n d).before a0 Z = true ∨ (Jvm.Cond.fieldLinkNest own index R0 n d host).before a0 Z = true) (via : Via Z R0 O n d) (eT : T.heap = h) {v : Value} (Fl : Sta Z h O n d v) (hd : decode c.code pc = .ok (.getstatic index, 3)) (k : ∀ T', Stand p l e R s m args below meth c T' locs cells slots → T'.heap = h → Go p e below F Q T' (mkF m (pc + 3) Ls (v :: S))) : Go p e below F Q T (mkF m pc Ls S) := by
  obtain ⟨T', X', e', st⟩ := getS2 X hx hZ hown w via eT Fl (g := mkF m pc Ls S) rfl hd
  exact (k T' X' e').st st
theorem Go.putF (X : Stand p l e R s m args below meth c T locs cells slots) (hx : p.tables.exec = Jvm.exec) (hZ : Z.Warmed39 s.vm) {R0 O n d host K : String} {index kk : Nat} {ty : FieldType} (hown : s.vm.findClass own = some m.cls) (w : (Jvm.Cond.fieldLink own index R0 n d).before a0 Z = true ∨ (Jvm.Cond.fieldLinkNest own index R0 n d host).before a0 Z = true) (via : Via Z R0 O n d) (eT : T.heap = h) {a : Addr} {v old : Value} (Fl : Fld Z h a O n d old) (E : Exa Z h a K) (L : (Jvm.Cond.lays K O n d).before a0 Z = true ∨ ((Jvm.Cond.laysFinal K O n d).before a0 Z = true ∧ own = O ∧ meth.name = "<init>")) (wi : (Jvm.Cond.instantiable K kk).before a0 Z = true) (hty : parseFieldDescriptor d = some ty) (hn : narrow ty v = v) (hf : fits ty v = true) (hd : decode c.code pc = .ok (.putfield index, 3)) (k : ∀ T' h', Stand p l e R s m args below meth c T' (locs ++ [⟨a, Jvm.RoadKit.slotOf Z O n d⟩]) cells slots → T'.heap = h' → Wr h h' a (Jvm.RoadKit.slotOf Z O n d) v → Go p e below F Q T' (mkF m (pc + 3) Ls S)) : Go p e below F Q T (mkF m pc Ls (v :: .ref a :: S)) := by
  obtain ⟨T', h', X', e', W', st⟩ := Jvm.RoadKit.putF X hx hZ hown w via eT Fl E L wi hty hn hf (g := mkF m pc Ls (v :: .ref a :: S)) rfl rfl hd
  exact (k T' h' X' e' W').st st
theorem Go.newO (X : Stand p l e R s m args below meth c T locs cells slots) (hx : p.tables.exec = Jvm.exec) (hZ : Z.Warmed39 s.vm) {K : String} {index n : Nat} (hown : s.vm.findClass own = some m.cls) (w : (Jvm.Cond.classLink own index K).before a0 Z = true) (wi : (Jvm.Cond.instantiable K n).before a0 Z = true) (wz : (Jvm.Cond.initialized K).before a0 Z = true) (eT : T.heap = h) (hd : decode c.code pc = .ok (.new index, 3)) (hc : cells + 1 ≤ R.cells) (hl : slots + n ≤ R.slots) (k : ∀ T' h' a, a = h.size → Stand p l e R s m args below meth c T' locs (cells + 1) (slots + n) → T'.heap = h' → Ext h h' → Exa Z h' a K → (∀ {O nm d : String} {ty : FieldType}, Laid Z a0 K O nm d → parseFieldDescriptor d = some ty → Fld Z h' a O nm d (defaultValue ty)) → Go p e below F Q T' (mkF m (pc + 3) Ls (.ref a :: S))) : Go p e below F Q T (mkF m pc Ls S) := by
  obtain ⟨T', h', X', e', E', A', D', -, st⟩ := Jvm.RoadKit.newO X hx hZ hown w wi wz eT (g := mkF m pc Ls S) rfl hd hc hl
  exact (k T' h' _ rfl X' e' E' A' D').st st
theorem Go.initO (X : Stand p l e R s m args below meth c T locs cells slots) (hx : p.tables.exec = Jvm.exec) (hZ : Z.Warmed39 s.vm) {idx : Nat} (hown : s.vm.findClass own = some m.cls) (w1 : (Jvm.Cond.methodLink own idx Lib.objectInit).before a0 Z = true) (w2 : (Jvm.Cond.instanceMethod Lib.objectInit).before a0 Z = true) (w3 : (Jvm.Cond.code Lib.objectInit ⟨#[0xb1]⟩ 1 none).before a0 Z = true) (eT : T.heap = h) (hsize : Ls.size = c.maxLocals) {a : Addr} (hd : decode c.code pc = .ok (.invokespecial idx, 3)) (hf : 1 ≤ R.frames) {W : Nat} (hW : (S.map fun v => v.category).sum ≤ W) (hl : W + 12 ≤ R.locals) (k : ∀ T', Stand p l e R s m args below meth c T' locs cells slots → T'.heap = h → Go p e below F Q T' (mkF m (pc + 3) Ls S)) : Go p e below F Q T (mkF m pc Ls (.ref a :: S)) := by
  obtain ⟨T', X', e', st⟩ := Jvm.RoadKit.initO X hx hZ hown w1 w2 w3 eT (g := mkF m pc Ls (.ref a :: S)) rfl hsize rfl hd hf (W := W) (by show 2 * 0 + _ ≤ _; omega) hl
  exact (k T' X' e').st st
theorem Go.callS (X : Stand p l e R s m args below meth c T locs cells slots) (hx : p.tables.exec = Jvm.exec) (hZ : Z.Warmed39 s.vm) {index : Nat} {y : MethodName} {bytes : ByteArray} {maxL : Nat} {ret : Option FieldType} {rm : Room} {as' : Array Value} {Qy : Option Value → Heap → List Loc → Prop} (hM : MetFree l y (head1 [Jvm.Cond.code y bytes maxL ret] rm) (fun a U => a = as' ∧ Z.Warmed39 U.vm ∧ U.heap = h) (fun _ _ _ _ _ => True) (fun _ U o U' => ∃ v L, o = .returned v ∧ Qy v U'.heap L ∧ FrameEnd U o U' L rm.cells rm.slots)) (hown : s.vm.findClass own = some m.cls) (wl : (Jvm.Cond.methodLink own index y).before a0 Z = true) (ws : (Jvm.Cond.static y).before a0 Z = true) (wi : (Jvm.Cond.initialized y.cls).before a0 Z = true) (wc : (Jvm.Cond.code y bytes maxL ret).before a0 Z = true) (hy : y.cls ≠ "java/lang/invoke/MethodHandle" ∧ y.cls ≠ "java/lang/invoke/VarHandle") (eT : T.heap = h) {W : Nat} (hsize : Ls.size = c.maxLocals) {argsL : List Value} (hW : (S.map fun v => v.category).sum ≤ W) (hf : rm.frames + 1 ≤ R.frames) (hl : W + (maxL + 11) + rm.locals ≤ R.locals) (hc : cells + rm.cells ≤ R.cells) (hs : slots + rm.slots ≤ R.slots) {ps : List FieldType} {r : Option FieldType} (hds : parseMethodDescriptor y.desc = some ⟨ps, r⟩) (hlen : argsL.length = ps.length) (has : argsL.toArray = as') (hd : decode c.code pc = .ok (.invokestatic index, 3)) (k : ∀ v T' L, Stand p l e R s m args below meth c T' (locs ++ L) (cells + rm.cells) (slots + rm.slots) → Qy v T'.heap L → Go p e below F Q T' (mkF m (pc + 3) Ls (v.toList ++ S))) : Go p e below F Q T (mkF m pc Ls (argsL.reverse ++ S)) := by
  obtain ⟨_, _, ⟨T', L', k', n'⟩, -, X', ⟨L, hq, e1, e2, e3⟩, st⟩ := Jvm.LawKit.callS X hx hown (mvT hZ wl) (mvT hZ ws) (mvT hZ wi) (mvT hZ wc) hy (backOf (W := W) hM hZ wc wi hf hl) (g := mkF m pc Ls (argsL.reverse ++ S)) rfl hsize (argsL := argsL) (rest := S) (lenOf hds hlen) rfl (by show 2 * 0 + _ ≤ _; omega) hd (fun _ _ => ⟨has, eT, hc, hs⟩)
  dsimp only [Pt.U, Pt.locs, Pt.cells, Pt.slots] at X' e1 e2 e3 st hq
  subst e1 e2 e3
  exact (k _ _ _ X' hq).st st
theorem Go.callI (X : Stand p l e R s m args below meth c T locs cells slots) (hx : p.tables.exec = Jvm.exec) (hZ : Z.Warmed39 s.vm) {index : Nat} {y : MethodName} {bytes : ByteArray} {maxL : Nat} {rm : Room} {as' : Array Value} {Qy : Option Value → Heap → List Loc → Prop} (hM : MetFree l y (head1 [Jvm.Cond.code y bytes maxL none] rm) (fun a U => a = as' ∧ Z.Warmed39 U.vm ∧ U.heap = h) (fun _ _ _ _ _ => True) (fun _ U o U' => ∃ v L, o = .returned v ∧ Qy v U'.heap L ∧ FrameEnd U o U' L rm.cells rm.slots)) (hy1 : y.name = "<init>") (hown : s.vm.findClass own = some m.cls) (wl : (Jvm.Cond.methodLink own index y).before a0 Z = true) (ws : (Jvm.Cond.instanceMethod y).before a0 Z = true) (wi : (Jvm.Cond.initialized y.cls).before a0 Z = true) (wc : (Jvm.Cond.code y bytes maxL none).before a0 Z = true) (hy : y.cls ≠ "java/lang/invoke/MethodHandle" ∧ y.cls ≠ "java/lang/invoke/VarHandle") (eT : T.heap = h) {a : Addr} {W : Nat} (hsize : Ls.size = c.maxLocals) {argsL : List Value} (hW : (S.map fun v => v.category).sum ≤ W) (hf : rm.frames + 1 ≤ R.frames) (hl : W + (maxL + 11) + rm.locals ≤ R.locals) (hc : cells + rm.cells ≤ R.cells) (hs : slots + rm.slots ≤ R.slots) {ps : List FieldType} {r : Option FieldType} (hds : parseMethodDescriptor y.desc = some ⟨ps, r⟩) (hlen : argsL.length = ps.length) (has : (.ref a :: argsL).toArray = as') (hd : decode c.code pc = .ok (.invokespecial index, 3)) (k : ∀ v T' L, Stand p l e R s m args below meth c T' (locs ++ L) (cells + rm.cells) (slots + rm.slots) → Qy v T'.heap L → Go p e below F Q T' (mkF m (pc + 3) Ls (v.toList ++ S))) : Go p e below F Q T (mkF m pc Ls (argsL.reverse ++ .ref a :: S)) := by
  obtain ⟨_, _, ⟨T', L', k', n'⟩, -, X', ⟨L, hq, e1, e2, e3⟩, st⟩ := X.specialBack hx hy1 hown (mvT hZ wl) (mvT hZ ws) (mvT hZ wc) hy (backOf (W := W) hM hZ wc wi hf hl) (g := mkF m pc Ls (argsL.reverse ++ .ref a :: S)) rfl hsize (Steps.refl _) (a := a) (argsL := argsL) (rest := S) (lenOf hds hlen) rfl (by show 2 * 0 + _ ≤ _; omega) hd (fun _ _ => ⟨has, eT, hc, hs⟩)
  dsimp only [Pt.U, Pt.locs, Pt.cells, Pt.slots] at X' e1 e2 e3 st hq
  subst e1 e2 e3
  exact (k _ _ _ X' hq).tr st
theorem Go.callV (X : Stand p l e R s m args below meth c T locs cells slots) (hx : p.tables.exec = Jvm.exec) (hZ : Z.Warmed39 s.vm) {index : Nat} {K : String} {y : MethodName} {bytes : ByteArray} {maxL : Nat} {ret : Option FieldType} {rm : Room} {as' : Array Value} {Qy : Option Value → Heap → List Loc → Prop} (hM : MetFree l y (head1 [Jvm.Cond.code y bytes maxL ret] rm) (fun a U => a = as' ∧ Z.Warmed39 U.vm ∧ U.heap = h) (fun _ _ _ _ _ => True) (fun _ U o U' => ∃ v L, o = .returned v ∧ Qy v U'.heap L ∧ FrameEnd U o U' L rm.cells rm.slots)) {y0 : MethodName} (hy : y0.cls ≠ "java/lang/invoke/MethodHandle" ∧ y0.cls ≠ "java/lang/invoke/VarHandle") (hown : s.vm.findClass own = some m.cls) (wl : (Jvm.Cond.methodLink own index y0).before a0 Z = true) (wd : (Jvm.Cond.declares y0).before a0 Z = true) (hnf : NotFace s y0) (wsel : (Jvm.Cond.selects K y0 y).before a0 Z = true) (ws : (Jvm.Cond.instanceMethod y).before a0 Z = true) (wi : (Jvm.Cond.initialized y.cls).before a0 Z = true) (wc : (Jvm.Cond.code y bytes maxL ret).before a0 Z = true) (eT : T.heap = h) {a : Addr} (E : Exa Z h a K) {W : Nat} (hsize : Ls.size = c.maxLocals) {argsL : List Value} (hW : (S.map fun v => v.category).sum ≤ W) (hf : rm.frames + 1 ≤ R.frames) (hl : W + (maxL + 11) + rm.locals ≤ R.locals) (hc : cells + rm.cells ≤ R.cells) (hs : slots + rm.slots ≤ R.slots) {ps : List FieldType} {r : Option FieldType} (hds : parseMethodDescriptor y0.desc = some ⟨ps, r⟩) (hlen : argsL.length = ps.length) (has : (.ref a :: argsL).toArray = as') (hd : decode c.code pc = .ok (.invokevirtual index, 3)) (k : ∀ v T' L, Stand p l e R s m args below meth c T' (locs ++ L) (cells + rm.cells) (slots + rm.slots) → Qy v T'.heap L → Go p e below F Q T' (mkF m (pc + 3) Ls (v.toList ++ S))) : Go p e below F Q T (mkF m pc Ls (argsL.reverse ++ .ref a :: S)) := by
  obtain ⟨cq, kq, q1, q2, q3⟩ := isOf hZ eT E
  obtain ⟨_, _, ⟨T', L', k', n'⟩, -, X', ⟨L, hq, e1, e2, e3⟩, st⟩ := X.virtualBack hx hown (mvT hZ wl) (mvT hZ wd) hnf (mvT hZ wsel) (mvT hZ ws) hy (backOf (W := W) hM hZ wc wi hf hl) q1 q3 (g := mkF m pc Ls (argsL.reverse ++ .ref a :: S)) rfl hsize (Steps.refl _) (argsL := argsL) (rest := S) (lenOf hds hlen) rfl (by show 2 * 0 + _ ≤ _; omega) hd (fun _ _ => ⟨has, eT, hc, hs⟩)
  dsimp only [Pt.U, Pt.locs, Pt.cells, Pt.slots] at X' e1 e2 e3 st hq
  subst e1 e2 e3
  exact (k _ _ _ X' hq).tr st
theorem Go.instY (X : Stand p l e R s m args below meth c T locs cells slots) (hx : p.tables.exec = Jvm.exec) (hZ : Z.Warmed39 s.vm) {K : String} {index : Nat} (hown : s.vm.findClass own = some m.cls) (w : (Jvm.Cond.classLink own index K).before a0 Z = true) (eT : T.heap = h) {a : Addr} (Fl : Ins Z h a K true) (hd : decode c.code pc = .ok (.instanceof index, 3)) (k : ∀ T', Stand p l e R s m args below meth c T' locs cells slots → T'.heap = h → Go p e below F Q T' (mkF m (pc + 3) Ls (.int 1 :: S))) : Go p e below F Q T (mkF m pc Ls (.ref a :: S)) := by
  obtain ⟨T', X', e', st⟩ := Jvm.RoadKit.instY X hx hZ hown w eT Fl (g := mkF m pc Ls (.ref a :: S)) rfl rfl hd
  exact (k T' X' e').st st
theorem Go.castY (X : Stand p l e R s m args below meth c T locs cells slots) (hx : p.tables.exec = Jvm.exec) (hZ : Z.Warmed39 s.vm) {K : String} {index : Nat} (hown : s.vm.findClass own = some m.cls) (w : (Jvm.Cond.classLink own index K).before a0 Z = true) (eT : T.heap = h) {a : Addr} (Fl : Ins Z h a K true) (hd : decode c.code pc = .ok (.checkcast index, 3)) (k : ∀ T', Stand p l e R s m args below meth c T' locs cells slots → T'.heap = h → Go p e below F Q T' (mkF m (pc + 3) Ls (.ref a :: S))) : Go p e below F Q T (mkF m pc Ls (.ref a :: S)) := by
  obtain ⟨T', X', e', st⟩ := Jvm.RoadKit.castY X hx hZ hown w eT Fl (g := mkF m pc Ls (.ref a :: S)) rfl rfl hd
  exact (k T' X' e').st st
theorem Go.instNo (X : Stand p l e R s m args below meth c T locs cells slots) (hx : p.tables.exec = Jvm.exec) (hZ : Z.Warmed39 s.vm) {K K0 : String} {index : Nat} (hown : s.vm.findClass own = some m.cls) (w : (Jvm.Cond.classLink own index K).before a0 Z = true) (eT : T.heap = h) {a : Addr} (E : Exa Z h a K0) (Fl : ∃ c t, Z.vm.findClass K0 = some c ∧ Z.vm.findClass K = some t ∧ Z.vm.assignable c t = false) (hd : decode c.code pc = .ok (.instanceof index, 3)) (k : ∀ T', Stand p l e R s m args below meth c T' locs cells slots → T'.heap = h → Go p e below F Q T' (mkF m (pc + 3) Ls (.int 0 :: S))) : Go p e below F Q T (mkF m pc Ls (.ref a :: S)) := by
  obtain ⟨T', X', e', st⟩ := Jvm.RoadKit.instNo X hx hZ hown w eT E Fl (g := mkF m pc Ls (.ref a :: S)) rfl rfl hd
  exact (k T' X' e').st st
theorem Go.instNull (X : Stand p l e R s m args below meth c T locs cells slots) (hx : p.tables.exec = Jvm.exec) {index : Nat} (hd : decode c.code pc = .ok (.instanceof index, 3)) (h : Go p e below F Q T (mkF m (pc + 3) Ls (.int 0 :: S))) : Go p e below F Q T (mkF m pc Ls (.null :: S)) := h.st fun _ k => X.instanceofNull hx (g := mkF m pc Ls (.null :: S)) rfl rfl hd _ k
theorem Go.castNull (X : Stand p l e R s m args below meth c T locs cells slots) (hx : p.tables.exec = Jvm.exec) {index : Nat} (hd : decode c.code pc = .ok (.checkcast index, 3)) (h : Go p e below F Q T (mkF m (pc + 3) Ls (.null :: S))) : Go p e below F Q T (mkF m pc Ls (.null :: S)) := h.st fun _ k => X.checkcastNull hx (g := mkF m pc Ls (.null :: S)) rfl rfl hd _ k
theorem own_noSub {K0 S0 K : String} {n : Nat} (w : (Jvm.Cond.superclass K0 S0).before a0 Z = true) (wk : (Jvm.Cond.instantiable K n).before a0 Z = true) (q : NS Z K0 K) (hn : K0 ≠ K) : ∃ c t, Z.vm.findClass K0 = some c ∧ Z.vm.findClass K = some t ∧ Z.vm.assignable c t = false := by
  obtain ⟨c, t, h0, g0, n3⟩ := q
  obtain ⟨p, k, kp, h1, h2, h3, h4, h5, -, h7⟩ := Cond.superclass_spec h0 w
  obtain ⟨t', k', g1, g2, g3, g4, -⟩ := Cond.instantiable_spec wk
  cases g0.symm.trans g1
  have g5 : k'.isInterface = false := by simp only [Bool.or_eq_false_iff] at g4; exact g4.1
  have ne := ids_ne h0 g0 hn
  refine ⟨c, t, h0, g0, ?_⟩
  show Z.vm.assignableAux (255 + 1) c t = false
  simp [Vm.assignableAux, ne, h2, g2, h5, g3, g5, Vm.isSubclass, n3]
theorem own_nsRoot {O K : String} {n : Nat} (w : (Jvm.Cond.noSuperclass O).before a0 Z = true) (wk : (Jvm.Cond.instantiable K n).before a0 Z = true) (hn : O ≠ K) : NS Z O K := by
  obtain ⟨c, k, h1, h2, h3, -, -⟩ := Cond.noSuperclass_spec w
  obtain ⟨t, k', g1, -⟩ := Cond.instantiable_spec wk
  have ne := ids_ne h1 g1 hn
  refine ⟨c, t, h1, g1, fun fuel => ?_⟩
  cases fuel with
  | zero => rfl
  | succ f => simp [Vm.isSubclassAux, ne, h2, h3]
theorem Sta.own_keep {h' : Heap} {K n d : String} {v : Value} {ws : List Addr} (Fl : Sta Z h K n d v) (k : Keep h h' ws) (q : ∀ x ∈ ws, ∀ cell : Cell, h[x]? = some cell → cell.vm.isStatics = false) : Sta Z h' K n d v := by
  obtain ⟨cf, i, kk, f, st, cell, h1, h2, h3, h4, h5, h6, h7⟩ := Fl
  refine ⟨cf, i, kk, f, st, cell, h1, h2, h3, h4, k.2.1 _ _ h5 (fun hm => ?_), h6, h7⟩
  have := q _ hm _ h5
  rw [h6] at this; cases this
theorem Go.newP (X : Stand p l e R s m args below meth c T locs cells slots) (hx : p.tables.exec = Jvm.exec) (hZ : Z.Warmed39 s.vm) {aty : ArrayType} (w : (Jvm.Cond.arrayClass (newarray.typeOf aty)).before a0 Z = true) (eT : T.heap = h) {n : Int32} (hd : decode c.code pc = .ok (.newarray aty, 2)) (hn : ¬ n < 0) {cap : Nat} (hcap : n.toNatClampNeg ≤ cap) (hb : cap * 8 ≤ 536870912) (hc : cells + 1 ≤ R.cells) (hl : slots + cap ≤ R.slots) (k : ∀ T' h' cA a, a = h.size → Stand p l e R s m args below meth c T' locs (cells + 1) (slots + cap) → T'.heap = h' → Ext h h' → Arr Z h' a (newA cA (newarray.typeOf aty) n) (newarray.typeOf aty) → Go p e below F Q T' (mkF m (pc + 2) Ls (.ref a :: S))) : Go p e below F Q T (mkF m pc Ls (.int n :: S)) := by
  obtain ⟨T', h', cA, X', e', E', A', st⟩ := Jvm.RoadKit.newP X hx hZ w eT (g := mkF m pc Ls (.int n :: S)) rfl hd rfl hn hcap hb hc hl
  exact (k T' h' cA _ rfl X' e' E' A').st st
theorem Go.stI (X : Stand p l e R s m args below meth c T locs cells slots) (hx : p.tables.exec = Jvm.exec) (hZ : Z.Warmed39 s.vm) (eT : T.heap = h) {a : Addr} {cl : Cell} (A : Arr Z h a cl .int) {j : Int32} {x : Int32} (hj : ¬ (j < 0 ∨ cl.slots.size ≤ j.toNatClampNeg)) (hd : decode c.code pc = .ok (.iastore, 1)) (k : ∀ T' h', Stand p l e R s m args below meth c T' (locs ++ [⟨a, j.toNatClampNeg⟩]) cells slots → T'.heap = h' → Wr h h' a j.toNatClampNeg (.int x) → Go p e below F Q T' (mkF m (pc + 1) Ls S)) : Go p e below F Q T (mkF m pc Ls (.int x :: .int j :: .ref a :: S)) := by
  obtain ⟨T', h', X', e', W', st⟩ := Jvm.RoadKit.stI X hx hZ eT A hj (g := mkF m pc Ls (.int x :: .int j :: .ref a :: S)) rfl rfl hd
  exact (k T' h' X' e' W').st st
theorem Go.stC (X : Stand p l e R s m args below meth c T locs cells slots) (hx : p.tables.exec = Jvm.exec) (hZ : Z.Warmed39 s.vm) (eT : T.heap = h) {a : Addr} {cl : Cell} (A : Arr Z h a cl .char) {j : Int32} {x : Int32} (hj : ¬ (j < 0 ∨ cl.slots.size ≤ j.toNatClampNeg)) (hd : decode c.code pc = .ok (.castore, 1)) (k : ∀ T' h', Stand p l e R s m args below meth c T' (locs ++ [⟨a, j.toNatClampNeg⟩]) cells slots → T'.heap = h' → Wr h h' a j.toNatClampNeg (.int (nar .char x)) → Go p e below F Q T' (mkF m (pc + 1) Ls S)) : Go p e below F Q T (mkF m pc Ls (.int x :: .int j :: .ref a :: S)) := by
  obtain ⟨T', h', X', e', W', st⟩ := Jvm.RoadKit.stC X hx hZ eT A hj (g := mkF m pc Ls (.int x :: .int j :: .ref a :: S)) rfl rfl hd
  exact (k T' h' X' e' W').st st
theorem Go.stB (X : Stand p l e R s m args below meth c T locs cells slots) (hx : p.tables.exec = Jvm.exec) (hZ : Z.Warmed39 s.vm) (eT : T.heap = h) {a : Addr} {cl : Cell} (A : Arr Z h a cl .byte) {j : Int32} {x : Int32} (hj : ¬ (j < 0 ∨ cl.slots.size ≤ j.toNatClampNeg)) (hd : decode c.code pc = .ok (.bastore, 1)) (k : ∀ T' h', Stand p l e R s m args below meth c T' (locs ++ [⟨a, j.toNatClampNeg⟩]) cells slots → T'.heap = h' → Wr h h' a j.toNatClampNeg (.int (nar .byte x)) → Go p e below F Q T' (mkF m (pc + 1) Ls S)) : Go p e below F Q T (mkF m pc Ls (.int x :: .int j :: .ref a :: S)) := by
  obtain ⟨T', h', X', e', W', st⟩ := Jvm.RoadKit.stB X hx hZ eT A hj (g := mkF m pc Ls (.int x :: .int j :: .ref a :: S)) rfl rfl hd
  exact (k T' h' X' e' W').st st
theorem Go.stZ (X : Stand p l e R s m args below meth c T locs cells slots) (hx : p.tables.exec = Jvm.exec) (hZ : Z.Warmed39 s.vm) (eT : T.heap = h) {a : Addr} {cl : Cell} (A : Arr Z h a cl .boolean) {j : Int32} {x : Int32} (hj : ¬ (j < 0 ∨ cl.slots.size ≤ j.toNatClampNeg)) (hd : decode c.code pc = .ok (.bastore, 1)) (k : ∀ T' h', Stand p l e R s m args below meth c T' (locs ++ [⟨a, j.toNatClampNeg⟩]) cells slots → T'.heap = h' → Wr h h' a j.toNatClampNeg (.int (nar .boolean x)) → Go p e below F Q T' (mkF m (pc + 1) Ls S)) : Go p e below F Q T (mkF m pc Ls (.int x :: .int j :: .ref a :: S)) := by
  obtain ⟨T', h', X', e', W', st⟩ := Jvm.RoadKit.stZ X hx hZ eT A hj (g := mkF m pc Ls (.int x :: .int j :: .ref a :: S)) rfl rfl hd
  exact (k T' h' X' e' W').st st
theorem Go.stS (X : Stand p l e R s m args below meth c T locs cells slots) (hx : p.tables.exec = Jvm.exec) (hZ : Z.Warmed39 s.vm) (eT : T.heap = h) {a : Addr} {cl : Cell} (A : Arr Z h a cl .short) {j : Int32} {x : Int32} (hj : ¬ (j < 0 ∨ cl.slots.size ≤ j.toNatClampNeg)) (hd : decode c.code pc = .ok (.sastore, 1)) (k : ∀ T' h', Stand p l e R s m args below meth c T' (locs ++ [⟨a, j.toNatClampNeg⟩]) cells slots → T'.heap = h' → Wr h h' a j.toNatClampNeg (.int (nar .short x)) → Go p e below F Q T' (mkF m (pc + 1) Ls S)) : Go p e below F Q T (mkF m pc Ls (.int x :: .int j :: .ref a :: S)) := by
  obtain ⟨T', h', X', e', W', st⟩ := Jvm.RoadKit.stS X hx hZ eT A hj (g := mkF m pc Ls (.int x :: .int j :: .ref a :: S)) rfl rfl hd
  exact (k T' h' X' e' W').st st
theorem Go.stJ (X : Stand p l e R s m args below meth c T locs cells slots) (hx : p.tables.exec = Jvm.exec) (hZ : Z.Warmed39 s.vm) (eT : T.heap = h) {a : Addr} {cl : Cell} (A : Arr Z h a cl .long) {j : Int32} {x : Int64} (hj : ¬ (j < 0 ∨ cl.slots.size ≤ j.toNatClampNeg)) (hd : decode c.code pc = .ok (.lastore, 1)) (k : ∀ T' h', Stand p l e R s m args below meth c T' (locs ++ [⟨a, j.toNatClampNeg⟩]) cells slots → T'.heap = h' → Wr h h' a j.toNatClampNeg (.long x) → Go p e below F Q T' (mkF m (pc + 1) Ls S)) : Go p e below F Q T (mkF m pc Ls (.long x :: .int j :: .ref a :: S)) := by
  obtain ⟨T', h', X', e', W', st⟩ := Jvm.RoadKit.stJ X hx hZ eT A hj (g := mkF m pc Ls (.long x :: .int j :: .ref a :: S)) rfl rfl hd
  exact (k T' h' X' e' W').st st
theorem Go.iaload (X : Stand p l e R s m args below meth c T locs cells slots) (hx : p.tables.exec = Jvm.exec) (hZ : Z.Warmed39 s.vm) (eT : T.heap = h) {a : Addr} {cl : Cell} (A : Arr Z h a cl .int) {j : Int32} {v : Value} (hj : ¬ (j < 0 ∨ cl.slots.size ≤ j.toNatClampNeg)) (hv : cl.slots[j.toNatClampNeg]? = some v) (hd : decode c.code pc = .ok (.iaload, 1)) (k : Go p e below F Q T (mkF m (pc + 1) Ls (v :: S))) : Go p e below F Q T (mkF m pc Ls (.int j :: .ref a :: S)) := k.st fun _ q => X.iaload hx (by rw [eT]; exact A.1) (State.isArrayOf_alike hZ.alike A.2.1) A.2.2 hj hv (g := mkF m pc Ls (.int j :: .ref a :: S)) rfl rfl hd _ q
theorem Go.caload (X : Stand p l e R s m args below meth c T locs cells slots) (hx : p.tables.exec = Jvm.exec) (hZ : Z.Warmed39 s.vm) (eT : T.heap = h) {a : Addr} {cl : Cell} (A : Arr Z h a cl .char) {j : Int32} {v : Value} (hj : ¬ (j < 0 ∨ cl.slots.size ≤ j.toNatClampNeg)) (hv : cl.slots[j.toNatClampNeg]? = some v) (hd : decode c.code pc = .ok (.caload, 1)) (k : Go p e below F Q T (mkF m (pc + 1) Ls (v :: S))) : Go p e below F Q T (mkF m pc Ls (.int j :: .ref a :: S)) := k.st fun _ q => X.caload hx (by rw [eT]; exact A.1) (State.isArrayOf_alike hZ.alike A.2.1) A.2.2 hj hv (g := mkF m pc Ls (.int j :: .ref a :: S)) rfl rfl hd _ q
theorem Go.saload (X : Stand p l e R s m args below meth c T locs cells slots) (hx : p.tables.exec = Jvm.exec) (hZ : Z.Warmed39 s.vm) (eT : T.heap = h) {a : Addr} {cl : Cell} (A : Arr Z h a cl .short) {j : Int32} {v : Value} (hj : ¬ (j < 0 ∨ cl.slots.size ≤ j.toNatClampNeg)) (hv : cl.slots[j.toNatClampNeg]? = some v) (hd : decode c.code pc = .ok (.saload, 1)) (k : Go p e below F Q T (mkF m (pc + 1) Ls (v :: S))) : Go p e below F Q T (mkF m pc Ls (.int j :: .ref a :: S)) := k.st fun _ q => X.saload hx (by rw [eT]; exact A.1) (State.isArrayOf_alike hZ.alike A.2.1) A.2.2 hj hv (g := mkF m pc Ls (.int j :: .ref a :: S)) rfl rfl hd _ q
theorem Go.laload (X : Stand p l e R s m args below meth c T locs cells slots) (hx : p.tables.exec = Jvm.exec) (hZ : Z.Warmed39 s.vm) (eT : T.heap = h) {a : Addr} {cl : Cell} (A : Arr Z h a cl .long) {j : Int32} {v : Value} (hj : ¬ (j < 0 ∨ cl.slots.size ≤ j.toNatClampNeg)) (hv : cl.slots[j.toNatClampNeg]? = some v) (hd : decode c.code pc = .ok (.laload, 1)) (k : Go p e below F Q T (mkF m (pc + 1) Ls (v :: S))) : Go p e below F Q T (mkF m pc Ls (.int j :: .ref a :: S)) := k.st fun _ q => X.laload hx (by rw [eT]; exact A.1) (State.isArrayOf_alike hZ.alike A.2.1) A.2.2 hj hv (g := mkF m pc Ls (.int j :: .ref a :: S)) rfl rfl hd _ q
theorem Go.baload (X : Stand p l e R s m args below meth c T locs cells slots) (hx : p.tables.exec = Jvm.exec) (hZ : Z.Warmed39 s.vm) (eT : T.heap = h) {a : Addr} {cl : Cell} (A : Arr Z h a cl .byte) {j : Int32} {v : Value} (hj : ¬ (j < 0 ∨ cl.slots.size ≤ j.toNatClampNeg)) (hv : cl.slots[j.toNatClampNeg]? = some v) (hd : decode c.code pc = .ok (.baload, 1)) (k : Go p e below F Q T (mkF m (pc + 1) Ls (v :: S))) : Go p e below F Q T (mkF m pc Ls (.int j :: .ref a :: S)) := k.st fun _ q => X.baloadBytes hx (by rw [eT]; exact A.1) (State.isArrayOf_alike hZ.alike A.2.1) A.2.2 hj hv (g := mkF m pc Ls (.int j :: .ref a :: S)) rfl rfl hd _ q
theorem Go.aaload (X : Stand p l e R s m args below meth c T locs cells slots) (hx : p.tables.exec = Jvm.exec) (hZ : Z.Warmed39 s.vm) (eT : T.heap = h) {a : Addr} {cl : Cell} {ty : FieldType} (A : Arr Z h a cl ty) (hty : ty.isReference = true) {j : Int32} {v : Value} (hj : ¬ (j < 0 ∨ cl.slots.size ≤ j.toNatClampNeg)) (hv : cl.slots[j.toNatClampNeg]? = some v) (hd : decode c.code pc = .ok (.aaload, 1)) (k : Go p e below F Q T (mkF m (pc + 1) Ls (v :: S))) : Go p e below F Q T (mkF m pc Ls (.int j :: .ref a :: S)) := k.st fun _ q => X.aaload hx (by rw [eT]; exact A.1) (State.isArrayOf_alike hZ.alike A.2.1) hty A.2.2 hj hv (g := mkF m pc Ls (.int j :: .ref a :: S)) rfl rfl hd _ q
theorem Go.arraylength (X : Stand p l e R s m args below meth c T locs cells slots) (hx : p.tables.exec = Jvm.exec) (hZ : Z.Warmed39 s.vm) (eT : T.heap = h) {a : Addr} {cl : Cell} {ty : FieldType} (A : Arr Z h a cl ty) {n : Int32} (S1 : cl.slots.size = n.toNatClampNeg) (hn : ¬ n < 0) (hd : decode c.code pc = .ok (.arraylength, 1)) (k : Go p e below F Q T (mkF m (pc + 1) Ls (.int n :: S))) : Go p e below F Q T (mkF m pc Ls (.ref a :: S)) := k.st fun _ q => X.arraylength hx (by rw [eT]; exact A.1) (State.isArrayOf_alike hZ.alike A.2.1) (g := mkF m pc Ls (.ref a :: S)) rfl rfl hd _ (by rw [len_of S1 hn]; exact q)
theorem Go.callIB (X : Stand p l e R s m args below meth c T locs cells slots) (hx : p.tables.exec = Jvm.exec) (hZ : Z.Warmed39 s.vm) {index : Nat} {y : MethodName} {as' : Array Value} {C1 N1 : Nat} {Qy : Option Value → Heap → List Loc → Prop} {W : Nat} (hK : Back l R p e below s args y 3 W (fun P a => a = as' ∧ P.U.heap = h ∧ P.cells + C1 ≤ R.cells ∧ P.slots + N1 ≤ R.slots) (fun P _ v B => ∃ L, Qy v B.U.heap L ∧ B.locs = P.locs ++ L ∧ B.cells = P.cells + C1 ∧ B.slots = P.slots + N1)) (hy1 : y.name = "<init>") (hown : s.vm.findClass own = some m.cls) (wl : (Jvm.Cond.methodLink own index y).before a0 Z = true) (ws : (Jvm.Cond.instanceMethod y).before a0 Z = true) {bytes : ByteArray} {maxL : Nat} (wc : (Jvm.Cond.code y bytes maxL none).before a0 Z = true) (hy : y.cls ≠ "java/lang/invoke/MethodHandle" ∧ y.cls ≠ "java/lang/invoke/VarHandle") (eT : T.heap = h) {a : Addr} (hsize : Ls.size = c.maxLocals) {argsL : List Value} (hW : (S.map fun v => v.category).sum ≤ W) (hc : cells + C1 ≤ R.cells) (hs : slots + N1 ≤ R.slots) {ps : List FieldType} {r : Option FieldType} (hds : parseMethodDescriptor y.desc = some ⟨ps, r⟩) (hlen : argsL.length = ps.length) (has : (.ref a :: argsL).toArray = as') (hd : decode c.code pc = .ok (.invokespecial index, 3)) (k : ∀ v T' L, Stand p l e R s m args below meth c T' (locs ++ L) (cells + C1) (slots + N1) → Qy v T'.heap L → Go p e below F Q T' (mkF m (pc + 3) Ls (v.toList ++ S))) : Go p e below F Q T (mkF m pc Ls (argsL.reverse ++ .ref a :: S)) := by
  obtain ⟨_, _, ⟨T', L', k', n'⟩, -, X', ⟨L, hq, e1, e2, e3⟩, st⟩ := X.specialBack hx hy1 hown (mvT hZ wl) (mvT hZ ws) (mvT hZ wc) hy hK (g := mkF m pc Ls (argsL.reverse ++ .ref a :: S)) rfl hsize (Steps.refl _) (a := a) (argsL := argsL) (rest := S) (lenOf hds hlen) rfl (by show 2 * 0 + _ ≤ _; omega) hd (fun _ _ => ⟨has, eT, hc, hs⟩)
  dsimp only [Pt.U, Pt.locs, Pt.cells, Pt.slots] at X' e1 e2 e3 st hq
  subst e1 e2 e3
  exact (k _ _ _ X' hq).tr st
theorem Go.callVB (X : Stand p l e R s m args below meth c T locs cells slots) (hx : p.tables.exec = Jvm.exec) (hZ : Z.Warmed39 s.vm) {index : Nat} {K : String} {y : MethodName} {as' : Array Value} {C1 N1 : Nat} {Qy : Option Value → Heap → List Loc → Prop} {W : Nat} (hK : Back l R p e below s args y 3 W (fun P a => a = as' ∧ P.U.heap = h ∧ P.cells + C1 ≤ R.cells ∧ P.slots + N1 ≤ R.slots) (fun P _ v B => ∃ L, Qy v B.U.heap L ∧ B.locs = P.locs ++ L ∧ B.cells = P.cells + C1 ∧ B.slots = P.slots + N1)) {y0 : MethodName} (hy : y0.cls ≠ "java/lang/invoke/MethodHandle" ∧ y0.cls ≠ "java/lang/invoke/VarHandle") (hown : s.vm.findClass own = some m.cls) (wl : (Jvm.Cond.methodLink own index y0).before a0 Z = true) (wd : (Jvm.Cond.declares y0).before a0 Z = true) (hnf : NotFace s y0) (wsel : (Jvm.Cond.selects K y0 y).before a0 Z = true) (ws : (Jvm.Cond.instanceMethod y).before a0 Z = true) (eT : T.heap = h) {a : Addr} (E : Exa Z h a K) (hsize : Ls.size = c.maxLocals) {argsL : List Value} (hW : (S.map fun v => v.category).sum ≤ W) (hc : cells + C1 ≤ R.cells) (hs : slots + N1 ≤ R.slots) {ps : List FieldType} {r : Option FieldType} (hds : parseMethodDescriptor y0.desc = some ⟨ps, r⟩) (hlen : argsL.length = ps.length) (has : (.ref a :: argsL).toArray = as') (hd : decode c.code pc = .ok (.invokevirtual index, 3)) (k : ∀ v T' L, Stand p l e R s m args below meth c T' (locs ++ L) (cells + C1) (slots + N1) → Qy v T'.heap L → Go p e below F Q T' (mkF m (pc + 3) Ls (v.toList ++ S))) : Go p e below F Q T (mkF m pc Ls (argsL.reverse ++ .ref a :: S)) := by
  obtain ⟨cq, kq, q1, q2, q3⟩ := isOf hZ eT E
  obtain ⟨_, _, ⟨T', L', k', n'⟩, -, X', ⟨L, hq, e1, e2, e3⟩, st⟩ := X.virtualBack hx hown (mvT hZ wl) (mvT hZ wd) hnf (mvT hZ wsel) (mvT hZ ws) hy hK q1 q3 (g := mkF m pc Ls (argsL.reverse ++ .ref a :: S)) rfl hsize (Steps.refl _) (argsL := argsL) (rest := S) (lenOf hds hlen) rfl (by show 2 * 0 + _ ≤ _; omega) hd (fun _ _ => ⟨has, eT, hc, hs⟩)
  dsimp only [Pt.U, Pt.locs, Pt.cells, Pt.slots] at X' e1 e2 e3 st hq
  subst e1 e2 e3
  exact (k _ _ _ X' hq).tr st
end OwnKit
section OwnKitS
variable {p : Program} {l : Launch} {e : Env} {R : Room} {s : State} {vm0 : Vm} {k0 : Nat} {m : MethodId} {args : Array Value} {below : List Frame} {meth : Method} {c : Code} {T : State} {locs : List Loc} {cells slots : Nat} {C N : Nat} {F : Outcome → State → List Loc → Prop} {Q : Option Value → Heap → List Loc → Prop} {pc : Nat} {Ls : Array Slot} {S : List Value} {Z : State} {a0 : Array Value} {h : Heap} {own : String}
def WE (s : State) (C N : Nat) (o : Outcome) (t : State) (L : List Loc) : Prop := ReturnedEndW s o t L C N
theorem metOfW {y : MethodName} {bytes : ByteArray} {maxL : Nat} {ret : Option FieldType} {rm : Room} {ws : List Jvm.Cond} {as' : Array Value} {h0 : Heap} (hpl : plainFor y = true)
    (body : ∀ p e s m below meth c s₁, Stand p l e rm (s.setVm s.vm) m as' below meth c s₁ [] 0 0 → p.tables.exec = Jvm.exec → c.code = bytes → c.maxLocals = maxL → meth.sig.returnType = ret → meth.locks = false → Z.Warmed39 (s.setVm s.vm).vm → (s.setVm s.vm).vm.findClass y.cls = some m.cls → meth.name = y.name → s₁.heap = h0 → s.Since s.vm 0 → Go p e below (WE s rm.cells rm.slots) Q s₁ (entryFrame m as' maxL)) :
    MetFree l y (head1 (Jvm.Cond.code y bytes maxL ret :: ws) rm) (fun a U => a = as' ∧ Z.Warmed39 U.vm ∧ U.heap = h0) (fun _ _ _ _ _ => True) (fun _ U o U' => ∃ v L, o = .returned v ∧ Q v U'.heap L ∧ ReturnedEndW U o U' L rm.cells rm.slots) := by
  refine MetFree.of_bodySF hpl hisR ?_
  intro p e s m args below meth c s₁ Bd hml0 hP hK
  obtain ⟨rfl, hZ, hh⟩ := hP
  exact body p e s m below meth c s₁ (Stand.of_body Bd) Bd.exec Bd.bytes hml0 Bd.returns Bd.notSynchronized hZ (findClass_of_methodNamed Bd.named) (name_of_methodNamed Bd.named Bd.method).1 (by rw [← hh, Bd.state]; rfl) ((State.WarmedH.refl s).since 0)
theorem ReturnedEndW.own_mono {o : Outcome} {t : State} {L : List Loc} {a b : Nat} (h : ReturnedEndW s o t L a b) (hC : a ≤ C) (hN : b ≤ N) : WE s C N o t L := ⟨h.1, h.2.1, h.2.2.1, h.2.2.2.mono hC hN⟩
theorem Go.retNW (X : Stand p l e R (s.setVm vm0) m args below meth c T locs cells slots) (hx : p.tables.exec = Jvm.exec) (hS : s.Since vm0 k0) (eT : T.heap = h) (hk : k0 ≤ h.size) {t : FieldType} {z : Int32} (hret : meth.sig.returnType = some t) (hlk : meth.locks = false) (ht : t = .boolean ∨ t = .byte ∨ t = .char ∨ t = .short) (hd : decode c.code pc = .ok (.ireturn, 1)) (hC : cells ≤ C) (hN : slots ≤ N) (hQ : Q (some (.int (nar t z))) T.heap locs) : Go p e below (WE s C N) Q T (mkF m pc Ls (.int z :: S)) := by
  obtain ⟨fs, hr, hrun, hended, hW⟩ := X.leaveW hS (by rw [eT]; exact hk) (v := some (.int (nar t z))) (fun h => by rw [hret] at h; cases h) hlk
  exact ⟨_, _, Jvm.RoadKit.retN X hx hret ht hd hr, hrun, hended, _, _, rfl, hQ, ReturnedEndW.own_mono hW hC hN⟩
theorem Go.retIW (X : Stand p l e R (s.setVm vm0) m args below meth c T locs cells slots) (hx : p.tables.exec = Jvm.exec) (hS : s.Since vm0 k0) (eT : T.heap = h) (hk : k0 ≤ h.size) {z : Int32} (hret : meth.sig.returnType = some .int) (hlk : meth.locks = false) (hd : decode c.code pc = .ok (.ireturn, 1)) (hC : cells ≤ C) (hN : slots ≤ N) (hQ : Q (some (.int z)) T.heap locs) : Go p e below (WE s C N) Q T (mkF m pc Ls (.int z :: S)) := by
  obtain ⟨fs, hr, hrun, hended, hW⟩ := X.leaveW hS (by rw [eT]; exact hk) (v := some (.int z)) (fun h => by rw [hret] at h; cases h) hlk
  exact ⟨_, _, retOut X hx hret rfl (Or.inl ⟨rfl, Or.inl rfl, _, rfl⟩) hd hr, hrun, hended, _, _, rfl, hQ, ReturnedEndW.own_mono hW hC hN⟩
theorem Go.retJW (X : Stand p l e R (s.setVm vm0) m args below meth c T locs cells slots) (hx : p.tables.exec = Jvm.exec) (hS : s.Since vm0 k0) (eT : T.heap = h) (hk : k0 ≤ h.size) {z : Int64} (hret : meth.sig.returnType = some .long) (hlk : meth.locks = false) (hd : decode c.code pc = .ok (.lreturn, 1)) (hC : cells ≤ C) (hN : slots ≤ N) (hQ : Q (some (.long z)) T.heap locs) : Go p e below (WE s C N) Q T (mkF m pc Ls (.long z :: S)) := by
  obtain ⟨fs, hr, hrun, hended, hW⟩ := X.leaveW hS (by rw [eT]; exact hk) (v := some (.long z)) (fun h => by rw [hret] at h; cases h) hlk
  exact ⟨_, _, retOut X hx hret rfl (Or.inr (Or.inl ⟨rfl, rfl, _, rfl⟩)) hd hr, hrun, hended, _, _, rfl, hQ, ReturnedEndW.own_mono hW hC hN⟩
theorem Go.retAW (X : Stand p l e R (s.setVm vm0) m args below meth c T locs cells slots) (hx : p.tables.exec = Jvm.exec) (hS : s.Since vm0 k0) (eT : T.heap = h) (hk : k0 ≤ h.size) {w : Value} {t : FieldType} (hret : meth.sig.returnType = some t) (hlk : meth.locks = false) (ht : t.isReference = true) (hw : w.isRef = true) (hn : narrow t w = w) (hd : decode c.code pc = .ok (.areturn, 1)) (hC : cells ≤ C) (hN : slots ≤ N) (hQ : Q (some w) T.heap locs) : Go p e below (WE s C N) Q T (mkF m pc Ls (w :: S)) := by
  obtain ⟨fs, hr, hrun, hended, hW⟩ := X.leaveW hS (by rw [eT]; exact hk) (v := some w) (fun h => by rw [hret] at h; cases h) hlk
  exact ⟨_, _, retOut X hx hret hn (Or.inr (Or.inr (Or.inr (Or.inr ⟨rfl, ht, hw⟩)))) hd hr, hrun, hended, _, _, rfl, hQ, ReturnedEndW.own_mono hW hC hN⟩
theorem Go.retVW (X : Stand p l e R (s.setVm vm0) m args below meth c T locs cells slots) (hx : p.tables.exec = Jvm.exec) (hS : s.Since vm0 k0) (eT : T.heap = h) (hk : k0 ≤ h.size) (hret : meth.sig.returnType = none) (hlk : meth.locks = false) (hd : decode c.code pc = .ok (.return_, 1)) (hC : cells ≤ C) (hN : slots ≤ N) (hQ : Q none T.heap locs) : Go p e below (WE s C N) Q T (mkF m pc Ls []) := by
  obtain ⟨fs, hr, hrun, hended, hW⟩ := X.leaveW hS (by rw [eT]; exact hk) (v := none) (fun _ => rfl) hlk
  exact ⟨_, _, X.returnOut hx hret hd hr, hrun, hended, _, _, rfl, hQ, ReturnedEndW.own_mono hW hC hN⟩
theorem Go.ldcS (X : Stand p l e R (s.setVm vm0) m args below meth c T locs cells slots) (hx : p.tables.exec = Jvm.exec) (hZ : Z.Warmed39 (s.setVm vm0).vm) {text : String} {index : Nat} (hown : (s.setVm vm0).vm.findClass own = some m.cls) (w : (Jvm.Cond.stringLink own index text).before a0 Z = true) (wS : ∀ a ∈ Bundle.stringAtoms, a.before a0 Z = true) (hS : s.Since vm0 k0) (eT : T.heap = h) (hk : k0 ≤ h.size) (hd : decode c.code pc = .ok (.ldc index, 2)) {n : Nat} (hn : 4 * text.toList.length ≤ n) (hbig : n ≤ 536870912) (hc : cells + 2 ≤ R.cells) (hl : slots + (n + 4) ≤ R.slots) (k : ∀ a T' h' k1, Stand p l e R (s.setVm T'.vm) m args below meth c T' locs (cells + 2) (slots + (n + 4)) → T'.heap = h' → Ext h h' → s.Since T'.vm k1 → k1 ≤ h'.size → Z.Warmed39 (s.setVm T'.vm).vm → (s.setVm T'.vm).vm.findClass own = some m.cls → Go p e below F Q T' (mkF m (pc + 2) Ls (.ref a :: S))) : Go p e below F Q T (mkF m pc Ls S) := by
  obtain ⟨a, T', h', k1, X', e', E', hS', hk', hZ', ho', st⟩ := Jvm.RoadKit.ldcS X hx hZ hown w wS eT hS hk (g := mkF m pc Ls S) rfl hd hn hbig hc hl
  exact (k a T' h' k1 X' e' E' hS' hk' hZ' ho').st st
theorem Go.callSS (X : Stand p l e R (s.setVm vm0) m args below meth c T locs cells slots) (hx : p.tables.exec = Jvm.exec) (hZ : Z.Warmed39 (s.setVm vm0).vm) {index : Nat} {y : MethodName} {bytes : ByteArray} {maxL : Nat} {ret : Option FieldType} {rm : Room} {as' : Array Value} {Qy : Option Value → Heap → List Loc → Prop} (hM : MetFree l y (head1 [Jvm.Cond.code y bytes maxL ret] rm) (fun a U => a = as' ∧ Z.Warmed39 U.vm ∧ U.heap = h) (fun _ _ _ _ _ => True) (fun _ U o U' => ∃ v L, o = .returned v ∧ Qy v U'.heap L ∧ ReturnedEndW U o U' L rm.cells rm.slots)) (hown : (s.setVm vm0).vm.findClass own = some m.cls) (wl : (Jvm.Cond.methodLink own index y).before a0 Z = true) (ws : (Jvm.Cond.static y).before a0 Z = true) (wi : (Jvm.Cond.initialized y.cls).before a0 Z = true) (wc : (Jvm.Cond.code y bytes maxL ret).before a0 Z = true) (hy : y.cls ≠ "java/lang/invoke/MethodHandle" ∧ y.cls ≠ "java/lang/invoke/VarHandle") (hS : s.Since vm0 k0) (eT : T.heap = h) (hk : k0 ≤ h.size) {W : Nat} (hsize : Ls.size = c.maxLocals) {argsL : List Value} (hW : (S.map fun v => v.category).sum ≤ W) (hf : rm.frames + 1 ≤ R.frames) (hl : W + (maxL + 11) + rm.locals ≤ R.locals) (hc : cells + rm.cells ≤ R.cells) (hs : slots + rm.slots ≤ R.slots) {ps : List FieldType} {r : Option FieldType} (hds : parseMethodDescriptor y.desc = some ⟨ps, r⟩) (hlen : argsL.length = ps.length) (has : argsL.toArray = as') (hd : decode c.code pc = .ok (.invokestatic index, 3)) (k : ∀ v T' L, Stand p l e R (s.setVm T'.vm) m args below meth c T' (locs ++ L) (cells + rm.cells) (slots + rm.slots) → Qy v T'.heap L → s.Since T'.vm T'.heap.size → h.size ≤ T'.heap.size → Z.Warmed39 (s.setVm T'.vm).vm → (s.setVm T'.vm).vm.findClass own = some m.cls → Go p e below F Q T' (mkF m (pc + 3) Ls (v.toList ++ S))) : Go p e below F Q T (mkF m pc Ls (argsL.reverse ++ S)) := by
  obtain ⟨_, _, ⟨T', L', k', n'⟩, -, X', hS', hg', ⟨L, hq, e1, e2, e3⟩, st⟩ := Jvm.RoadKit.callSS X hx hown (mvT hZ wl) (mvT hZ ws) (mvT hZ wi) (mvT hZ wc) hy (backOfS (W := W) hM hZ wc wi hf hl) (g := mkF m pc Ls (argsL.reverse ++ S)) rfl hsize (argsL := argsL) (rest := S) (lenOf hds hlen) rfl (by show 2 * 0 + _ ≤ _; omega) hd (fun _ _ => ⟨has, eT, hc, hs⟩)
  dsimp only [Pt.U, Pt.locs, Pt.cells, Pt.slots] at X' hS' hg' e1 e2 e3 st hq
  subst e1 e2 e3
  subst eT
  obtain ⟨X2, hS2, hZ2, ho2⟩ := rebS hS hk X' hS' hg' hZ hown
  exact (k _ _ _ X2 hq hS2 hg' hZ2 ho2).tr st
theorem Go.callIS (X : Stand p l e R (s.setVm vm0) m args below meth c T locs cells slots) (hx : p.tables.exec = Jvm.exec) (hZ : Z.Warmed39 (s.setVm vm0).vm) {index : Nat} {y : MethodName} {bytes : ByteArray} {maxL : Nat} {rm : Room} {as' : Array Value} {Qy : Option Value → Heap → List Loc → Prop} (hM : MetFree l y (head1 [Jvm.Cond.code y bytes maxL none] rm) (fun a U => a = as' ∧ Z.Warmed39 U.vm ∧ U.heap = h) (fun _ _ _ _ _ => True) (fun _ U o U' => ∃ v L, o = .returned v ∧ Qy v U'.heap L ∧ ReturnedEndW U o U' L rm.cells rm.slots)) (hy1 : y.name = "<init>") (hown : (s.setVm vm0).vm.findClass own = some m.cls) (wl : (Jvm.Cond.methodLink own index y).before a0 Z = true) (ws : (Jvm.Cond.instanceMethod y).before a0 Z = true) (wi : (Jvm.Cond.initialized y.cls).before a0 Z = true) (wc : (Jvm.Cond.code y bytes maxL none).before a0 Z = true) (hy : y.cls ≠ "java/lang/invoke/MethodHandle" ∧ y.cls ≠ "java/lang/invoke/VarHandle") (hS : s.Since vm0 k0) (eT : T.heap = h) (hk : k0 ≤ h.size) {a : Addr} {W : Nat} (hsize : Ls.size = c.maxLocals) {argsL : List Value} (hW : (S.map fun v => v.category).sum ≤ W) (hf : rm.frames + 1 ≤ R.frames) (hl : W + (maxL + 11) + rm.locals ≤ R.locals) (hc : cells + rm.cells ≤ R.cells) (hs : slots + rm.slots ≤ R.slots) {ps : List FieldType} {r : Option FieldType} (hds : parseMethodDescriptor y.desc = some ⟨ps, r⟩) (hlen : argsL.length = ps.length) (has : (.ref a :: argsL).toArray = as') (hd : decode c.code pc = .ok (.invokespecial index, 3)) (k : ∀ v T' L, Stand p l e R (s.setVm T'.vm) m args below meth c T' (locs ++ L) (cells + rm.cells) (slots + rm.slots) → Qy v T'.heap L → s.Since T'.vm T'.heap.size → h.size ≤ T'.heap.size → Z.Warmed39 (s.setVm T'.vm).vm → (s.setVm T'.vm).vm.findClass own = some m.cls → Go p e below F Q T' (mkF m (pc + 3) Ls (v.toList ++ S))) : Go p e below F Q T (mkF m pc Ls (argsL.reverse ++ .ref a :: S)) := by
  obtain ⟨_, _, ⟨T', L', k', n'⟩, -, X', hS', hg', ⟨L, hq, e1, e2, e3⟩, st⟩ := X.specialBackS hx hy1 hown (mvT hZ wl) (mvT hZ ws) (mvT hZ wc) hy (backOfS (W := W) hM hZ wc wi hf hl) (g := mkF m pc Ls (argsL.reverse ++ .ref a :: S)) rfl hsize (Steps.refl _) (a := a) (argsL := argsL) (rest := S) (lenOf hds hlen) rfl (by show 2 * 0 + _ ≤ _; omega) hd (fun _ _ => ⟨has, eT, hc, hs⟩)
  dsimp only [Pt.U, Pt.locs, Pt.cells, Pt.slots] at X' hS' hg' e1 e2 e3 st hq
  subst e1 e2 e3
  subst eT
  obtain ⟨X2, hS2, hZ2, ho2⟩ := rebS hS hk X' hS' hg' hZ hown
  exact (k _ _ _ X2 hq hS2 hg' hZ2 ho2).tr st
end OwnKitS
section OwnKitH
variable {p : Program} {l : Launch} {e : Env} {R : Room} {s : State} {vm0 : Vm} {k0 : Nat} {m : MethodId} {args : Array Value} {below : List Frame} {meth : Method} {c : Code} {T : State} {locs : List Loc} {cells slots : Nat} {C N : Nat} {F : Outcome → State → List Loc → Prop} {Q : Option Value → Heap → List Loc → Prop} {pc : Nat} {Ls : Array Slot} {S : List Value} {Z : State} {a0 : Array Value} {h hs : Heap} {own : String} {EL : List (String × Nat)}
def HE (Z : State) (EL : List (String × Nat)) (s : State) (C N : Nat) (o : Outcome) (t : State) (L : List Loc) : Prop := CHr Z EL s.vm s.heap t.vm t.heap ∧ ReturnedEndW s o t L C N
theorem metOfH {y : MethodName} {bytes : ByteArray} {maxL : Nat} {ret : Option FieldType} {rm : Room} {ws : List Jvm.Cond} {as' : Array Value} {h0 : Heap} (hpl : plainFor y = true)
    (body : ∀ p e s m below meth c s₁, Stand p l e rm (s.setVm s.vm) m as' below meth c s₁ [] 0 0 → p.tables.exec = Jvm.exec → c.code = bytes → c.maxLocals = maxL → meth.sig.returnType = ret → meth.locks = false → Z.Warmed39 (s.setVm s.vm).vm → (s.setVm s.vm).vm.findClass y.cls = some m.cls → meth.name = y.name → s₁.heap = h0 → s.Since s.vm 0 → s.heap = h0 → CHr Z EL s.vm h0 (s.setVm s.vm).vm h0 → Go p e below (HE Z EL s rm.cells rm.slots) Q s₁ (entryFrame m as' maxL)) :
    MetFree l y (head1 (Jvm.Cond.code y bytes maxL ret :: ws) rm) (fun a U => a = as' ∧ Z.Warmed39 U.vm ∧ U.heap = h0 ∧ CHv Z EL U.vm h0) (fun _ _ _ _ _ => True) (fun _ U o U' => ∃ v L, o = .returned v ∧ Q v U'.heap L ∧ CHr Z EL U.vm U.heap U'.vm U'.heap ∧ ReturnedEndW U o U' L rm.cells rm.slots) := by
  refine MetFree.of_bodySF hpl hisR ?_
  intro p e s m args below meth c s₁ Bd hml0 hP hK
  obtain ⟨rfl, hZ, hh, hC⟩ := hP
  exact body p e s m below meth c s₁ (Stand.of_body Bd) Bd.exec Bd.bytes hml0 Bd.returns Bd.notSynchronized hZ (findClass_of_methodNamed Bd.named) (name_of_methodNamed Bd.named Bd.method).1 (by rw [← hh, Bd.state]; rfl) ((State.WarmedH.refl s).since 0) hh (CHr.refl hC)
theorem own_he {fs : List Frame} {o : Outcome} (X : Stand p l e R (s.setVm vm0) m args below meth c T locs cells slots) (hx : p.tables.exec = Jvm.exec) (hZ : Z.Warmed39 (s.setVm vm0).vm) (hEL : EW Z a0 EL) (h00 : s.heap = hs) (HR : CHr Z EL s.vm hs vm0 h) (eT : T.heap = h) (hW : ReturnedEndW s o (T.setFrames fs) locs cells slots) (hC : cells ≤ C) (hN : slots ≤ N) : HE Z EL s C N o (T.setFrames fs) locs := ⟨by
  have q := HR.trans (CHv.at X hZ hEL HR.1)
  show CHr Z EL s.vm s.heap T.vm T.heap
  rw [h00, eT]; exact q, hW.1, hW.2.1, hW.2.2.1, hW.2.2.2.mono hC hN⟩
theorem Go.retNH (X : Stand p l e R (s.setVm vm0) m args below meth c T locs cells slots) (hx : p.tables.exec = Jvm.exec) (hS : s.Since vm0 k0) (eT : T.heap = h) (hk : k0 ≤ h.size) (hZ : Z.Warmed39 (s.setVm vm0).vm) (hEL : EW Z a0 EL) (h00 : s.heap = hs) (HR : CHr Z EL s.vm hs vm0 h) {t : FieldType} {z : Int32} (hret : meth.sig.returnType = some t) (hlk : meth.locks = false) (ht : t = .boolean ∨ t = .byte ∨ t = .char ∨ t = .short) (hd : decode c.code pc = .ok (.ireturn, 1)) (hC : cells ≤ C) (hN : slots ≤ N) (hQ : Q (some (.int (nar t z))) T.heap locs) : Go p e below (HE Z EL s C N) Q T (mkF m pc Ls (.int z :: S)) := by
  obtain ⟨fs, hr, hrun, hended, hW⟩ := X.leaveW hS (by rw [eT]; exact hk) (v := some (.int (nar t z))) (fun h => by rw [hret] at h; cases h) hlk
  exact ⟨_, _, Jvm.RoadKit.retN X hx hret ht hd hr, hrun, hended, _, _, rfl, hQ, own_he X hx hZ hEL h00 HR eT hW hC hN⟩
theorem Go.retIH (X : Stand p l e R (s.setVm vm0) m args below meth c T locs cells slots) (hx : p.tables.exec = Jvm.exec) (hS : s.Since vm0 k0) (eT : T.heap = h) (hk : k0 ≤ h.size) (hZ : Z.Warmed39 (s.setVm vm0).vm) (hEL : EW Z a0 EL) (h00 : s.heap = hs) (HR : CHr Z EL s.vm hs vm0 h) {z : Int32} (hret : meth.sig.returnType = some .int) (hlk : meth.locks = false) (hd : decode c.code pc = .ok (.ireturn, 1)) (hC : cells ≤ C) (hN : slots ≤ N) (hQ : Q (some (.int z)) T.heap locs) : Go p e below (HE Z EL s C N) Q T (mkF m pc Ls (.int z :: S)) := by
  obtain ⟨fs, hr, hrun, hended, hW⟩ := X.leaveW hS (by rw [eT]; exact hk) (v := some (.int z)) (fun h => by rw [hret] at h; cases h) hlk
  exact ⟨_, _, retOut X hx hret rfl (Or.inl ⟨rfl, Or.inl rfl, _, rfl⟩) hd hr, hrun, hended, _, _, rfl, hQ, own_he X hx hZ hEL h00 HR eT hW hC hN⟩
theorem Go.retJH (X : Stand p l e R (s.setVm vm0) m args below meth c T locs cells slots) (hx : p.tables.exec = Jvm.exec) (hS : s.Since vm0 k0) (eT : T.heap = h) (hk : k0 ≤ h.size) (hZ : Z.Warmed39 (s.setVm vm0).vm) (hEL : EW Z a0 EL) (h00 : s.heap = hs) (HR : CHr Z EL s.vm hs vm0 h) {z : Int64} (hret : meth.sig.returnType = some .long) (hlk : meth.locks = false) (hd : decode c.code pc = .ok (.lreturn, 1)) (hC : cells ≤ C) (hN : slots ≤ N) (hQ : Q (some (.long z)) T.heap locs) : Go p e below (HE Z EL s C N) Q T (mkF m pc Ls (.long z :: S)) := by
  obtain ⟨fs, hr, hrun, hended, hW⟩ := X.leaveW hS (by rw [eT]; exact hk) (v := some (.long z)) (fun h => by rw [hret] at h; cases h) hlk
  exact ⟨_, _, retOut X hx hret rfl (Or.inr (Or.inl ⟨rfl, rfl, _, rfl⟩)) hd hr, hrun, hended, _, _, rfl, hQ, own_he X hx hZ hEL h00 HR eT hW hC hN⟩
theorem Go.retAH (X : Stand p l e R (s.setVm vm0) m args below meth c T locs cells slots) (hx : p.tables.exec = Jvm.exec) (hS : s.Since vm0 k0) (eT : T.heap = h) (hk : k0 ≤ h.size) (hZ : Z.Warmed39 (s.setVm vm0).vm) (hEL : EW Z a0 EL) (h00 : s.heap = hs) (HR : CHr Z EL s.vm hs vm0 h) {w : Value} {t : FieldType} (hret : meth.sig.returnType = some t) (hlk : meth.locks = false) (ht : t.isReference = true) (hw : w.isRef = true) (hn : narrow t w = w) (hd : decode c.code pc = .ok (.areturn, 1)) (hC : cells ≤ C) (hN : slots ≤ N) (hQ : Q (some w) T.heap locs) : Go p e below (HE Z EL s C N) Q T (mkF m pc Ls (w :: S)) := by
  obtain ⟨fs, hr, hrun, hended, hW⟩ := X.leaveW hS (by rw [eT]; exact hk) (v := some w) (fun h => by rw [hret] at h; cases h) hlk
  exact ⟨_, _, retOut X hx hret hn (Or.inr (Or.inr (Or.inr (Or.inr ⟨rfl, ht, hw⟩)))) hd hr, hrun, hended, _, _, rfl, hQ, own_he X hx hZ hEL h00 HR eT hW hC hN⟩
theorem Go.retVH (X : Stand p l e R (s.setVm vm0) m args below meth c T locs cells slots) (hx : p.tables.exec = Jvm.exec) (hS : s.Since vm0 k0) (eT : T.heap = h) (hk : k0 ≤ h.size) (hZ : Z.Warmed39 (s.setVm vm0).vm) (hEL : EW Z a0 EL) (h00 : s.heap = hs) (HR : CHr Z EL s.vm hs vm0 h) (hret : meth.sig.returnType = none) (hlk : meth.locks = false) (hd : decode c.code pc = .ok (.return_, 1)) (hC : cells ≤ C) (hN : slots ≤ N) (hQ : Q none T.heap locs) : Go p e below (HE Z EL s C N) Q T (mkF m pc Ls []) := by
  obtain ⟨fs, hr, hrun, hended, hW⟩ := X.leaveW hS (by rw [eT]; exact hk) (v := none) (fun _ => rfl) hlk
  exact ⟨_, _, X.returnOut hx hret hd hr, hrun, hended, _, _, rfl, hQ, own_he X hx hZ hEL h00 HR eT hW hC hN⟩
theorem Go.ldcH (X : Stand p l e R (s.setVm vm0) m args below meth c T locs cells slots) (hx : p.tables.exec = Jvm.exec) (hZ : Z.Warmed39 (s.setVm vm0).vm) {text : String} {index : Nat} (hown : (s.setVm vm0).vm.findClass own = some m.cls) (w : (Jvm.Cond.stringLink own index text).before a0 Z = true) (wS : ∀ a ∈ Bundle.stringAtoms, a.before a0 Z = true) (hS : s.Since vm0 k0) (eT : T.heap = h) (hk : k0 ≤ h.size) (hEL : EW Z a0 EL) (hmem : (own, index) ∈ EL) (H : CHv Z EL vm0 h) {vs : List Value} {z : Int32} (ht : (∀ c ∈ text.toList, c.toNat < 256) ∧ text.toList.map (fun c => Value.int (Jvm.Lit.byteI c.toNat.toUInt16)) = vs) (hz : ¬ z < 0) (hl : z.toNatClampNeg = vs.length) (hd : decode c.code pc = .ok (.ldc index, 2)) {n : Nat} (hn : 4 * text.toList.length ≤ n) (hbig : n ≤ 536870912) (hc : cells + 2 ≤ R.cells) (hl' : slots + (n + 4) ≤ R.slots) (k : ∀ a T' h' k1 b kb, Stand p l e R (s.setVm T'.vm) m args below meth c T' locs (cells + 2) (slots + (n + 4)) → T'.heap = h' → Ext h h' → s.Since T'.vm k1 → k1 ≤ h'.size → Z.Warmed39 (s.setVm T'.vm).vm → (s.setVm T'.vm).vm.findClass own = some m.cls → Exa Z h' a "java/lang/String" → Fld Z h' a "java/lang/String" "coder" "B" (.int 0) → Fld Z h' a "java/lang/String" "value" "[B" (.ref b) → Arv Z h' b kb .byte z vs (.int 0) → CHr Z EL vm0 h T'.vm h' → (∀ x, Safe Z EL T'.vm h' x → x ≠ a ∧ x ≠ b) → Go p e below F Q T' (mkF m (pc + 2) Ls (.ref a :: S))) : Go p e below F Q T (mkF m pc Ls S) := by
  obtain ⟨a, T', h', k1, b, kb, X', e', E', hS', hk', hZ', ho', q1, q2, q3, q4, -, -, q5, -, q6, st⟩ := Jvm.RoadKit.ldcCH X hx hZ hown w wS eT hS hk hEL hmem H ht hz hl (g := mkF m pc Ls S) rfl hd hn hbig hc hl'
  exact (k a T' h' k1 b kb X' e' E' hS' hk' hZ' ho' q1 q2 q3 q4 q5 q6).st st
theorem Go.callSH (X : Stand p l e R (s.setVm vm0) m args below meth c T locs cells slots) (hx : p.tables.exec = Jvm.exec) (hZ : Z.Warmed39 (s.setVm vm0).vm) {index : Nat} {y : MethodName} {bytes : ByteArray} {maxL : Nat} {ret : Option FieldType} {rm : Room} {as' : Array Value} {Qy : Option Value → Heap → List Loc → Prop} (hM : MetFree l y (head1 [Jvm.Cond.code y bytes maxL ret] rm) (fun a U => a = as' ∧ Z.Warmed39 U.vm ∧ U.heap = h ∧ CHv Z EL U.vm h) (fun _ _ _ _ _ => True) (fun _ U o U' => ∃ v L, o = .returned v ∧ Qy v U'.heap L ∧ CHr Z EL U.vm U.heap U'.vm U'.heap ∧ ReturnedEndW U o U' L rm.cells rm.slots)) (hown : (s.setVm vm0).vm.findClass own = some m.cls) (wl : (Jvm.Cond.methodLink own index y).before a0 Z = true) (ws : (Jvm.Cond.static y).before a0 Z = true) (wi : (Jvm.Cond.initialized y.cls).before a0 Z = true) (wc : (Jvm.Cond.code y bytes maxL ret).before a0 Z = true) (hy : y.cls ≠ "java/lang/invoke/MethodHandle" ∧ y.cls ≠ "java/lang/invoke/VarHandle") (hS : s.Since vm0 k0) (eT : T.heap = h) (hk : k0 ≤ h.size) (hEL : EW Z a0 EL) (H : CHv Z EL vm0 h) {W : Nat} (hsize : Ls.size = c.maxLocals) {argsL : List Value} (hW : (S.map fun v => v.category).sum ≤ W) (hf : rm.frames + 1 ≤ R.frames) (hl : W + (maxL + 11) + rm.locals ≤ R.locals) (hc : cells + rm.cells ≤ R.cells) (hs : slots + rm.slots ≤ R.slots) {ps : List FieldType} {r : Option FieldType} (hds : parseMethodDescriptor y.desc = some ⟨ps, r⟩) (hlen : argsL.length = ps.length) (has : argsL.toArray = as') (hd : decode c.code pc = .ok (.invokestatic index, 3)) (k : ∀ v T' L, Stand p l e R (s.setVm T'.vm) m args below meth c T' (locs ++ L) (cells + rm.cells) (slots + rm.slots) → Qy v T'.heap L → s.Since T'.vm T'.heap.size → h.size ≤ T'.heap.size → Z.Warmed39 (s.setVm T'.vm).vm → (s.setVm T'.vm).vm.findClass own = some m.cls → CHr Z EL vm0 h T'.vm T'.heap → Go p e below F Q T' (mkF m (pc + 3) Ls (v.toList ++ S))) : Go p e below F Q T (mkF m pc Ls (argsL.reverse ++ S)) := by
  obtain ⟨_, _, ⟨T', L', k', n'⟩, -, X', hS', hg', ⟨L, hq, e1, e2, e3, hch⟩, st⟩ := Jvm.RoadKit.callSS X hx hown (mvT hZ wl) (mvT hZ ws) (mvT hZ wi) (mvT hZ wc) hy (backOfSH (s := s) (W := W) hM hZ wc wi hf hl hEL H) (g := mkF m pc Ls (argsL.reverse ++ S)) rfl hsize (argsL := argsL) (rest := S) (lenOf hds hlen) rfl (by show 2 * 0 + _ ≤ _; omega) hd (fun _ _ => ⟨has, eT, hc, hs⟩)
  dsimp only [Pt.U, Pt.locs, Pt.cells, Pt.slots] at X' hS' hg' e1 e2 e3 st hq hch
  subst e1 e2 e3
  subst eT
  obtain ⟨X2, hS2, hZ2, ho2⟩ := rebS hS hk X' hS' hg' hZ hown
  exact (k _ _ _ X2 hq hS2 hg' hZ2 ho2 hch).tr st
theorem Go.callIH (X : Stand p l e R (s.setVm vm0) m args below meth c T locs cells slots) (hx : p.tables.exec = Jvm.exec) (hZ : Z.Warmed39 (s.setVm vm0).vm) {index : Nat} {y : MethodName} {bytes : ByteArray} {maxL : Nat} {rm : Room} {as' : Array Value} {Qy : Option Value → Heap → List Loc → Prop} (hM : MetFree l y (head1 [Jvm.Cond.code y bytes maxL none] rm) (fun a U => a = as' ∧ Z.Warmed39 U.vm ∧ U.heap = h ∧ CHv Z EL U.vm h) (fun _ _ _ _ _ => True) (fun _ U o U' => ∃ v L, o = .returned v ∧ Qy v U'.heap L ∧ CHr Z EL U.vm U.heap U'.vm U'.heap ∧ ReturnedEndW U o U' L rm.cells rm.slots)) (hy1 : y.name = "<init>") (hown : (s.setVm vm0).vm.findClass own = some m.cls) (wl : (Jvm.Cond.methodLink own index y).before a0 Z = true) (ws : (Jvm.Cond.instanceMethod y).before a0 Z = true) (wi : (Jvm.Cond.initialized y.cls).before a0 Z = true) (wc : (Jvm.Cond.code y bytes maxL none).before a0 Z = true) (hy : y.cls ≠ "java/lang/invoke/MethodHandle" ∧ y.cls ≠ "java/lang/invoke/VarHandle") (hS : s.Since vm0 k0) (eT : T.heap = h) (hk : k0 ≤ h.size) (hEL : EW Z a0 EL) (H : CHv Z EL vm0 h) {a : Addr} {W : Nat} (hsize : Ls.size = c.maxLocals) {argsL : List Value} (hW : (S.map fun v => v.category).sum ≤ W) (hf : rm.frames + 1 ≤ R.frames) (hl : W + (maxL + 11) + rm.locals ≤ R.locals) (hc : cells + rm.cells ≤ R.cells) (hs : slots + rm.slots ≤ R.slots) {ps : List FieldType} {r : Option FieldType} (hds : parseMethodDescriptor y.desc = some ⟨ps, r⟩) (hlen : argsL.length = ps.length) (has : (.ref a :: argsL).toArray = as') (hd : decode c.code pc = .ok (.invokespecial index, 3)) (k : ∀ v T' L, Stand p l e R (s.setVm T'.vm) m args below meth c T' (locs ++ L) (cells + rm.cells) (slots + rm.slots) → Qy v T'.heap L → s.Since T'.vm T'.heap.size → h.size ≤ T'.heap.size → Z.Warmed39 (s.setVm T'.vm).vm → (s.setVm T'.vm).vm.findClass own = some m.cls → CHr Z EL vm0 h T'.vm T'.heap → Go p e below F Q T' (mkF m (pc + 3) Ls (v.toList ++ S))) : Go p e below F Q T (mkF m pc Ls (argsL.reverse ++ .ref a :: S)) := by
  obtain ⟨_, _, ⟨T', L', k', n'⟩, -, X', hS', hg', ⟨L, hq, e1, e2, e3, hch⟩, st⟩ := X.specialBackS hx hy1 hown (mvT hZ wl) (mvT hZ ws) (mvT hZ wc) hy (backOfSH (s := s) (W := W) hM hZ wc wi hf hl hEL H) (g := mkF m pc Ls (argsL.reverse ++ .ref a :: S)) rfl hsize (Steps.refl _) (a := a) (argsL := argsL) (rest := S) (lenOf hds hlen) rfl (by show 2 * 0 + _ ≤ _; omega) hd (fun _ _ => ⟨has, eT, hc, hs⟩)
  dsimp only [Pt.U, Pt.locs, Pt.cells, Pt.slots] at X' hS' hg' e1 e2 e3 st hq hch
  subst e1 e2 e3
  subst eT
  obtain ⟨X2, hS2, hZ2, ho2⟩ := rebS hS hk X' hS' hg' hZ hown
  exact (k _ _ _ X2 hq hS2 hg' hZ2 ho2 hch).tr st
end OwnKitH
theorem own_nar {c : Int32} (h : ¬ c < 0 ∧ ¬ (255 : Int32) < c) : nar .char c = c := by
  show c.toUInt32.toUInt16.toUInt32.toInt32 = c
  have h1 := c_i2c c
  have r := rng32 c
  rw [Int32.lt_iff_toInt_lt, Int32.lt_iff_toInt_lt] at h
  have e0 : (0 : Int32).toInt = 0 := rfl
  have e1 : (255 : Int32).toInt = 255 := rfl
  rw [← Int32.toInt_inj]
  omega
abbrev own_lo (cs : List Int32) : List Int32 := cs.map (fun c => c.toInt8.toInt32)
theorem own_up {cs : List Int32} (h : ∀ c ∈ cs, ¬ c < 0 ∧ ¬ (255 : Int32) < c) : ∀ c ∈ cs, ¬ c < 0 ∧ ¬ (65535 : Int32) < c := fun c hc => ⟨(h c hc).1, fun q => (h c hc).2 (by
  rw [Int32.lt_iff_toInt_lt] at q ⊢
  have e0 : (255 : Int32).toInt = 255 := rfl
  have e1 : (65535 : Int32).toInt = 65535 := rfl
  omega)⟩
def StrAt (Z : State) (h : Heap) (x t : Addr) (kb : ClassId) (cs : List Int32) : Prop := Exa Z h x "java/lang/String" ∧ Fld Z h x "java/lang/String" "coder" "B" (.int 0) ∧ Fld Z h x "java/lang/String" "value" "[B" (.ref t) ∧ Arv Z h t kb .byte (Int32.ofNat cs.length) ((own_lo cs).map Value.int) (.int 0)
section OwnStr
variable {Z : State} {h h' : Heap} {x t a : Addr} {kb : ClassId} {cs ds : List Int32} {ws : List Addr} {sl : Nat} {v : Value}
theorem StrAt.ext (S : StrAt Z h x t kb cs) (E : Ext h h') : StrAt Z h' x t kb cs := ⟨S.1.ext E, S.2.1.ext E, S.2.2.1.ext E, S.2.2.2.ext E⟩
theorem StrAt.keep (S : StrAt Z h x t kb cs) (K : Keep h h' ws) (hx : x ∉ ws) (ht : t ∉ ws) : StrAt Z h' x t kb cs := ⟨S.1.keep K, S.2.1.keep K hx, S.2.2.1.keep K hx, S.2.2.2.keep K ht⟩
theorem StrAt.wr (S : StrAt Z h x t kb cs) (W : Wr h h' a sl v) (hx : x ≠ a) (ht : t ≠ a) : StrAt Z h' x t kb cs := ⟨S.1.wr W, S.2.1.other W (Or.inl hx), S.2.2.1.other W (Or.inl hx), S.2.2.2.other W ht⟩
theorem StrAt.ltx (S : StrAt Z h x t kb cs) : x < h.size := S.1.lt
theorem StrAt.ltt (S : StrAt Z h x t kb cs) : t < h.size := S.2.2.2.lt
theorem StrAt.own_ne {a0 : Array Value} {k : Nat} (S : StrAt Z h x t kb cs) (wi : (Jvm.Cond.instantiable "java/lang/String" k).before a0 Z = true) : ¬ t = x := by
  obtain ⟨c, A, -⟩ := S.2.2.2
  exact fun q => ne_arr S.1 wi A q.symm
theorem own_eqv {w : Option Value} (q : (w = some (.int 1) ∧ cs = ds) ∨ (w = some (.int 0) ∧ ¬ cs = ds)) : w = some (.int (if cs = ds then (1 : Int32) else (0 : Int32))) := by
  rcases q with ⟨q1, q2⟩ | ⟨q1, q2⟩
  · rw [if_pos q2]; exact q1
  · rw [if_neg q2]; exact q1
end OwnStr
theorem own_hwords {Z : State} {a0 : Array Value} (hw : ∀ d ∈ tables_1, d.before a0 Z = true) : ∀ d ∈ StrChars.Road.words, d.before a0 Z = true := fun d hd => hw d ((by decide +kernel : ∀ d ∈ StrChars.Road.words, d ∈ tables_1) d hd)
theorem own_hwordsLen {Z : State} {a0 : Array Value} (hw : ∀ d ∈ tables_1, d.before a0 Z = true) : ∀ d ∈ StrChars.Road.wordsLen, d.before a0 Z = true := fun d hd => hw d ((by decide +kernel : ∀ d ∈ StrChars.Road.wordsLen, d ∈ tables_1) d hd)
theorem own_cod {cs : List Int32} (hp : ∀ c ∈ cs, ¬ c < 0 ∧ ¬ (255 : Int32) < c) : StrChars.Road.CodA cs 0 (Int32.ofNat cs.length) ((own_lo cs).map Value.int) := StrChars.Road.codOf (n := cs.length) rfl (fun c hc => (hp c hc).2)
theorem own_hwS {Z : State} {a0 : Array Value} (hw : ∀ d ∈ tables_1, d.before a0 Z = true) : ∀ a ∈ Bundle.stringAtoms, a.before a0 Z = true := fun d hd => hw d ((by decide +kernel : ∀ d ∈ Bundle.stringAtoms, d ∈ tables_1) d hd)

abbrev own_EL : List (String × Nat) := [("java/lang/String", 7)]
theorem own_hEL {Z : State} {a0 : Array Value} (hw : ∀ d ∈ tables_1, d.before a0 Z = true) : EW Z a0 own_EL := EW.cons (hw _ (List.mem_of_getElem? (i := 19) rfl)) (by decide) (EW.nil)
theorem own_safeNull {Z : State} {EL : List (String × Nat)} {vm : Vm} {h : Heap} {x : Addr} (hal : Z.vm.Alike vm) (E : Exa Z h x "java/lang/String") (F : Fld Z h x "java/lang/String" "value" "[B" .null) : Safe Z EL vm h x := fun B => by
  obtain ⟨cell, k, e1, e2, e3, -, -⟩ := E
  obtain ⟨p, -, u, a, -, q, -, G, rfl | rfl⟩ := B
  · obtain ⟨cell', cf, k', i, f, g1, g2, g3, g4, g5, g6, g7⟩ := F
    cases (show h[q.sa]? = some q.sC from G.ha).symm.trans g1
    obtain ⟨cS, ⟨⟨s1, s2, s3, ⟨cv, kv, iv, s4, s4'⟩, ⟨cc, kc, ic, s5, s5'⟩, s6, s7, s8, -⟩, -⟩, -⟩ := G
    obtain ⟨kv', z4⟩ := ff_back (U := Wst Z vm h) hal s4
    cases z4.symm.trans g2
    rw [s8] at g7; cases g7
  · cases (show h[q.sd]? = some q.SA from G.hd).symm.trans e1
    obtain ⟨cS, -, -, f, -⟩ := G
    have f : vm.findClass "[B" = some q.SA.cls := f
    rw [hal.findClass] at f
    obtain ⟨k1, q1, q2⟩ := Vm.findClass_spec f
    obtain ⟨k2, q3, q4⟩ := Vm.findClass_spec e2
    cases q1.symm.trans q3
    exact absurd (q2.symm.trans q4) (by decide)

theorem own_i2c {x : Int32} (h : 0 ≤ x.toInt ∧ x.toInt ≤ 255) : x.toUInt32.toUInt16.toUInt32.toInt32 = x := by
  have h1 := c_i2c x
  rw [← Int32.toInt_inj]
  omega
theorem own_br {c : Int32} (h : 0 ≤ c.toInt ∧ c.toInt ≤ 255) : ¬ c < 0 ∧ ¬ (255 : Int32) < c := by
  simp only [Int32.lt_iff_toInt_lt]
  have e0 : (0 : Int32).toInt = 0 := rfl
  have e3 : (255 : Int32).toInt = 255 := rfl
  omega
theorem own_and8 (y : Int32) : 0 ≤ (y &&& (255 : Int32)).toInt ∧ (y &&& (255 : Int32)).toInt ≤ 255 := by
  have h1 : (y &&& 255).toInt = y.toInt % (2 ^ 8 : Nat) := c_mask y 255 8 (by decide) (by decide)
  omega
theorem own_mem1 {P : Int32 → Prop} {a : Int32} (h : P a) : ∀ x ∈ [a], P x := by intro x hx; simp only [List.mem_cons, List.not_mem_nil, or_false] at hx; subst hx; exact h
theorem own_mem2 {P : Int32 → Prop} {a b : Int32} (h : P a) (h2 : P b) : ∀ x ∈ [a, b], P x := by intro x hx; simp only [List.mem_cons, List.not_mem_nil, or_false] at hx; rcases hx with rfl | rfl <;> assumption
theorem own_mem3 {P : Int32 → Prop} {a b c : Int32} (h : P a) (h2 : P b) (h3 : P c) : ∀ x ∈ [a, b, c], P x := by intro x hx; simp only [List.mem_cons, List.not_mem_nil, or_false] at hx; rcases hx with rfl | rfl | rfl <;> assumption
theorem own_mem4 {P : Int32 → Prop} {a b c d : Int32} (h : P a) (h2 : P b) (h3 : P c) (h4 : P d) : ∀ x ∈ [a, b, c, d], P x := by intro x hx; simp only [List.mem_cons, List.not_mem_nil, or_false] at hx; rcases hx with rfl | rfl | rfl | rfl <;> assumption

theorem d3_0 : decode jdk_42_method_149_code 0 = .ok (.aload_n 0, 1) := by decide +kernel
theorem d3_1 : decode jdk_42_method_149_code 1 = .ok (.invokespecial 1, 3) := by decide +kernel
theorem d3_4 : decode jdk_42_method_149_code 4 = .ok (.iload_n 3, 1) := by decide +kernel
theorem d3_5 : decode jdk_42_method_149_code 5 = .ok (.ifCond .ne 22, 3) := by decide +kernel
theorem d3_8 : decode jdk_42_method_149_code 8 = .ok (.aload_n 0, 1) := by decide +kernel
theorem d3_9 : decode jdk_42_method_149_code 9 = .ok (.ldc 7, 2) := by decide +kernel
theorem d3_11 : decode jdk_42_method_149_code 11 = .ok (.getfield 9, 3) := by decide +kernel
theorem d3_14 : decode jdk_42_method_149_code 14 = .ok (.putfield 9, 3) := by decide +kernel
theorem d3_17 : decode jdk_42_method_149_code 17 = .ok (.aload_n 0, 1) := by decide +kernel
theorem d3_18 : decode jdk_42_method_149_code 18 = .ok (.ldc 7, 2) := by decide +kernel
theorem d3_20 : decode jdk_42_method_149_code 20 = .ok (.getfield 15, 3) := by decide +kernel
theorem d3_23 : decode jdk_42_method_149_code 23 = .ok (.putfield 15, 3) := by decide +kernel
theorem d3_26 : decode jdk_42_method_149_code 26 = .ok (.return_, 1) := by decide +kernel
theorem pn_3 : plainName "java/lang/String" = true := by first | (simp [plainName, overriddenIn]; done) | decide +kernel
theorem ef_rm3e (m_ : MethodId) (x : Addr) (b : Addr) : entryFrame m_ #[(.ref x), (.ref b), (.int (0 : Int32)), (.int (0 : Int32)), .null] 6 = mkF m_ 0 #[.val (.ref x), .val (.ref b), .val (.int (0 : Int32)), .val (.int (0 : Int32)), .val .null, .unset] [] := by first | (simp [entryFrame, mkF, argsToLocals, Value.category]; done) | rfl
def Q3e (Z : State) (x : Addr) (b : Addr) (kC : ClassId) (h0 : Heap) (n0 : Nat) (v : Option Value) (h : Heap) (L : List Loc) : Prop := v = none ∧ Fr n0 L ∧ Keep h0 h [x] ∧ ∃ t kb, StrAt Z h x t kb []
set_option maxRecDepth 65536 in
set_option maxHeartbeats 40000000 in
theorem rm3e (l : Launch) (Z : State) (a0 : Array Value) (hw : ∀ d ∈ tables_1, d.before a0 Z = true) (ws : List Jvm.Cond) (x : Addr) (b : Addr) (kC : ClassId) (h0 : Heap) (n0 : Nat) (Z0 : n0 ≤ h0.size) (E_x : Exa Z h0 x "java/lang/String") (F_v : Fld Z h0 x "java/lang/String" "value" "[B" .null) (F_c : Fld Z h0 x "java/lang/String" "coder" "B" (.int (0 : Int32))) (g_x : n0 ≤ x) (V_b : Arv Z h0 b kC .char (0 : Int32) [] (.int (0 : Int32))) (neb : b ≠ x) :
    MetFree l (⟨"java/lang/String", "<init>", "([CIILjava/lang/Void;)V"⟩ : MethodName) (head1 (Jvm.Cond.code (⟨"java/lang/String", "<init>", "([CIILjava/lang/Void;)V"⟩ : MethodName) jdk_42_method_149_code 6 none :: ws) ({ frames := 1, cells := 4, slots := 8, locals := 12 } : Room)) (fun a_ U_ => a_ = #[(.ref x), (.ref b), (.int (0 : Int32)), (.int (0 : Int32)), .null] ∧ Z.Warmed39 U_.vm ∧ U_.heap = h0 ∧ CHv Z own_EL U_.vm h0) (fun _ _ _ _ _ => True) (fun _ U_ o_ V_ => ∃ v_ L_, o_ = .returned v_ ∧ Q3e Z x b kC h0 n0 v_ V_.heap L_ ∧ CHr Z own_EL U_.vm U_.heap V_.vm V_.heap ∧ ReturnedEndW U_ o_ V_ L_ ({ frames := 1, cells := 4, slots := 8, locals := 12 } : Room).cells ({ frames := 1, cells := 4, slots := 8, locals := 12 } : Room).slots) := by
  refine metOfH (EL := own_EL) (Q := Q3e Z x b kC h0 n0) (plainFor_of_name pn_3) ?_
  intro p_ e_ s_ m_ below meth c_ s₁ X0 hx hby hml hret hlk hZ hown hnm e0 hS h00 HR
  have hEL := own_hEL hw
  have hwS := own_hwS hw
  have hk : 0 ≤ h0.size := Nat.zero_le _
  rw [ef_rm3e]
  have N0 := Fr.nil n0
  have Q_x : Safe Z own_EL (s_.setVm s_.vm).vm h0 x := own_safeNull hZ.alike E_x F_v
  show Go p_ e_ below _ _ s₁ (mkF m_ 0 #[.val (.ref x), .val (.ref b), .val (.int (0 : Int32)), .val (.int (0 : Int32)), .val .null, .unset] [])
  refine Go.aloadN X0 hx (hb hby d3_0) rfl rfl ?_
  refine Go.initO X0 hx hZ hown (hw _ (List.mem_of_getElem? (i := 16) rfl)) (hw _ (List.mem_of_getElem? (i := 17) rfl)) (hw _ (List.mem_of_getElem? (i := 18) rfl)) e0 (by rw [hml]; rfl) (hb hby d3_1) (by decide) (W := 0) (Nat.le_of_ble_eq_true rfl) (by decide) ?_
  intro T1 X1 e1
  show Go p_ e_ below _ _ T1 (mkF m_ 4 #[.val (.ref x), .val (.ref b), .val (.int (0 : Int32)), .val (.int (0 : Int32)), .val .null, .unset] [])
  refine Go.iloadN X1 hx (hb hby d3_4) rfl ?_
  refine Go.ifNo X1 hx (hb hby d3_5) ((if0 _ _).trans (teq (by decide)).2) ?_
  show Go p_ e_ below _ _ T1 (mkF m_ 8 #[.val (.ref x), .val (.ref b), .val (.int (0 : Int32)), .val (.int (0 : Int32)), .val .null, .unset] [])
  refine Go.aloadN X1 hx (hb hby d3_8) rfl rfl ?_
  refine Go.ldcH X1 hx hZ hown (hw _ (List.mem_of_getElem? (i := 19) rfl)) hwS hS e1 hk hEL (List.mem_of_getElem? (i := 0) rfl) HR.1 (vs := []) (z := (0 : Int32)) (by decide) (by decide) (by decide) (hb hby d3_9) (n := 0) (by decide) (by decide) (by decide) (by decide) ?_
  intro lit2 T2 h2 k2 lb2 kb2 X2 e2 E2 hS2 hk2 hZ hown q1_2 q2_2 q3_2 q4_2 HC2 hsf2
  have Z2 : n0 ≤ h2.size := Nat.le_trans Z0 E2.1
  have K2 : Keep h0 h2 [x] := (Keep.refl h0 [x]).ext E2
  have E_2_x := E_x.ext E2
  have F_2_x_value := F_v.ext E2
  have F_2_x_coder := F_c.ext E2
  have V_2_b := V_b.ext E2
  have Q2_x := HC2.safe E_x.lt Q_x
  have HR2 := HR.trans HC2
  have ne_x_lit2 := (hsf2 x Q2_x).1
  have ne_x_lb2 := (hsf2 x Q2_x).2
  have S_lit2 : StrAt Z h2 lit2 lb2 kb2 [] := ⟨q1_2, q2_2, q3_2, q4_2⟩
  show Go p_ e_ below _ _ T2 (mkF m_ 11 #[.val (.ref x), .val (.ref b), .val (.int (0 : Int32)), .val (.int (0 : Int32)), .val .null, .unset] [(.ref lit2), (.ref x)])
  refine Go.getF X2 hx hZ hown (host := "") (Or.inl (hw _ (List.mem_of_getElem? (i := 25) rfl))) Via.refl e2 S_lit2.2.2.1 (hb hby d3_11) ?_
  intro T3 X3 e3
  show Go p_ e_ below _ _ T3 (mkF m_ 14 #[.val (.ref x), .val (.ref b), .val (.int (0 : Int32)), .val (.int (0 : Int32)), .val .null, .unset] [(.ref lb2), (.ref x)])
  refine Go.putF X3 hx hZ hown (host := "") (Or.inl (hw _ (List.mem_of_getElem? (i := 25) rfl))) Via.refl e3 F_2_x_value E_2_x (Or.inr ⟨(hw _ (List.mem_of_getElem? (i := 21) rfl)), rfl, hnm⟩) (hw _ (List.mem_of_getElem? (i := 7) rfl)) (ty := (.array .byte)) (by decide) rfl rfl (hb hby d3_14) ?_
  intro T4 h4 X4 e4 W4
  have N4 := Fr.snoc X4 N0 g_x
  have E_4_x := E_2_x.wr W4
  have F_4_x_value := F_2_x_value.same W4
  have F_4_x_coder := F_2_x_coder.other W4 (Or.inr (slot_ne (Or.inr (hw _ (List.mem_of_getElem? (i := 22) rfl))) (Or.inr (hw _ (List.mem_of_getElem? (i := 21) rfl))) (by decide) (t := .byte) (t' := (.array .byte)) (by decide) (by decide)))
  have V_4_b := V_2_b.other W4 neb
  have Q4_x := Safe.wr W4 Q2_x HR2.1 Q2_x
  have HR4 := HR2.trans (CHr.wr W4 Q2_x HR2.1)
  have S4_lit2 := S_lit2.wr W4 (Ne.symm ne_x_lit2) (Ne.symm ne_x_lb2)
  have K4 : Keep h0 h4 [x] := K2.wr W4 (Or.inl (List.mem_of_getElem? (i := 0) rfl))
  have Z4 : n0 ≤ h4.size := (by rw [W4.size]; exact Z2)
  have hk4 : _ ≤ h4.size := (by rw [W4.size]; exact hk2)
  show Go p_ e_ below _ _ T4 (mkF m_ 17 #[.val (.ref x), .val (.ref b), .val (.int (0 : Int32)), .val (.int (0 : Int32)), .val .null, .unset] [])
  refine Go.aloadN X4 hx (hb hby d3_17) rfl rfl ?_
  refine Go.ldcH X4 hx hZ hown (hw _ (List.mem_of_getElem? (i := 19) rfl)) hwS hS2 e4 hk4 hEL (List.mem_of_getElem? (i := 0) rfl) HR4.1 (vs := []) (z := (0 : Int32)) (by decide) (by decide) (by decide) (hb hby d3_18) (n := 0) (by decide) (by decide) (by decide) (by decide) ?_
  intro lit5 T5 h5 k5 lb5 kb5 X5 e5 E5 hS5 hk5 hZ hown q1_5 q2_5 q3_5 q4_5 HC5 hsf5
  have Z5 : n0 ≤ h5.size := Nat.le_trans Z4 E5.1
  have K5 : Keep h0 h5 [x] := K4.ext E5
  have E_5_x := E_4_x.ext E5
  have F_5_x_value := F_4_x_value.ext E5
  have F_5_x_coder := F_4_x_coder.ext E5
  have V_5_b := V_4_b.ext E5
  have Q5_x := HC5.safe E_4_x.lt Q4_x
  have HR5 := HR4.trans HC5
  have S5_lit2 := S4_lit2.ext E5
  have ne_x_lit5 := (hsf5 x Q5_x).1
  have ne_x_lb5 := (hsf5 x Q5_x).2
  have S_lit5 : StrAt Z h5 lit5 lb5 kb5 [] := ⟨q1_5, q2_5, q3_5, q4_5⟩
  show Go p_ e_ below _ _ T5 (mkF m_ 20 #[.val (.ref x), .val (.ref b), .val (.int (0 : Int32)), .val (.int (0 : Int32)), .val .null, .unset] [(.ref lit5), (.ref x)])
  refine Go.getF X5 hx hZ hown (host := "") (Or.inl (hw _ (List.mem_of_getElem? (i := 26) rfl))) Via.refl e5 S_lit5.2.1 (hb hby d3_20) ?_
  intro T6 X6 e6
  show Go p_ e_ below _ _ T6 (mkF m_ 23 #[.val (.ref x), .val (.ref b), .val (.int (0 : Int32)), .val (.int (0 : Int32)), .val .null, .unset] [(.int (0 : Int32)), (.ref x)])
  refine Go.putF X6 hx hZ hown (host := "") (Or.inl (hw _ (List.mem_of_getElem? (i := 26) rfl))) Via.refl e6 F_5_x_coder E_5_x (Or.inr ⟨(hw _ (List.mem_of_getElem? (i := 22) rfl)), rfl, hnm⟩) (hw _ (List.mem_of_getElem? (i := 7) rfl)) (ty := .byte) (by decide) rfl rfl (hb hby d3_23) ?_
  intro T7 h7 X7 e7 W7
  have N7 := Fr.snoc X7 N4 g_x
  have E_7_x := E_5_x.wr W7
  have F_7_x_value := F_5_x_value.other W7 (Or.inr (slot_ne (Or.inr (hw _ (List.mem_of_getElem? (i := 21) rfl))) (Or.inr (hw _ (List.mem_of_getElem? (i := 22) rfl))) (by decide) (t := (.array .byte)) (t' := .byte) (by decide) (by decide)))
  have F_7_x_coder := F_5_x_coder.same W7
  have V_7_b := V_5_b.other W7 neb
  have Q7_x := Safe.wr W7 Q5_x HR5.1 Q5_x
  have HR7 := HR5.trans (CHr.wr W7 Q5_x HR5.1)
  have S7_lit2 := S5_lit2.wr W7 (Ne.symm ne_x_lit2) (Ne.symm ne_x_lb2)
  have S7_lit5 := S_lit5.wr W7 (Ne.symm ne_x_lit5) (Ne.symm ne_x_lb5)
  have K7 : Keep h0 h7 [x] := K5.wr W7 (Or.inl (List.mem_of_getElem? (i := 0) rfl))
  have Z7 : n0 ≤ h7.size := (by rw [W7.size]; exact Z5)
  have hk7 : _ ≤ h7.size := (by rw [W7.size]; exact hk5)
  show Go p_ e_ below _ _ T7 (mkF m_ 26 #[.val (.ref x), .val (.ref b), .val (.int (0 : Int32)), .val (.int (0 : Int32)), .val .null, .unset] [])
  refine Go.retVH X7 hx hS5 e7 hk7 hZ hEL h00 HR7 hret hlk (hb hby d3_26) (by decide) (by decide) ?_
  rw [e7]
  exact ⟨rfl, N7, K7, _, _, ⟨E_7_x, F_7_x_coder, F_7_x_value, S7_lit2.2.2.2⟩⟩
theorem pd_oACIILjava_lang_VoidcV : parseMethodDescriptor "([CIILjava/lang/Void;)V" = some ⟨[(.array .char), .int, .int, (.object "java/lang/Void")], none⟩ := by decide +kernel
theorem d2_0 : decode jdk_42_method_3_code 0 = .ok (.aload_n 0, 1) := by decide +kernel
theorem d2_1 : decode jdk_42_method_3_code 1 = .ok (.aload_n 1, 1) := by decide +kernel
theorem d2_2 : decode jdk_42_method_3_code 2 = .ok (.iconst 0, 1) := by decide +kernel
theorem d2_3 : decode jdk_42_method_3_code 3 = .ok (.aload_n 1, 1) := by decide +kernel
theorem d2_4 : decode jdk_42_method_3_code 4 = .ok (.arraylength, 1) := by decide +kernel
theorem d2_5 : decode jdk_42_method_3_code 5 = .ok (.aconst_null, 1) := by decide +kernel
theorem d2_6 : decode jdk_42_method_3_code 6 = .ok (.invokespecial 27, 3) := by decide +kernel
theorem d2_9 : decode jdk_42_method_3_code 9 = .ok (.return_, 1) := by decide +kernel
theorem pn_2 : plainName "java/lang/String" = true := by first | (simp [plainName, overriddenIn]; done) | decide +kernel
theorem ef_rm2e (m_ : MethodId) (x : Addr) (b : Addr) : entryFrame m_ #[(.ref x), (.ref b)] 2 = mkF m_ 0 #[.val (.ref x), .val (.ref b)] [] := by first | (simp [entryFrame, mkF, argsToLocals, Value.category]; done) | rfl
def Q2e (Z : State) (x : Addr) (b : Addr) (kC : ClassId) (h0 : Heap) (n0 : Nat) (v : Option Value) (h : Heap) (L : List Loc) : Prop := v = none ∧ Fr n0 L ∧ Keep h0 h [x] ∧ ∃ t kb, StrAt Z h x t kb []
set_option maxRecDepth 65536 in
set_option maxHeartbeats 40000000 in
theorem rm2e (l : Launch) (Z : State) (a0 : Array Value) (hw : ∀ d ∈ tables_1, d.before a0 Z = true) (ws : List Jvm.Cond) (x : Addr) (b : Addr) (kC : ClassId) (h0 : Heap) (n0 : Nat) (Z0 : n0 ≤ h0.size) (E_x : Exa Z h0 x "java/lang/String") (F_v : Fld Z h0 x "java/lang/String" "value" "[B" .null) (F_c : Fld Z h0 x "java/lang/String" "coder" "B" (.int (0 : Int32))) (g_x : n0 ≤ x) (V_b : Arv Z h0 b kC .char (0 : Int32) [] (.int (0 : Int32))) (neb : b ≠ x) :
    MetFree l (⟨"java/lang/String", "<init>", "([C)V"⟩ : MethodName) (head1 (Jvm.Cond.code (⟨"java/lang/String", "<init>", "([C)V"⟩ : MethodName) jdk_42_method_3_code 2 none :: ws) ({ frames := 2, cells := 4, slots := 8, locals := 29 } : Room)) (fun a_ U_ => a_ = #[(.ref x), (.ref b)] ∧ Z.Warmed39 U_.vm ∧ U_.heap = h0 ∧ CHv Z own_EL U_.vm h0) (fun _ _ _ _ _ => True) (fun _ U_ o_ V_ => ∃ v_ L_, o_ = .returned v_ ∧ Q2e Z x b kC h0 n0 v_ V_.heap L_ ∧ CHr Z own_EL U_.vm U_.heap V_.vm V_.heap ∧ ReturnedEndW U_ o_ V_ L_ ({ frames := 2, cells := 4, slots := 8, locals := 29 } : Room).cells ({ frames := 2, cells := 4, slots := 8, locals := 29 } : Room).slots) := by
  refine metOfH (EL := own_EL) (Q := Q2e Z x b kC h0 n0) (plainFor_of_name pn_2) ?_
  intro p_ e_ s_ m_ below meth c_ s₁ X0 hx hby hml hret hlk hZ hown hnm e0 hS h00 HR
  have hEL := own_hEL hw
  have hwS := own_hwS hw
  have hk : 0 ≤ h0.size := Nat.zero_le _
  rw [ef_rm2e]
  have N0 := Fr.nil n0
  have Q_x : Safe Z own_EL (s_.setVm s_.vm).vm h0 x := own_safeNull hZ.alike E_x F_v
  show Go p_ e_ below _ _ s₁ (mkF m_ 0 #[.val (.ref x), .val (.ref b)] [])
  refine Go.aloadN X0 hx (hb hby d2_0) rfl rfl ?_
  refine Go.aloadN X0 hx (hb hby d2_1) rfl rfl ?_
  refine Go.iconst X0 hx (0 : Int32) (hb hby d2_2) rfl ?_
  refine Go.aloadN X0 hx (hb hby d2_3) rfl rfl ?_
  obtain ⟨cl1, Ar1, -, S1, M1, -, -⟩ := id V_b
  refine Go.arraylength X0 hx hZ e0 Ar1 S1 M1 (hb hby d2_4) ?_
  refine Go.aconstNull X0 hx (hb hby d2_5) ?_
  refine Go.callIH X0 hx hZ (rm3e l Z a0 hw [] x b kC h0 n0 Z0 E_x F_v F_c g_x V_b neb) rfl hown (hw _ (List.mem_of_getElem? (i := 12) rfl)) (hw _ (List.mem_of_getElem? (i := 13) rfl)) (hw _ (List.mem_of_getElem? (i := 8) rfl)) (hw _ (List.mem_of_getElem? (i := 15) rfl)) (by decide) hS e0 hk hEL HR.1 (a := x) (W := 0) (by rw [hml]; rfl) (argsL := [(.ref b), (.int (0 : Int32)), (.int (0 : Int32)), .null]) (S := []) (Nat.le_of_ble_eq_true rfl) (by decide) (by decide) (by decide) (by decide) pd_oACIILjava_lang_VoidcV rfl rfl (hb hby d2_6) ?_
  rintro _ T2 L2 X2 ⟨rfl, N2q, K2, t2, kb2, S_2⟩ hS2 hg2 hZ hown HC2
  have N2 := Fr.app N0 N2q
  have V_2_b := V_b.keep K2 (ninS neb nin0)
  have HR2 := HR.trans HC2
  have Z2 : n0 ≤ T2.heap.size := Nat.le_trans Z0 K2.1
  have hk2 : _ ≤ T2.heap.size := Nat.le_trans hk K2.1
  have KK2 : Keep h0 T2.heap [x] := (Keep.refl h0 [x]).trans K2 (allS (Or.inl (List.mem_of_getElem? (i := 0) rfl)) all0)
  show Go p_ e_ below _ _ T2 (mkF m_ 9 #[.val (.ref x), .val (.ref b)] [])
  refine Go.retVH X2 hx hS2 rfl (Nat.le_refl _) hZ hEL h00 HR2 hret hlk (hb hby d2_9) (by decide) (by decide) ?_
  exact ⟨rfl, N2, KK2, _, _, S_2⟩
theorem own_z (y : Int32) : 0 ≤ ((y &&& (2147483647 : Int32)) % (5 : Int32)).toInt ∧ ((y &&& (2147483647 : Int32)) % (5 : Int32)).toInt ≤ 4 := by
  have h1 : (y &&& 2147483647).toInt = y.toInt % (2 ^ 31 : Nat) := c_mask y 2147483647 31 (by decide) (by decide)
  have h2 := c_irem (y &&& 2147483647) 5 5 (by decide)
  omega
theorem own_z4 {z : Int32} (h : 0 ≤ z.toInt ∧ z.toInt ≤ 4) (h0 : ¬ z = 0) (h1 : ¬ z = 1) (h2 : ¬ z = 2) (h3 : ¬ z = 3) : z = 4 := by
  simp only [← Int32.toInt_inj] at h0 h1 h2 h3 ⊢
  have e0 : (0 : Int32).toInt = 0 := rfl
  have e1 : (1 : Int32).toInt = 1 := rfl
  have e2 : (2 : Int32).toInt = 2 := rfl
  have e3 : (3 : Int32).toInt = 3 := rfl
  have e4 : (4 : Int32).toInt = 4 := rfl
  omega
theorem own_bi {c : Int32} (h : 0 ≤ c.toInt ∧ c.toInt ≤ 255) : (c.toInt8.toInt32 = ((123 : Int32).toInt8.toInt32)) = (c = (123 : Int32)) := by
  apply propext
  have h1 := c_i2b c
  have h2 := c_i2b 123
  have e : (123 : Int32).toInt = 123 := rfl
  simp only [← Int32.toInt_inj]
  omega
def own_pk (p1 : Int32)  : Int32 := (if (p1 &&& (256 : Int32)) = (0 : Int32) then (nar .char ((p1 &&& (255 : Int32)).toUInt32.toUInt16.toUInt32.toInt32)) else (nar .char (123 : Int32)))
theorem d1_0 : decode method_2_code 0 = .ok (.iload_n 0, 1) := by decide +kernel
theorem d1_1 : decode method_2_code 1 = .ok (.sipush 256, 3) := by decide +kernel
theorem d1_4 : decode method_2_code 4 = .ok (.iand, 1) := by decide +kernel
theorem d1_5 : decode method_2_code 5 = .ok (.ifCond .eq 6, 3) := by decide +kernel
theorem d1_8 : decode method_2_code 8 = .ok (.bipush 123, 2) := by decide +kernel
theorem d1_10 : decode method_2_code 10 = .ok (.ireturn, 1) := by decide +kernel
theorem d1_11 : decode method_2_code 11 = .ok (.iload_n 0, 1) := by decide +kernel
theorem d1_12 : decode method_2_code 12 = .ok (.sipush 255, 3) := by decide +kernel
theorem d1_15 : decode method_2_code 15 = .ok (.iand, 1) := by decide +kernel
theorem d1_16 : decode method_2_code 16 = .ok (.i2c, 1) := by decide +kernel
theorem d1_17 : decode method_2_code 17 = .ok (.ireturn, 1) := by decide +kernel
theorem pn_1 : plainName "com/example/ordinance/ordinance/description/PathSegmentsIsTemplatePinLaw" = true := by first | (simp [plainName, overriddenIn]; done) | decide +kernel
theorem ef_rm1 (m_ : MethodId) (p1 : Int32) : entryFrame m_ #[(.int p1)] 1 = mkF m_ 0 #[.val (.int p1)] [] := by first | (simp [entryFrame, mkF, argsToLocals, Value.category]; done) | rfl
def Q1 (Z : State) (p1 : Int32)  (h0 : Heap) (n0 : Nat) (v : Option Value) (h : Heap) (L : List Loc) : Prop := v = some (.int (own_pk p1)) ∧ Fr n0 L ∧ h = h0
set_option maxRecDepth 65536 in
set_option maxHeartbeats 40000000 in
theorem rm1 (l : Launch) (Z : State) (a0 : Array Value) (hw : ∀ d ∈ tables_1, d.before a0 Z = true) (ws : List Jvm.Cond) (p1 : Int32)  (h0 : Heap) (n0 : Nat) (Z0 : n0 ≤ h0.size)  :
    MetFree l (⟨"com/example/ordinance/ordinance/description/PathSegmentsIsTemplatePinLaw", "pick", "(I)C"⟩ : MethodName) (head1 (Jvm.Cond.code (⟨"com/example/ordinance/ordinance/description/PathSegmentsIsTemplatePinLaw", "pick", "(I)C"⟩ : MethodName) method_2_code 1 (some .char) :: ws) ({ frames := 0, cells := 0, slots := 0, locals := 0 } : Room)) (fun a_ U_ => a_ = #[(.int p1)] ∧ Z.Warmed39 U_.vm ∧ U_.heap = h0) (fun _ _ _ _ _ => True) (fun _ U_ o_ V_ => ∃ v_ L_, o_ = .returned v_ ∧ Q1 Z p1 h0 n0 v_ V_.heap L_ ∧ FrameEnd U_ o_ V_ L_ ({ frames := 0, cells := 0, slots := 0, locals := 0 } : Room).cells ({ frames := 0, cells := 0, slots := 0, locals := 0 } : Room).slots) := by
  refine metOf (Q := Q1 Z p1 h0 n0) (plainFor_of_name pn_1) ?_
  intro p_ e_ s_ m_ below meth c_ s₁ X0 hx hby hml hret hlk hZ hown hnm e0
  rw [ef_rm1]
  have N0 := Fr.nil n0
  show Go p_ e_ below _ _ s₁ (mkF m_ 0 #[.val (.int p1)] [])
  refine Go.iloadN X0 hx (hb hby d1_0) rfl ?_
  refine Go.sipush X0 hx (256 : Int32) (hb hby d1_1) rfl ?_
  refine Go.iand X0 hx (hb hby d1_4) ?_
  by_cases hc5_1 : (p1 &&& (256 : Int32)) = (0 : Int32)
  · skip
    refine Go.ifYes X0 hx (pc' := 11) (hb hby d1_5) ((if0 _ _).trans (teq hc5_1).1) (by decide) (by decide) ?_
    show Go p_ e_ below _ _ s₁ (mkF m_ 11 #[.val (.int p1)] [])
    refine Go.iloadN X0 hx (hb hby d1_11) rfl ?_
    refine Go.sipush X0 hx (255 : Int32) (hb hby d1_12) rfl ?_
    refine Go.iand X0 hx (hb hby d1_15) ?_
    refine Go.i2c X0 hx (hb hby d1_16) ?_
    refine Go.retN X0 hx hret hlk (by simp) (hb hby d1_17) (by decide) (by decide) ?_
    exact ⟨by unfold own_pk; rw [if_pos hc5_1] <;> rfl, N0, e0⟩
  · skip
    refine Go.ifNo X0 hx (hb hby d1_5) ((if0 _ _).trans (feq hc5_1).1) ?_
    show Go p_ e_ below _ _ s₁ (mkF m_ 8 #[.val (.int p1)] [])
    refine Go.bipush X0 hx (123 : Int32) (hb hby d1_8) rfl ?_
    refine Go.retN X0 hx hret hlk (by simp) (hb hby d1_10) (by decide) (by decide) ?_
    exact ⟨by unfold own_pk; rw [if_neg hc5_1] <;> rfl, N0, e0⟩
theorem own_pkr (y : Int32) : 0 ≤ (own_pk y).toInt ∧ (own_pk y).toInt ≤ 255 := by
  unfold own_pk
  have e := own_and8 y
  have e2 : (own_pk y) = own_pk y := rfl
  split
  · show 0 ≤ (((y &&& (255 : Int32)).toUInt32.toUInt16.toUInt32.toInt32).toUInt32.toUInt16.toUInt32.toInt32).toInt ∧ (((y &&& (255 : Int32)).toUInt32.toUInt16.toUInt32.toInt32).toUInt32.toUInt16.toUInt32.toInt32).toInt ≤ 255
    rw [own_i2c e, own_i2c e]; exact e
  · decide
theorem d13_0 : decode jdk_29_method_65_code 0 = .ok (.iload_n 0, 1) := by decide +kernel
theorem d13_1 : decode jdk_29_method_65_code 1 = .ok (.iload_n 1, 1) := by decide +kernel
theorem d13_2 : decode jdk_29_method_65_code 2 = .ok (.if_icmp .lt 7, 3) := by decide +kernel
theorem d13_5 : decode jdk_29_method_65_code 5 = .ok (.iload_n 0, 1) := by decide +kernel
theorem d13_6 : decode jdk_29_method_65_code 6 = .ok (.goto 4, 3) := by decide +kernel
theorem d13_10 : decode jdk_29_method_65_code 10 = .ok (.ireturn, 1) := by decide +kernel
theorem ef_rm13 (m_ : MethodId)  : entryFrame m_ #[(.int (0 : Int32)), (.int (0 : Int32))] 2 = mkF m_ 0 #[.val (.int (0 : Int32)), .val (.int (0 : Int32))] [] := by first | (simp [entryFrame, mkF, argsToLocals, Value.category]; done) | rfl
def Q13 (Z : State)   (h0 : Heap) (n0 : Nat) (v : Option Value) (h : Heap) (L : List Loc) : Prop := v = some (.int (0 : Int32)) ∧ Fr n0 L ∧ h = h0
set_option maxRecDepth 65536 in
set_option maxHeartbeats 40000000 in
theorem rm13 (l : Launch) (Z : State) (a0 : Array Value) (hw : ∀ d ∈ tables_1, d.before a0 Z = true) (ws : List Jvm.Cond)   (h0 : Heap) (n0 : Nat) (Z0 : n0 ≤ h0.size)  :
    MetFree l (⟨"java/lang/Math", "max", "(II)I"⟩ : MethodName) (head1 (Jvm.Cond.code (⟨"java/lang/Math", "max", "(II)I"⟩ : MethodName) jdk_29_method_65_code 2 (some .int) :: ws) ({ frames := 0, cells := 0, slots := 0, locals := 0 } : Room)) (fun a_ U_ => a_ = #[(.int (0 : Int32)), (.int (0 : Int32))] ∧ Z.Warmed39 U_.vm ∧ U_.heap = h0) (fun _ _ _ _ _ => True) (fun _ U_ o_ V_ => ∃ v_ L_, o_ = .returned v_ ∧ Q13 Z  h0 n0 v_ V_.heap L_ ∧ FrameEnd U_ o_ V_ L_ ({ frames := 0, cells := 0, slots := 0, locals := 0 } : Room).cells ({ frames := 0, cells := 0, slots := 0, locals := 0 } : Room).slots) := by
  refine metOf (Q := Q13 Z  h0 n0) (Jvm.Free.JP.mathPlain rfl (by decide +kernel)) ?_
  intro p_ e_ s_ m_ below meth c_ s₁ X0 hx hby hml hret hlk hZ hown hnm e0
  rw [ef_rm13]
  have N0 := Fr.nil n0
  show Go p_ e_ below _ _ s₁ (mkF m_ 0 #[.val (.int (0 : Int32)), .val (.int (0 : Int32))] [])
  refine Go.iloadN X0 hx (hb hby d13_0) rfl ?_
  refine Go.iloadN X0 hx (hb hby d13_1) rfl ?_
  refine Go.icmpNo X0 hx (hb hby d13_2) (flt (by decide)).1 ?_
  show Go p_ e_ below _ _ s₁ (mkF m_ 5 #[.val (.int (0 : Int32)), .val (.int (0 : Int32))] [])
  refine Go.iloadN X0 hx (hb hby d13_5) rfl ?_
  refine Go.goto X0 hx (pc' := 10) (hb hby d13_6) (by decide) (by decide) ?_
  refine Go.retI X0 hx hret hlk (hb hby d13_10) (by decide) (by decide) ?_
  exact ⟨rfl, N0, e0⟩
theorem d12_0 : decode jdk_43_method_4_code 0 = .ok (.iload_n 0, 1) := by decide +kernel
theorem d12_1 : decode jdk_43_method_4_code 1 = .ok (.ifCond .lt 14, 3) := by decide +kernel
theorem d12_4 : decode jdk_43_method_4_code 4 = .ok (.iload_n 0, 1) := by decide +kernel
theorem d12_5 : decode jdk_43_method_4_code 5 = .ok (.sipush 255, 3) := by decide +kernel
theorem d12_8 : decode jdk_43_method_4_code 8 = .ok (.if_icmp .gt 7, 3) := by decide +kernel
theorem d12_11 : decode jdk_43_method_4_code 11 = .ok (.iconst 1, 1) := by decide +kernel
theorem d12_12 : decode jdk_43_method_4_code 12 = .ok (.goto 4, 3) := by decide +kernel
theorem d12_16 : decode jdk_43_method_4_code 16 = .ok (.ireturn, 1) := by decide +kernel
theorem pn_12 : plainName "java/lang/StringLatin1" = true := by first | (simp [plainName, overriddenIn]; done) | decide +kernel
theorem ef_rm12 (m_ : MethodId)  : entryFrame m_ #[(.int (123 : Int32))] 1 = mkF m_ 0 #[.val (.int (123 : Int32))] [] := by first | (simp [entryFrame, mkF, argsToLocals, Value.category]; done) | rfl
def Q12 (Z : State)   (h0 : Heap) (n0 : Nat) (v : Option Value) (h : Heap) (L : List Loc) : Prop := v = some (.int (1 : Int32)) ∧ Fr n0 L ∧ h = h0
set_option maxRecDepth 65536 in
set_option maxHeartbeats 40000000 in
theorem rm12 (l : Launch) (Z : State) (a0 : Array Value) (hw : ∀ d ∈ tables_1, d.before a0 Z = true) (ws : List Jvm.Cond)   (h0 : Heap) (n0 : Nat) (Z0 : n0 ≤ h0.size)  :
    MetFree l (⟨"java/lang/StringLatin1", "canEncode", "(I)Z"⟩ : MethodName) (head1 (Jvm.Cond.code (⟨"java/lang/StringLatin1", "canEncode", "(I)Z"⟩ : MethodName) jdk_43_method_4_code 1 (some .boolean) :: ws) ({ frames := 0, cells := 0, slots := 0, locals := 0 } : Room)) (fun a_ U_ => a_ = #[(.int (123 : Int32))] ∧ Z.Warmed39 U_.vm ∧ U_.heap = h0) (fun _ _ _ _ _ => True) (fun _ U_ o_ V_ => ∃ v_ L_, o_ = .returned v_ ∧ Q12 Z  h0 n0 v_ V_.heap L_ ∧ FrameEnd U_ o_ V_ L_ ({ frames := 0, cells := 0, slots := 0, locals := 0 } : Room).cells ({ frames := 0, cells := 0, slots := 0, locals := 0 } : Room).slots) := by
  refine metOf (Q := Q12 Z  h0 n0) (plainFor_of_name pn_12) ?_
  intro p_ e_ s_ m_ below meth c_ s₁ X0 hx hby hml hret hlk hZ hown hnm e0
  rw [ef_rm12]
  have N0 := Fr.nil n0
  show Go p_ e_ below _ _ s₁ (mkF m_ 0 #[.val (.int (123 : Int32))] [])
  refine Go.iloadN X0 hx (hb hby d12_0) rfl ?_
  refine Go.ifNo X0 hx (hb hby d12_1) ((if0 _ _).trans (flt (by decide)).1) ?_
  show Go p_ e_ below _ _ s₁ (mkF m_ 4 #[.val (.int (123 : Int32))] [])
  refine Go.iloadN X0 hx (hb hby d12_4) rfl ?_
  refine Go.sipush X0 hx (255 : Int32) (hb hby d12_5) rfl ?_
  refine Go.icmpNo X0 hx (hb hby d12_8) (flt (by decide)).2.2.1 ?_
  show Go p_ e_ below _ _ s₁ (mkF m_ 11 #[.val (.int (123 : Int32))] [])
  refine Go.iconst X0 hx (1 : Int32) (hb hby d12_11) rfl ?_
  refine Go.goto X0 hx (pc' := 16) (hb hby d12_12) (by decide) (by decide) ?_
  refine Go.retN X0 hx hret hlk (by simp) (hb hby d12_16) (by decide) (by decide) ?_
  exact ⟨rfl, N0, e0⟩
theorem d8_0 : decode jdk_42_method_154_code 0 = .ok (.getstatic 38, 3) := by decide +kernel
theorem d8_3 : decode jdk_42_method_154_code 3 = .ok (.ifCond .eq 14, 3) := by decide +kernel
theorem d8_6 : decode jdk_42_method_154_code 6 = .ok (.aload_n 0, 1) := by decide +kernel
theorem d8_7 : decode jdk_42_method_154_code 7 = .ok (.getfield 15, 3) := by decide +kernel
theorem d8_10 : decode jdk_42_method_154_code 10 = .ok (.ifCond .ne 7, 3) := by decide +kernel
theorem d8_13 : decode jdk_42_method_154_code 13 = .ok (.iconst 1, 1) := by decide +kernel
theorem d8_14 : decode jdk_42_method_154_code 14 = .ok (.goto 4, 3) := by decide +kernel
theorem d8_18 : decode jdk_42_method_154_code 18 = .ok (.ireturn, 1) := by decide +kernel
theorem pn_8 : plainName "java/lang/String" = true := by first | (simp [plainName, overriddenIn]; done) | decide +kernel
theorem ef_rm8 (m_ : MethodId) (x : Addr) : entryFrame m_ #[(.ref x)] 1 = mkF m_ 0 #[.val (.ref x)] [] := by first | (simp [entryFrame, mkF, argsToLocals, Value.category]; done) | rfl
def Q8 (Z : State) (x : Addr) (t : Addr) (kb : ClassId) (cs : List Int32) (zc : Int32) (h0 : Heap) (n0 : Nat) (v : Option Value) (h : Heap) (L : List Loc) : Prop := v = some (.int (1 : Int32)) ∧ Fr n0 L ∧ h = h0
set_option maxRecDepth 65536 in
set_option maxHeartbeats 40000000 in
theorem rm8 (l : Launch) (Z : State) (a0 : Array Value) (hw : ∀ d ∈ tables_1, d.before a0 Z = true) (ws : List Jvm.Cond) (x : Addr) (t : Addr) (kb : ClassId) (cs : List Int32) (zc : Int32) (h0 : Heap) (n0 : Nat) (Z0 : n0 ≤ h0.size) (O : Old Z n0 h0) (Sco : Sta Z Z.heap "java/lang/String" "COMPACT_STRINGS" "Z" (.int zc)) (hzc : ¬ zc = 0) (S_x : StrAt Z h0 x t kb cs) :
    MetFree l (⟨"java/lang/String", "isLatin1", "()Z"⟩ : MethodName) (head1 (Jvm.Cond.code (⟨"java/lang/String", "isLatin1", "()Z"⟩ : MethodName) jdk_42_method_154_code 1 (some .boolean) :: ws) ({ frames := 0, cells := 0, slots := 0, locals := 0 } : Room)) (fun a_ U_ => a_ = #[(.ref x)] ∧ Z.Warmed39 U_.vm ∧ U_.heap = h0) (fun _ _ _ _ _ => True) (fun _ U_ o_ V_ => ∃ v_ L_, o_ = .returned v_ ∧ Q8 Z x t kb cs zc h0 n0 v_ V_.heap L_ ∧ FrameEnd U_ o_ V_ L_ ({ frames := 0, cells := 0, slots := 0, locals := 0 } : Room).cells ({ frames := 0, cells := 0, slots := 0, locals := 0 } : Room).slots) := by
  refine metOf (Q := Q8 Z x t kb cs zc h0 n0) (plainFor_of_name pn_8) ?_
  intro p_ e_ s_ m_ below meth c_ s₁ X0 hx hby hml hret hlk hZ hown hnm e0
  rw [ef_rm8]
  have N0 := Fr.nil n0
  show Go p_ e_ below _ _ s₁ (mkF m_ 0 #[.val (.ref x)] [])
  refine Go.getS X0 hx hZ hown (host := "") (Or.inl (hw _ (List.mem_of_getElem? (i := 46) rfl))) Via.refl e0 (Sco.ext O.2) (hb hby d8_0) ?_
  intro T1 X1 e1
  show Go p_ e_ below _ _ T1 (mkF m_ 3 #[.val (.ref x)] [(.int zc)])
  refine Go.ifNo X1 hx (hb hby d8_3) ((if0 _ _).trans (feq hzc).1) ?_
  show Go p_ e_ below _ _ T1 (mkF m_ 6 #[.val (.ref x)] [])
  refine Go.aloadN X1 hx (hb hby d8_6) rfl rfl ?_
  refine Go.getF X1 hx hZ hown (host := "") (Or.inl (hw _ (List.mem_of_getElem? (i := 26) rfl))) Via.refl e1 S_x.2.1 (hb hby d8_7) ?_
  intro T2 X2 e2
  show Go p_ e_ below _ _ T2 (mkF m_ 10 #[.val (.ref x)] [(.int (0 : Int32))])
  refine Go.ifNo X2 hx (hb hby d8_10) ((if0 _ _).trans (teq rfl).2) ?_
  show Go p_ e_ below _ _ T2 (mkF m_ 13 #[.val (.ref x)] [])
  refine Go.iconst X2 hx (1 : Int32) (hb hby d8_13) rfl ?_
  refine Go.goto X2 hx (pc' := 18) (hb hby d8_14) (by decide) (by decide) ?_
  refine Go.retN X2 hx hret hlk (by simp) (hb hby d8_18) (by decide) (by decide) ?_
  exact ⟨rfl, N0, e2⟩
theorem d14_0 : decode jdk_29_method_69_code 0 = .ok (.iload_n 0, 1) := by decide +kernel
theorem d14_1 : decode jdk_29_method_69_code 1 = .ok (.iload_n 1, 1) := by decide +kernel
theorem d14_2 : decode jdk_29_method_69_code 2 = .ok (.if_icmp .gt 7, 3) := by decide +kernel
theorem d14_5 : decode jdk_29_method_69_code 5 = .ok (.iload_n 0, 1) := by decide +kernel
theorem d14_6 : decode jdk_29_method_69_code 6 = .ok (.goto 4, 3) := by decide +kernel
theorem d14_10 : decode jdk_29_method_69_code 10 = .ok (.ireturn, 1) := by decide +kernel
theorem ef_rm14_0 (m_ : MethodId)  : entryFrame m_ #[(.int (0 : Int32)), (.int (0 : Int32))] 2 = mkF m_ 0 #[.val (.int (0 : Int32)), .val (.int (0 : Int32))] [] := by first | (simp [entryFrame, mkF, argsToLocals, Value.category]; done) | rfl
def Q14_0 (Z : State)   (h0 : Heap) (n0 : Nat) (v : Option Value) (h : Heap) (L : List Loc) : Prop := v = some (.int (0 : Int32)) ∧ Fr n0 L ∧ h = h0
set_option maxRecDepth 65536 in
set_option maxHeartbeats 40000000 in
theorem rm14_0 (l : Launch) (Z : State) (a0 : Array Value) (hw : ∀ d ∈ tables_1, d.before a0 Z = true) (ws : List Jvm.Cond)   (h0 : Heap) (n0 : Nat) (Z0 : n0 ≤ h0.size)  :
    MetFree l (⟨"java/lang/Math", "min", "(II)I"⟩ : MethodName) (head1 (Jvm.Cond.code (⟨"java/lang/Math", "min", "(II)I"⟩ : MethodName) jdk_29_method_69_code 2 (some .int) :: ws) ({ frames := 0, cells := 0, slots := 0, locals := 0 } : Room)) (fun a_ U_ => a_ = #[(.int (0 : Int32)), (.int (0 : Int32))] ∧ Z.Warmed39 U_.vm ∧ U_.heap = h0) (fun _ _ _ _ _ => True) (fun _ U_ o_ V_ => ∃ v_ L_, o_ = .returned v_ ∧ Q14_0 Z  h0 n0 v_ V_.heap L_ ∧ FrameEnd U_ o_ V_ L_ ({ frames := 0, cells := 0, slots := 0, locals := 0 } : Room).cells ({ frames := 0, cells := 0, slots := 0, locals := 0 } : Room).slots) := by
  refine metOf (Q := Q14_0 Z  h0 n0) (Jvm.Free.JP.mathPlain rfl (by decide +kernel)) ?_
  intro p_ e_ s_ m_ below meth c_ s₁ X0 hx hby hml hret hlk hZ hown hnm e0
  rw [ef_rm14_0]
  have N0 := Fr.nil n0
  show Go p_ e_ below _ _ s₁ (mkF m_ 0 #[.val (.int (0 : Int32)), .val (.int (0 : Int32))] [])
  refine Go.iloadN X0 hx (hb hby d14_0) rfl ?_
  refine Go.iloadN X0 hx (hb hby d14_1) rfl ?_
  refine Go.icmpNo X0 hx (hb hby d14_2) (flt (by decide)).2.2.1 ?_
  show Go p_ e_ below _ _ s₁ (mkF m_ 5 #[.val (.int (0 : Int32)), .val (.int (0 : Int32))] [])
  refine Go.iloadN X0 hx (hb hby d14_5) rfl ?_
  refine Go.goto X0 hx (pc' := 10) (hb hby d14_6) (by decide) (by decide) ?_
  refine Go.retI X0 hx hret hlk (hb hby d14_10) (by decide) (by decide) ?_
  exact ⟨rfl, N0, e0⟩
theorem pd_oIcZ : parseMethodDescriptor "(I)Z" = some ⟨[.int], some .boolean⟩ := by decide +kernel
theorem pd_oIIcI : parseMethodDescriptor "(II)I" = some ⟨[.int, .int], some .int⟩ := by decide +kernel
def own_f11_0  : Int32 := (-1 : Int32)
theorem d11_0 : decode jdk_43_method_22_code 0 = .ok (.iload_n 1, 1) := by decide +kernel
theorem d11_1 : decode jdk_43_method_22_code 1 = .ok (.invokestatic 88, 3) := by decide +kernel
theorem d11_4 : decode jdk_43_method_22_code 4 = .ok (.ifCond .ne 5, 3) := by decide +kernel
theorem d11_9 : decode jdk_43_method_22_code 9 = .ok (.iload_n 2, 1) := by decide +kernel
theorem d11_10 : decode jdk_43_method_22_code 10 = .ok (.iconst 0, 1) := by decide +kernel
theorem d11_11 : decode jdk_43_method_22_code 11 = .ok (.invokestatic 92, 3) := by decide +kernel
theorem d11_14 : decode jdk_43_method_22_code 14 = .ok (.istore_n 2, 1) := by decide +kernel
theorem d11_15 : decode jdk_43_method_22_code 15 = .ok (.iload_n 3, 1) := by decide +kernel
theorem d11_16 : decode jdk_43_method_22_code 16 = .ok (.aload_n 0, 1) := by decide +kernel
theorem d11_17 : decode jdk_43_method_22_code 17 = .ok (.arraylength, 1) := by decide +kernel
theorem d11_18 : decode jdk_43_method_22_code 18 = .ok (.invokestatic 38, 3) := by decide +kernel
theorem d11_21 : decode jdk_43_method_22_code 21 = .ok (.istore_n 3, 1) := by decide +kernel
theorem d11_22 : decode jdk_43_method_22_code 22 = .ok (.iload_n 2, 1) := by decide +kernel
theorem d11_23 : decode jdk_43_method_22_code 23 = .ok (.iload_n 3, 1) := by decide +kernel
theorem d11_24 : decode jdk_43_method_22_code 24 = .ok (.if_icmp .lt 5, 3) := by decide +kernel
theorem d11_27 : decode jdk_43_method_22_code 27 = .ok (.iconst (-1), 1) := by decide +kernel
theorem d11_28 : decode jdk_43_method_22_code 28 = .ok (.ireturn, 1) := by decide +kernel
theorem pn_11 : plainName "java/lang/StringLatin1" = true := by first | (simp [plainName, overriddenIn]; done) | decide +kernel
theorem ef_rm11_0 (m_ : MethodId) (t : Addr) : entryFrame m_ #[(.ref t), (.int (123 : Int32)), (.int (0 : Int32)), (.int (0 : Int32))] 4 = mkF m_ 0 #[.val (.ref t), .val (.int (123 : Int32)), .val (.int (0 : Int32)), .val (.int (0 : Int32))] [] := by first | (simp [entryFrame, mkF, argsToLocals, Value.category]; done) | rfl
def Q11_0 (Z : State) (t : Addr) (kb : ClassId)  (h0 : Heap) (n0 : Nat) (v : Option Value) (h : Heap) (L : List Loc) : Prop := v = some (.int (own_f11_0 )) ∧ Fr n0 L ∧ h = h0
set_option maxRecDepth 65536 in
set_option maxHeartbeats 40000000 in
theorem rm11_0 (l : Launch) (Z : State) (a0 : Array Value) (hw : ∀ d ∈ tables_1, d.before a0 Z = true) (ws : List Jvm.Cond) (t : Addr) (kb : ClassId)  (h0 : Heap) (n0 : Nat) (Z0 : n0 ≤ h0.size) (V_t : Arv Z h0 t kb .byte (0 : Int32) [] (.int (0 : Int32))) :
    MetFree l (⟨"java/lang/StringLatin1", "indexOf", "([BIII)I"⟩ : MethodName) (head1 (Jvm.Cond.code (⟨"java/lang/StringLatin1", "indexOf", "([BIII)I"⟩ : MethodName) jdk_43_method_22_code 4 (some .int) :: ws) ({ frames := 1, cells := 0, slots := 0, locals := 13 } : Room)) (fun a_ U_ => a_ = #[(.ref t), (.int (123 : Int32)), (.int (0 : Int32)), (.int (0 : Int32))] ∧ Z.Warmed39 U_.vm ∧ U_.heap = h0) (fun _ _ _ _ _ => True) (fun _ U_ o_ V_ => ∃ v_ L_, o_ = .returned v_ ∧ Q11_0 Z t kb h0 n0 v_ V_.heap L_ ∧ FrameEnd U_ o_ V_ L_ ({ frames := 1, cells := 0, slots := 0, locals := 13 } : Room).cells ({ frames := 1, cells := 0, slots := 0, locals := 13 } : Room).slots) := by
  refine metOf (Q := Q11_0 Z t kb h0 n0) (plainFor_of_name pn_11) ?_
  intro p_ e_ s_ m_ below meth c_ s₁ X0 hx hby hml hret hlk hZ hown hnm e0
  rw [ef_rm11_0]
  have N0 := Fr.nil n0
  show Go p_ e_ below _ _ s₁ (mkF m_ 0 #[.val (.ref t), .val (.int (123 : Int32)), .val (.int (0 : Int32)), .val (.int (0 : Int32))] [])
  refine Go.iloadN X0 hx (hb hby d11_0) rfl ?_
  refine Go.callS X0 hx hZ (rm12 l Z a0 hw [] h0 n0 Z0) hown (hw _ (List.mem_of_getElem? (i := 61) rfl)) (hw _ (List.mem_of_getElem? (i := 62) rfl)) (hw _ (List.mem_of_getElem? (i := 59) rfl)) (hw _ (List.mem_of_getElem? (i := 63) rfl)) (by decide) e0 (W := 0) (by rw [hml]; rfl) (argsL := [(.int (123 : Int32))]) (S := []) (Nat.le_of_ble_eq_true rfl) (by decide) (by decide) (by decide) (by decide) pd_oIcZ rfl rfl (hb hby d11_1) ?_
  rintro _ T1 L1 X1 ⟨rfl, N1q, e1⟩
  have N1 := Fr.app N0 N1q
  show Go p_ e_ below _ _ T1 (mkF m_ 4 #[.val (.ref t), .val (.int (123 : Int32)), .val (.int (0 : Int32)), .val (.int (0 : Int32))] [(.int (1 : Int32))])
  refine Go.ifYes X1 hx (pc' := 9) (hb hby d11_4) ((if0 _ _).trans (feq (by decide)).2) (by decide) (by decide) ?_
  show Go p_ e_ below _ _ T1 (mkF m_ 9 #[.val (.ref t), .val (.int (123 : Int32)), .val (.int (0 : Int32)), .val (.int (0 : Int32))] [])
  refine Go.iloadN X1 hx (hb hby d11_9) rfl ?_
  refine Go.iconst X1 hx (0 : Int32) (hb hby d11_10) rfl ?_
  refine Go.callS X1 hx hZ (rm13 l Z a0 hw [] h0 n0 Z0) hown (hw _ (List.mem_of_getElem? (i := 64) rfl)) (hw _ (List.mem_of_getElem? (i := 65) rfl)) (hw _ (List.mem_of_getElem? (i := 66) rfl)) (hw _ (List.mem_of_getElem? (i := 67) rfl)) (by decide) e1 (W := 0) (by rw [hml]; rfl) (argsL := [(.int (0 : Int32)), (.int (0 : Int32))]) (S := []) (Nat.le_of_ble_eq_true rfl) (by decide) (by decide) (by decide) (by decide) pd_oIIcI rfl rfl (hb hby d11_11) ?_
  rintro _ T2 L2 X2 ⟨rfl, N2q, e2⟩
  have N2 := Fr.app N1 N2q
  show Go p_ e_ below _ _ T2 (mkF m_ 14 #[.val (.ref t), .val (.int (123 : Int32)), .val (.int (0 : Int32)), .val (.int (0 : Int32))] [(.int (0 : Int32))])
  refine Go.istoreN X2 hx (l' := #[.val (.ref t), .val (.int (123 : Int32)), .val (.int (0 : Int32)), .val (.int (0 : Int32))]) (hb hby d11_14) rfl ?_
  refine Go.iloadN X2 hx (hb hby d11_15) rfl ?_
  refine Go.aloadN X2 hx (hb hby d11_16) rfl rfl ?_
  obtain ⟨cl3, Ar3, -, S3, M3, -, -⟩ := id V_t
  refine Go.arraylength X2 hx hZ e2 Ar3 S3 M3 (hb hby d11_17) ?_
  refine Go.callS X2 hx hZ (rm14_0 l Z a0 hw [] h0 n0 Z0) hown (hw _ (List.mem_of_getElem? (i := 68) rfl)) (hw _ (List.mem_of_getElem? (i := 69) rfl)) (hw _ (List.mem_of_getElem? (i := 66) rfl)) (hw _ (List.mem_of_getElem? (i := 70) rfl)) (by decide) e2 (W := 0) (by rw [hml]; rfl) (argsL := [(.int (0 : Int32)), (.int (0 : Int32))]) (S := []) (Nat.le_of_ble_eq_true rfl) (by decide) (by decide) (by decide) (by decide) pd_oIIcI rfl rfl (hb hby d11_18) ?_
  rintro _ T4 L4 X4 ⟨rfl, N4q, e4⟩
  have N4 := Fr.app N2 N4q
  show Go p_ e_ below _ _ T4 (mkF m_ 21 #[.val (.ref t), .val (.int (123 : Int32)), .val (.int (0 : Int32)), .val (.int (0 : Int32))] [(.int (0 : Int32))])
  refine Go.istoreN X4 hx (l' := #[.val (.ref t), .val (.int (123 : Int32)), .val (.int (0 : Int32)), .val (.int (0 : Int32))]) (hb hby d11_21) rfl ?_
  refine Go.iloadN X4 hx (hb hby d11_22) rfl ?_
  refine Go.iloadN X4 hx (hb hby d11_23) rfl ?_
  refine Go.icmpNo X4 hx (hb hby d11_24) (flt (by decide)).1 ?_
  show Go p_ e_ below _ _ T4 (mkF m_ 27 #[.val (.ref t), .val (.int (123 : Int32)), .val (.int (0 : Int32)), .val (.int (0 : Int32))] [])
  refine Go.iconst X4 hx (-1 : Int32) (hb hby d11_27) rfl ?_
  refine Go.retI X4 hx hret hlk (hb hby d11_28) (by decide) (by decide) ?_
  exact ⟨by unfold own_f11_0; rfl, N4, e4⟩
theorem pd_ocZ : parseMethodDescriptor "()Z" = some ⟨[], some .boolean⟩ := by decide +kernel
theorem pd_ocI : parseMethodDescriptor "()I" = some ⟨[], some .int⟩ := by decide +kernel
theorem pd_oABIIIcI : parseMethodDescriptor "([BIII)I" = some ⟨[(.array .byte), .int, .int, .int], some .int⟩ := by decide +kernel
def own_f7_0  : Int32 := (own_f11_0 )
theorem d7_0 : decode jdk_42_method_80_code 0 = .ok (.aload_n 0, 1) := by decide +kernel
theorem d7_1 : decode jdk_42_method_80_code 1 = .ok (.invokevirtual 492, 3) := by decide +kernel
theorem d7_4 : decode jdk_42_method_80_code 4 = .ok (.ifCond .eq 19, 3) := by decide +kernel
theorem d7_7 : decode jdk_42_method_80_code 7 = .ok (.aload_n 0, 1) := by decide +kernel
theorem d7_8 : decode jdk_42_method_80_code 8 = .ok (.getfield 9, 3) := by decide +kernel
theorem d7_11 : decode jdk_42_method_80_code 11 = .ok (.iload_n 1, 1) := by decide +kernel
theorem d7_12 : decode jdk_42_method_80_code 12 = .ok (.iload_n 2, 1) := by decide +kernel
theorem d7_13 : decode jdk_42_method_80_code 13 = .ok (.aload_n 0, 1) := by decide +kernel
theorem d7_14 : decode jdk_42_method_80_code 14 = .ok (.invokevirtual 505, 3) := by decide +kernel
theorem d7_17 : decode jdk_42_method_80_code 17 = .ok (.invokestatic 637, 3) := by decide +kernel
theorem d7_20 : decode jdk_42_method_80_code 20 = .ok (.goto 16, 3) := by decide +kernel
theorem d7_36 : decode jdk_42_method_80_code 36 = .ok (.ireturn, 1) := by decide +kernel
theorem pn_7 : plainName "java/lang/String" = true := by first | (simp [plainName, overriddenIn]; done) | decide +kernel
theorem ef_rm7_0 (m_ : MethodId) (x : Addr) : entryFrame m_ #[(.ref x), (.int (123 : Int32)), (.int (0 : Int32))] 3 = mkF m_ 0 #[.val (.ref x), .val (.int (123 : Int32)), .val (.int (0 : Int32))] [] := by first | (simp [entryFrame, mkF, argsToLocals, Value.category]; done) | rfl
def Q7_0 (Z : State) (x : Addr) (t : Addr) (kb : ClassId)  (zc : Int32) (h0 : Heap) (n0 : Nat) (v : Option Value) (h : Heap) (L : List Loc) : Prop := v = some (.int (own_f7_0 )) ∧ Fr n0 L ∧ h = h0
set_option maxRecDepth 65536 in
set_option maxHeartbeats 40000000 in
theorem rm7_0 (l : Launch) (Z : State) (a0 : Array Value) (hw : ∀ d ∈ tables_1, d.before a0 Z = true) (ws : List Jvm.Cond) (x : Addr) (t : Addr) (kb : ClassId)  (zc : Int32) (h0 : Heap) (n0 : Nat) (Z0 : n0 ≤ h0.size) (O : Old Z n0 h0) (Sco : Sta Z Z.heap "java/lang/String" "COMPACT_STRINGS" "Z" (.int zc)) (hzc : ¬ zc = 0) (S_x : StrAt Z h0 x t kb []) (hp : ∀ c ∈ ([] : List Int32), ¬ c < 0 ∧ ¬ (255 : Int32) < c) :
    MetFree l (⟨"java/lang/String", "indexOf", "(II)I"⟩ : MethodName) (head1 (Jvm.Cond.code (⟨"java/lang/String", "indexOf", "(II)I"⟩ : MethodName) jdk_42_method_80_code 3 (some .int) :: ws) ({ frames := 2, cells := 0, slots := 0, locals := 28 } : Room)) (fun a_ U_ => a_ = #[(.ref x), (.int (123 : Int32)), (.int (0 : Int32))] ∧ Z.Warmed39 U_.vm ∧ U_.heap = h0) (fun _ _ _ _ _ => True) (fun _ U_ o_ V_ => ∃ v_ L_, o_ = .returned v_ ∧ Q7_0 Z x t kb zc h0 n0 v_ V_.heap L_ ∧ FrameEnd U_ o_ V_ L_ ({ frames := 2, cells := 0, slots := 0, locals := 28 } : Room).cells ({ frames := 2, cells := 0, slots := 0, locals := 28 } : Room).slots) := by
  refine metOf (Q := Q7_0 Z x t kb zc h0 n0) (plainFor_of_name pn_7) ?_
  intro p_ e_ s_ m_ below meth c_ s₁ X0 hx hby hml hret hlk hZ hown hnm e0
  rw [ef_rm7_0]
  have N0 := Fr.nil n0
  show Go p_ e_ below _ _ s₁ (mkF m_ 0 #[.val (.ref x), .val (.int (123 : Int32)), .val (.int (0 : Int32))] [])
  refine Go.aloadN X0 hx (hb hby d7_0) rfl rfl ?_
  refine Go.callV X0 hx hZ (y0 := (⟨"java/lang/String", "isLatin1", "()Z"⟩ : MethodName)) (rm8 l Z a0 hw [] x t kb [] zc h0 n0 Z0 O Sco hzc S_x) (by decide) hown (hw _ (List.mem_of_getElem? (i := 41) rfl)) (hw _ (List.mem_of_getElem? (i := 42) rfl)) (notFace_of_selects (args := #[]) (mvT hZ (hw _ (List.mem_of_getElem? (i := 44) rfl)))) (hw _ (List.mem_of_getElem? (i := 44) rfl)) (hw _ (List.mem_of_getElem? (i := 43) rfl)) (hw _ (List.mem_of_getElem? (i := 8) rfl)) (hw _ (List.mem_of_getElem? (i := 45) rfl)) e0 S_x.1 (W := 0) (by rw [hml]; rfl) (argsL := []) (S := []) (Nat.le_of_ble_eq_true rfl) (by decide) (by decide) (by decide) (by decide) pd_ocZ rfl rfl (hb hby d7_1) ?_
  rintro _ T1 L1 X1 ⟨rfl, N1q, e1⟩
  have N1 := Fr.app N0 N1q
  show Go p_ e_ below _ _ T1 (mkF m_ 4 #[.val (.ref x), .val (.int (123 : Int32)), .val (.int (0 : Int32))] [(.int (1 : Int32))])
  refine Go.ifNo X1 hx (hb hby d7_4) ((if0 _ _).trans (feq (by decide)).1) ?_
  show Go p_ e_ below _ _ T1 (mkF m_ 7 #[.val (.ref x), .val (.int (123 : Int32)), .val (.int (0 : Int32))] [])
  refine Go.aloadN X1 hx (hb hby d7_7) rfl rfl ?_
  refine Go.getF X1 hx hZ hown (host := "") (Or.inl (hw _ (List.mem_of_getElem? (i := 25) rfl))) Via.refl e1 S_x.2.2.1 (hb hby d7_8) ?_
  intro T2 X2 e2
  show Go p_ e_ below _ _ T2 (mkF m_ 11 #[.val (.ref x), .val (.int (123 : Int32)), .val (.int (0 : Int32))] [(.ref t)])
  refine Go.iloadN X2 hx (hb hby d7_11) rfl ?_
  refine Go.iloadN X2 hx (hb hby d7_12) rfl ?_
  refine Go.aloadN X2 hx (hb hby d7_13) rfl rfl ?_
  refine Go.callVB X2 hx hZ (y0 := (⟨"java/lang/String", "length", "()I"⟩ : MethodName)) (K := "java/lang/String") (C1 := 0) (N1 := 0) (Qy := fun v_ h_ L_ => (v_ = some (.int (Int32.ofNat ([]).length))) ∧ L_ = [] ∧ h_ = h0) (StrChars.Road.lenW (W := 3) hZ (own_hwordsLen hw) (kI := 4) (hw _ (List.mem_of_getElem? (i := 7) rfl)) S_x.1 S_x.2.2.1 S_x.2.1 S_x.2.2.2 (own_cod hp) (own_up hp) (Sco.ext O.2) hzc (Nat.le_of_ble_eq_true rfl) (by decide) (by decide)) (by decide) hown (hw _ (List.mem_of_getElem? (i := 47) rfl)) (hw _ (List.mem_of_getElem? (i := 48) rfl)) (notFace_of_selects (args := #[]) (mvT hZ (hw _ (List.mem_of_getElem? (i := 50) rfl)))) (hw _ (List.mem_of_getElem? (i := 50) rfl)) (hw _ (List.mem_of_getElem? (i := 49) rfl)) e2 S_x.1 (by rw [hml]; rfl) (argsL := []) (S := [(.int (0 : Int32)), (.int (123 : Int32)), (.ref t)]) (Nat.le_of_ble_eq_true rfl) (by decide) (by decide) pd_ocI rfl rfl (hb hby d7_14) ?_
  rintro _ T3 L3 X3 ⟨rfl, rfl, e3⟩
  have N3 := Fr.app N1 (Fr.nil n0)
  show Go p_ e_ below _ _ T3 (mkF m_ 17 #[.val (.ref x), .val (.int (123 : Int32)), .val (.int (0 : Int32))] [(.int (0 : Int32)), (.int (0 : Int32)), (.int (123 : Int32)), (.ref t)])
  refine Go.callS X3 hx hZ (rm11_0 l Z a0 hw [] t kb  h0 n0 Z0 (show Arv Z h0 t kb .byte (0 : Int32) [] (.int (0 : Int32)) from S_x.2.2.2)) hown (hw _ (List.mem_of_getElem? (i := 57) rfl)) (hw _ (List.mem_of_getElem? (i := 58) rfl)) (hw _ (List.mem_of_getElem? (i := 59) rfl)) (hw _ (List.mem_of_getElem? (i := 60) rfl)) (by decide) e3 (W := 0) (by rw [hml]; rfl) (argsL := [(.ref t), (.int (123 : Int32)), (.int (0 : Int32)), (.int (0 : Int32))]) (S := []) (Nat.le_of_ble_eq_true rfl) (by decide) (by decide) (by decide) (by decide) pd_oABIIIcI rfl rfl (hb hby d7_17) ?_
  rintro _ T4 L4 X4 ⟨rfl, N4q, e4⟩
  have N4 := Fr.app N3 N4q
  show Go p_ e_ below _ _ T4 (mkF m_ 20 #[.val (.ref x), .val (.int (123 : Int32)), .val (.int (0 : Int32))] [(.int (own_f11_0 ))])
  refine Go.goto X4 hx (pc' := 36) (hb hby d7_20) (by decide) (by decide) ?_
  refine Go.retI X4 hx hret hlk (hb hby d7_36) (by decide) (by decide) ?_
  exact ⟨by unfold own_f7_0; rfl, N4, e4⟩
def own_f6_0  : Int32 := (own_f7_0 )
theorem d6_0 : decode jdk_42_method_79_code 0 = .ok (.aload_n 0, 1) := by decide +kernel
theorem d6_1 : decode jdk_42_method_79_code 1 = .ok (.iload_n 1, 1) := by decide +kernel
theorem d6_2 : decode jdk_42_method_79_code 2 = .ok (.iconst 0, 1) := by decide +kernel
theorem d6_3 : decode jdk_42_method_79_code 3 = .ok (.invokevirtual 633, 3) := by decide +kernel
theorem d6_6 : decode jdk_42_method_79_code 6 = .ok (.ireturn, 1) := by decide +kernel
theorem pn_6 : plainName "java/lang/String" = true := by first | (simp [plainName, overriddenIn]; done) | decide +kernel
theorem ef_rm6_0 (m_ : MethodId) (x : Addr) : entryFrame m_ #[(.ref x), (.int (123 : Int32))] 2 = mkF m_ 0 #[.val (.ref x), .val (.int (123 : Int32))] [] := by first | (simp [entryFrame, mkF, argsToLocals, Value.category]; done) | rfl
def Q6_0 (Z : State) (x : Addr) (t : Addr) (kb : ClassId)  (zc : Int32) (h0 : Heap) (n0 : Nat) (v : Option Value) (h : Heap) (L : List Loc) : Prop := v = some (.int (own_f6_0 )) ∧ Fr n0 L ∧ h = h0
set_option maxRecDepth 65536 in
set_option maxHeartbeats 40000000 in
theorem rm6_0 (l : Launch) (Z : State) (a0 : Array Value) (hw : ∀ d ∈ tables_1, d.before a0 Z = true) (ws : List Jvm.Cond) (x : Addr) (t : Addr) (kb : ClassId)  (zc : Int32) (h0 : Heap) (n0 : Nat) (Z0 : n0 ≤ h0.size) (O : Old Z n0 h0) (Sco : Sta Z Z.heap "java/lang/String" "COMPACT_STRINGS" "Z" (.int zc)) (hzc : ¬ zc = 0) (S_x : StrAt Z h0 x t kb []) (hp : ∀ c ∈ ([] : List Int32), ¬ c < 0 ∧ ¬ (255 : Int32) < c) :
    MetFree l (⟨"java/lang/String", "indexOf", "(I)I"⟩ : MethodName) (head1 (Jvm.Cond.code (⟨"java/lang/String", "indexOf", "(I)I"⟩ : MethodName) jdk_42_method_79_code 2 (some .int) :: ws) ({ frames := 3, cells := 0, slots := 0, locals := 42 } : Room)) (fun a_ U_ => a_ = #[(.ref x), (.int (123 : Int32))] ∧ Z.Warmed39 U_.vm ∧ U_.heap = h0) (fun _ _ _ _ _ => True) (fun _ U_ o_ V_ => ∃ v_ L_, o_ = .returned v_ ∧ Q6_0 Z x t kb zc h0 n0 v_ V_.heap L_ ∧ FrameEnd U_ o_ V_ L_ ({ frames := 3, cells := 0, slots := 0, locals := 42 } : Room).cells ({ frames := 3, cells := 0, slots := 0, locals := 42 } : Room).slots) := by
  refine metOf (Q := Q6_0 Z x t kb zc h0 n0) (plainFor_of_name pn_6) ?_
  intro p_ e_ s_ m_ below meth c_ s₁ X0 hx hby hml hret hlk hZ hown hnm e0
  rw [ef_rm6_0]
  have N0 := Fr.nil n0
  show Go p_ e_ below _ _ s₁ (mkF m_ 0 #[.val (.ref x), .val (.int (123 : Int32))] [])
  refine Go.aloadN X0 hx (hb hby d6_0) rfl rfl ?_
  refine Go.iloadN X0 hx (hb hby d6_1) rfl ?_
  refine Go.iconst X0 hx (0 : Int32) (hb hby d6_2) rfl ?_
  refine Go.callV X0 hx hZ (y0 := (⟨"java/lang/String", "indexOf", "(II)I"⟩ : MethodName)) (rm7_0 l Z a0 hw [] x t kb  zc h0 n0 Z0 O Sco hzc S_x hp) (by decide) hown (hw _ (List.mem_of_getElem? (i := 36) rfl)) (hw _ (List.mem_of_getElem? (i := 37) rfl)) (notFace_of_selects (args := #[]) (mvT hZ (hw _ (List.mem_of_getElem? (i := 39) rfl)))) (hw _ (List.mem_of_getElem? (i := 39) rfl)) (hw _ (List.mem_of_getElem? (i := 38) rfl)) (hw _ (List.mem_of_getElem? (i := 8) rfl)) (hw _ (List.mem_of_getElem? (i := 40) rfl)) e0 S_x.1 (W := 0) (by rw [hml]; rfl) (argsL := [(.int (123 : Int32)), (.int (0 : Int32))]) (S := []) (Nat.le_of_ble_eq_true rfl) (by decide) (by decide) (by decide) (by decide) pd_oIIcI rfl rfl (hb hby d6_3) ?_
  rintro _ T1 L1 X1 ⟨rfl, N1q, e1⟩
  have N1 := Fr.app N0 N1q
  show Go p_ e_ below _ _ T1 (mkF m_ 6 #[.val (.ref x), .val (.int (123 : Int32))] [(.int (own_f7_0 ))])
  refine Go.retI X1 hx hret hlk (hb hby d6_6) (by decide) (by decide) ?_
  exact ⟨by unfold own_f6_0; rfl, N1, e1⟩
theorem pd_oIcI : parseMethodDescriptor "(I)I" = some ⟨[.int], some .int⟩ := by decide +kernel
def own_f5_0  : Int32 := (if (own_f6_0 ) < (0 : Int32) then (0 : Int32) else (1 : Int32))
theorem d5_0 : decode prog_8_method_3_code 0 = .ok (.aload_n 0, 1) := by decide +kernel
theorem d5_1 : decode prog_8_method_3_code 1 = .ok (.bipush 123, 2) := by decide +kernel
theorem d5_3 : decode prog_8_method_3_code 3 = .ok (.invokevirtual 21, 3) := by decide +kernel
theorem d5_6 : decode prog_8_method_3_code 6 = .ok (.ifCond .lt 7, 3) := by decide +kernel
theorem d5_9 : decode prog_8_method_3_code 9 = .ok (.iconst 1, 1) := by decide +kernel
theorem d5_10 : decode prog_8_method_3_code 10 = .ok (.goto 4, 3) := by decide +kernel
theorem d5_13 : decode prog_8_method_3_code 13 = .ok (.iconst 0, 1) := by decide +kernel
theorem d5_14 : decode prog_8_method_3_code 14 = .ok (.ireturn, 1) := by decide +kernel
theorem pn_5 : plainName "com/example/ordinance/ordinance/description/PathSegments" = true := by first | (simp [plainName, overriddenIn]; done) | decide +kernel
theorem ef_rm5_0 (m_ : MethodId) (x : Addr) : entryFrame m_ #[(.ref x)] 1 = mkF m_ 0 #[.val (.ref x)] [] := by first | (simp [entryFrame, mkF, argsToLocals, Value.category]; done) | rfl
def Q5_0 (Z : State) (x : Addr) (t : Addr) (kb : ClassId)  (zc : Int32) (h0 : Heap) (n0 : Nat) (v : Option Value) (h : Heap) (L : List Loc) : Prop := v = some (.int (own_f5_0 )) ∧ Fr n0 L ∧ h = h0
set_option maxRecDepth 65536 in
set_option maxHeartbeats 40000000 in
theorem rm5_0 (l : Launch) (Z : State) (a0 : Array Value) (hw : ∀ d ∈ tables_1, d.before a0 Z = true) (ws : List Jvm.Cond) (x : Addr) (t : Addr) (kb : ClassId)  (zc : Int32) (h0 : Heap) (n0 : Nat) (Z0 : n0 ≤ h0.size) (O : Old Z n0 h0) (Sco : Sta Z Z.heap "java/lang/String" "COMPACT_STRINGS" "Z" (.int zc)) (hzc : ¬ zc = 0) (S_x : StrAt Z h0 x t kb []) (hp : ∀ c ∈ ([] : List Int32), ¬ c < 0 ∧ ¬ (255 : Int32) < c) :
    MetFree l (⟨"com/example/ordinance/ordinance/description/PathSegments", "isTemplate", "(Ljava/lang/String;)Z"⟩ : MethodName) (head1 (Jvm.Cond.code (⟨"com/example/ordinance/ordinance/description/PathSegments", "isTemplate", "(Ljava/lang/String;)Z"⟩ : MethodName) prog_8_method_3_code 1 (some .boolean) :: ws) ({ frames := 4, cells := 0, slots := 0, locals := 55 } : Room)) (fun a_ U_ => a_ = #[(.ref x)] ∧ Z.Warmed39 U_.vm ∧ U_.heap = h0) (fun _ _ _ _ _ => True) (fun _ U_ o_ V_ => ∃ v_ L_, o_ = .returned v_ ∧ Q5_0 Z x t kb zc h0 n0 v_ V_.heap L_ ∧ FrameEnd U_ o_ V_ L_ ({ frames := 4, cells := 0, slots := 0, locals := 55 } : Room).cells ({ frames := 4, cells := 0, slots := 0, locals := 55 } : Room).slots) := by
  refine metOf (Q := Q5_0 Z x t kb zc h0 n0) (plainFor_of_name pn_5) ?_
  intro p_ e_ s_ m_ below meth c_ s₁ X0 hx hby hml hret hlk hZ hown hnm e0
  rw [ef_rm5_0]
  have N0 := Fr.nil n0
  show Go p_ e_ below _ _ s₁ (mkF m_ 0 #[.val (.ref x)] [])
  refine Go.aloadN X0 hx (hb hby d5_0) rfl rfl ?_
  refine Go.bipush X0 hx (123 : Int32) (hb hby d5_1) rfl ?_
  refine Go.callV X0 hx hZ (y0 := (⟨"java/lang/String", "indexOf", "(I)I"⟩ : MethodName)) (rm6_0 l Z a0 hw [] x t kb  zc h0 n0 Z0 O Sco hzc S_x hp) (by decide) hown (hw _ (List.mem_of_getElem? (i := 31) rfl)) (hw _ (List.mem_of_getElem? (i := 32) rfl)) (notFace_of_selects (args := #[]) (mvT hZ (hw _ (List.mem_of_getElem? (i := 34) rfl)))) (hw _ (List.mem_of_getElem? (i := 34) rfl)) (hw _ (List.mem_of_getElem? (i := 33) rfl)) (hw _ (List.mem_of_getElem? (i := 8) rfl)) (hw _ (List.mem_of_getElem? (i := 35) rfl)) e0 S_x.1 (W := 0) (by rw [hml]; rfl) (argsL := [(.int (123 : Int32))]) (S := []) (Nat.le_of_ble_eq_true rfl) (by decide) (by decide) (by decide) (by decide) pd_oIcI rfl rfl (hb hby d5_3) ?_
  rintro _ T1 L1 X1 ⟨rfl, N1q, e1⟩
  have N1 := Fr.app N0 N1q
  show Go p_ e_ below _ _ T1 (mkF m_ 6 #[.val (.ref x)] [(.int (own_f6_0 ))])
  by_cases hc6_2 : (own_f6_0 ) < (0 : Int32)
  · skip
    refine Go.ifYes X1 hx (pc' := 13) (hb hby d5_6) ((if0 _ _).trans (tlt hc6_2).1) (by decide) (by decide) ?_
    show Go p_ e_ below _ _ T1 (mkF m_ 13 #[.val (.ref x)] [])
    refine Go.iconst X1 hx (0 : Int32) (hb hby d5_13) rfl ?_
    refine Go.retN X1 hx hret hlk (by simp) (hb hby d5_14) (by decide) (by decide) ?_
    exact ⟨by unfold own_f5_0; rw [if_pos hc6_2] <;> rfl, N1, e1⟩
  · skip
    refine Go.ifNo X1 hx (hb hby d5_6) ((if0 _ _).trans (flt hc6_2).1) ?_
    show Go p_ e_ below _ _ T1 (mkF m_ 9 #[.val (.ref x)] [])
    refine Go.iconst X1 hx (1 : Int32) (hb hby d5_9) rfl ?_
    refine Go.goto X1 hx (pc' := 14) (hb hby d5_10) (by decide) (by decide) ?_
    refine Go.retN X1 hx hret hlk (by simp) (hb hby d5_14) (by decide) (by decide) ?_
    exact ⟨by unfold own_f5_0; rw [if_neg hc6_2] <;> rfl, N1, e1⟩
theorem own_fin0 { ex : Int32}  (h : ex = (0 : Int32)) : own_f5_0  = ex := by
  subst h
  unfold own_f5_0 own_f6_0 own_f7_0 own_f11_0
  rfl
theorem ef_rm14_1 (m_ : MethodId)  : entryFrame m_ #[(.int (1 : Int32)), (.int (1 : Int32))] 2 = mkF m_ 0 #[.val (.int (1 : Int32)), .val (.int (1 : Int32))] [] := by first | (simp [entryFrame, mkF, argsToLocals, Value.category]; done) | rfl
def Q14_1 (Z : State)   (h0 : Heap) (n0 : Nat) (v : Option Value) (h : Heap) (L : List Loc) : Prop := v = some (.int (1 : Int32)) ∧ Fr n0 L ∧ h = h0
set_option maxRecDepth 65536 in
set_option maxHeartbeats 40000000 in
theorem rm14_1 (l : Launch) (Z : State) (a0 : Array Value) (hw : ∀ d ∈ tables_1, d.before a0 Z = true) (ws : List Jvm.Cond)   (h0 : Heap) (n0 : Nat) (Z0 : n0 ≤ h0.size)  :
    MetFree l (⟨"java/lang/Math", "min", "(II)I"⟩ : MethodName) (head1 (Jvm.Cond.code (⟨"java/lang/Math", "min", "(II)I"⟩ : MethodName) jdk_29_method_69_code 2 (some .int) :: ws) ({ frames := 0, cells := 0, slots := 0, locals := 0 } : Room)) (fun a_ U_ => a_ = #[(.int (1 : Int32)), (.int (1 : Int32))] ∧ Z.Warmed39 U_.vm ∧ U_.heap = h0) (fun _ _ _ _ _ => True) (fun _ U_ o_ V_ => ∃ v_ L_, o_ = .returned v_ ∧ Q14_1 Z  h0 n0 v_ V_.heap L_ ∧ FrameEnd U_ o_ V_ L_ ({ frames := 0, cells := 0, slots := 0, locals := 0 } : Room).cells ({ frames := 0, cells := 0, slots := 0, locals := 0 } : Room).slots) := by
  refine metOf (Q := Q14_1 Z  h0 n0) (Jvm.Free.JP.mathPlain rfl (by decide +kernel)) ?_
  intro p_ e_ s_ m_ below meth c_ s₁ X0 hx hby hml hret hlk hZ hown hnm e0
  rw [ef_rm14_1]
  have N0 := Fr.nil n0
  show Go p_ e_ below _ _ s₁ (mkF m_ 0 #[.val (.int (1 : Int32)), .val (.int (1 : Int32))] [])
  refine Go.iloadN X0 hx (hb hby d14_0) rfl ?_
  refine Go.iloadN X0 hx (hb hby d14_1) rfl ?_
  refine Go.icmpNo X0 hx (hb hby d14_2) (flt (by decide)).2.2.1 ?_
  show Go p_ e_ below _ _ s₁ (mkF m_ 5 #[.val (.int (1 : Int32)), .val (.int (1 : Int32))] [])
  refine Go.iloadN X0 hx (hb hby d14_5) rfl ?_
  refine Go.goto X0 hx (pc' := 10) (hb hby d14_6) (by decide) (by decide) ?_
  refine Go.retI X0 hx hret hlk (hb hby d14_10) (by decide) (by decide) ?_
  exact ⟨rfl, N0, e0⟩
def own_f18_1 (c0 : Int32) : Int32 := (if (c0.toInt8.toInt32) = ((123 : Int32).toInt8.toInt32) then (0 : Int32) else (-1 : Int32))
theorem d18_0 : decode jdk_43_method_23_code 0 = .ok (.iload_n 1, 1) := by decide +kernel
theorem d18_1 : decode jdk_43_method_23_code 1 = .ok (.i2b, 1) := by decide +kernel
theorem d18_2 : decode jdk_43_method_23_code 2 = .ok (.istore 4, 2) := by decide +kernel
theorem d18_4 : decode jdk_43_method_23_code 4 = .ok (.iload_n 2, 1) := by decide +kernel
theorem d18_5 : decode jdk_43_method_23_code 5 = .ok (.istore 5, 2) := by decide +kernel
theorem d18_7 : decode jdk_43_method_23_code 7 = .ok (.iload 5, 2) := by decide +kernel
theorem d18_9 : decode jdk_43_method_23_code 9 = .ok (.iload_n 3, 1) := by decide +kernel
theorem d18_10 : decode jdk_43_method_23_code 10 = .ok (.if_icmp .ge 21, 3) := by decide +kernel
theorem d18_13 : decode jdk_43_method_23_code 13 = .ok (.aload_n 0, 1) := by decide +kernel
theorem d18_14 : decode jdk_43_method_23_code 14 = .ok (.iload 5, 2) := by decide +kernel
theorem d18_16 : decode jdk_43_method_23_code 16 = .ok (.baload, 1) := by decide +kernel
theorem d18_17 : decode jdk_43_method_23_code 17 = .ok (.iload 4, 2) := by decide +kernel
theorem d18_19 : decode jdk_43_method_23_code 19 = .ok (.if_icmp .ne 6, 3) := by decide +kernel
theorem d18_22 : decode jdk_43_method_23_code 22 = .ok (.iload 5, 2) := by decide +kernel
theorem d18_24 : decode jdk_43_method_23_code 24 = .ok (.ireturn, 1) := by decide +kernel
theorem d18_25 : decode jdk_43_method_23_code 25 = .ok (.iinc 5 1, 3) := by decide +kernel
theorem d18_28 : decode jdk_43_method_23_code 28 = .ok (.goto (-21), 3) := by decide +kernel
theorem d18_31 : decode jdk_43_method_23_code 31 = .ok (.iconst (-1), 1) := by decide +kernel
theorem d18_32 : decode jdk_43_method_23_code 32 = .ok (.ireturn, 1) := by decide +kernel
theorem pn_18 : plainName "java/lang/StringLatin1" = true := by first | (simp [plainName, overriddenIn]; done) | decide +kernel
theorem ef_rm18_1 (m_ : MethodId) (t : Addr) : entryFrame m_ #[(.ref t), (.int (123 : Int32)), (.int (0 : Int32)), (.int (1 : Int32))] 6 = mkF m_ 0 #[.val (.ref t), .val (.int (123 : Int32)), .val (.int (0 : Int32)), .val (.int (1 : Int32)), .unset, .unset] [] := by first | (simp [entryFrame, mkF, argsToLocals, Value.category]; done) | rfl
def Q18_1 (Z : State) (t : Addr) (kb : ClassId) (c0 : Int32) (h0 : Heap) (n0 : Nat) (v : Option Value) (h : Heap) (L : List Loc) : Prop := v = some (.int (own_f18_1 c0)) ∧ Fr n0 L ∧ h = h0
set_option maxRecDepth 65536 in
set_option maxHeartbeats 40000000 in
theorem rm18_1 (l : Launch) (Z : State) (a0 : Array Value) (hw : ∀ d ∈ tables_1, d.before a0 Z = true) (ws : List Jvm.Cond) (t : Addr) (kb : ClassId) (c0 : Int32) (h0 : Heap) (n0 : Nat) (Z0 : n0 ≤ h0.size) (V_t : Arv Z h0 t kb .byte (1 : Int32) [(.int (c0.toInt8.toInt32))] (.int (0 : Int32))) :
    MetFree l (⟨"java/lang/StringLatin1", "indexOfChar", "([BIII)I"⟩ : MethodName) (head1 (Jvm.Cond.code (⟨"java/lang/StringLatin1", "indexOfChar", "([BIII)I"⟩ : MethodName) jdk_43_method_23_code 6 (some .int) :: ws) ({ frames := 0, cells := 0, slots := 0, locals := 0 } : Room)) (fun a_ U_ => a_ = #[(.ref t), (.int (123 : Int32)), (.int (0 : Int32)), (.int (1 : Int32))] ∧ Z.Warmed39 U_.vm ∧ U_.heap = h0) (fun _ _ _ _ _ => True) (fun _ U_ o_ V_ => ∃ v_ L_, o_ = .returned v_ ∧ Q18_1 Z t kb c0 h0 n0 v_ V_.heap L_ ∧ FrameEnd U_ o_ V_ L_ ({ frames := 0, cells := 0, slots := 0, locals := 0 } : Room).cells ({ frames := 0, cells := 0, slots := 0, locals := 0 } : Room).slots) := by
  refine metOf (Q := Q18_1 Z t kb c0 h0 n0) (plainFor_of_name pn_18) ?_
  intro p_ e_ s_ m_ below meth c_ s₁ X0 hx hby hml hret hlk hZ hown hnm e0
  rw [ef_rm18_1]
  have N0 := Fr.nil n0
  show Go p_ e_ below _ _ s₁ (mkF m_ 0 #[.val (.ref t), .val (.int (123 : Int32)), .val (.int (0 : Int32)), .val (.int (1 : Int32)), .unset, .unset] [])
  refine Go.iloadN X0 hx (hb hby d18_0) rfl ?_
  refine Go.i2b X0 hx (hb hby d18_1) ?_
  refine Go.istore X0 hx (l' := #[.val (.ref t), .val (.int (123 : Int32)), .val (.int (0 : Int32)), .val (.int (1 : Int32)), .val (.int ((123 : Int32).toInt8.toInt32)), .unset]) (hb hby d18_2) rfl ?_
  refine Go.iloadN X0 hx (hb hby d18_4) rfl ?_
  refine Go.istore X0 hx (l' := #[.val (.ref t), .val (.int (123 : Int32)), .val (.int (0 : Int32)), .val (.int (1 : Int32)), .val (.int ((123 : Int32).toInt8.toInt32)), .val (.int (0 : Int32))]) (hb hby d18_5) rfl ?_
  refine Go.iload X0 hx (hb hby d18_7) rfl ?_
  refine Go.iloadN X0 hx (hb hby d18_9) rfl ?_
  refine Go.icmpNo X0 hx (hb hby d18_10) (tlt (by decide)).2.1 ?_
  show Go p_ e_ below _ _ s₁ (mkF m_ 13 #[.val (.ref t), .val (.int (123 : Int32)), .val (.int (0 : Int32)), .val (.int (1 : Int32)), .val (.int ((123 : Int32).toInt8.toInt32)), .val (.int (0 : Int32))] [])
  refine Go.aloadN X0 hx (hb hby d18_13) rfl rfl ?_
  refine Go.iload X0 hx (hb hby d18_14) rfl ?_
  obtain ⟨cl1, Ar1, q1, S1, M1, H1, G1⟩ := id V_t
  refine Go.baload X0 hx hZ e0 Ar1 (inb_of S1 ⟨by decide, by decide⟩) (v := (.int (c0.toInt8.toInt32))) (H1 0 (by rw [S1]; exact Nat.le_of_ble_eq_true rfl)) (hb hby d18_16) ?_
  refine Go.iload X0 hx (hb hby d18_17) rfl ?_
  by_cases hc19_2 : (c0.toInt8.toInt32) = ((123 : Int32).toInt8.toInt32)
  · skip
    refine Go.icmpNo X0 hx (hb hby d18_19) (teq hc19_2).2 ?_
    show Go p_ e_ below _ _ s₁ (mkF m_ 22 #[.val (.ref t), .val (.int (123 : Int32)), .val (.int (0 : Int32)), .val (.int (1 : Int32)), .val (.int ((123 : Int32).toInt8.toInt32)), .val (.int (0 : Int32))] [])
    refine Go.iload X0 hx (hb hby d18_22) rfl ?_
    refine Go.retI X0 hx hret hlk (hb hby d18_24) (by decide) (by decide) ?_
    exact ⟨by unfold own_f18_1; rw [if_pos hc19_2] <;> rfl, N0, e0⟩
  · skip
    refine Go.icmpYes X0 hx (pc' := 25) (hb hby d18_19) (feq hc19_2).2 (by decide) (by decide) ?_
    show Go p_ e_ below _ _ s₁ (mkF m_ 25 #[.val (.ref t), .val (.int (123 : Int32)), .val (.int (0 : Int32)), .val (.int (1 : Int32)), .val (.int ((123 : Int32).toInt8.toInt32)), .val (.int (0 : Int32))] [])
    refine Go.iincF X0 hx (l' := #[.val (.ref t), .val (.int (123 : Int32)), .val (.int (0 : Int32)), .val (.int (1 : Int32)), .val (.int ((123 : Int32).toInt8.toInt32)), .val (.int (1 : Int32))]) (1 : Int32) (1 : Int32) (hb hby d18_25) rfl (by decide) rfl rfl ?_
    refine Go.goto X0 hx (pc' := 7) (hb hby d18_28) (by decide) (by decide) ?_
    refine Go.iload X0 hx (hb hby d18_7) rfl ?_
    refine Go.iloadN X0 hx (hb hby d18_9) rfl ?_
    refine Go.icmpYes X0 hx (pc' := 31) (hb hby d18_10) (flt (by decide)).2.1 (by decide) (by decide) ?_
    show Go p_ e_ below _ _ s₁ (mkF m_ 31 #[.val (.ref t), .val (.int (123 : Int32)), .val (.int (0 : Int32)), .val (.int (1 : Int32)), .val (.int ((123 : Int32).toInt8.toInt32)), .val (.int (1 : Int32))] [])
    refine Go.iconst X0 hx (-1 : Int32) (hb hby d18_31) rfl ?_
    refine Go.retI X0 hx hret hlk (hb hby d18_32) (by decide) (by decide) ?_
    exact ⟨by unfold own_f18_1; rw [if_neg hc19_2] <;> rfl, N0, e0⟩
def own_f11_1 (c0 : Int32) : Int32 := (own_f18_1 c0)
theorem d11_29 : decode jdk_43_method_22_code 29 = .ok (.aload_n 0, 1) := by decide +kernel
theorem d11_30 : decode jdk_43_method_22_code 30 = .ok (.iload_n 1, 1) := by decide +kernel
theorem d11_31 : decode jdk_43_method_22_code 31 = .ok (.iload_n 2, 1) := by decide +kernel
theorem d11_32 : decode jdk_43_method_22_code 32 = .ok (.iload_n 3, 1) := by decide +kernel
theorem d11_33 : decode jdk_43_method_22_code 33 = .ok (.invokestatic 95, 3) := by decide +kernel
theorem d11_36 : decode jdk_43_method_22_code 36 = .ok (.ireturn, 1) := by decide +kernel
theorem ef_rm11_1 (m_ : MethodId) (t : Addr) : entryFrame m_ #[(.ref t), (.int (123 : Int32)), (.int (0 : Int32)), (.int (1 : Int32))] 4 = mkF m_ 0 #[.val (.ref t), .val (.int (123 : Int32)), .val (.int (0 : Int32)), .val (.int (1 : Int32))] [] := by first | (simp [entryFrame, mkF, argsToLocals, Value.category]; done) | rfl
def Q11_1 (Z : State) (t : Addr) (kb : ClassId) (c0 : Int32) (h0 : Heap) (n0 : Nat) (v : Option Value) (h : Heap) (L : List Loc) : Prop := v = some (.int (own_f11_1 c0)) ∧ Fr n0 L ∧ h = h0
set_option maxRecDepth 65536 in
set_option maxHeartbeats 40000000 in
theorem rm11_1 (l : Launch) (Z : State) (a0 : Array Value) (hw : ∀ d ∈ tables_1, d.before a0 Z = true) (ws : List Jvm.Cond) (t : Addr) (kb : ClassId) (c0 : Int32) (h0 : Heap) (n0 : Nat) (Z0 : n0 ≤ h0.size) (V_t : Arv Z h0 t kb .byte (1 : Int32) [(.int (c0.toInt8.toInt32))] (.int (0 : Int32))) :
    MetFree l (⟨"java/lang/StringLatin1", "indexOf", "([BIII)I"⟩ : MethodName) (head1 (Jvm.Cond.code (⟨"java/lang/StringLatin1", "indexOf", "([BIII)I"⟩ : MethodName) jdk_43_method_22_code 4 (some .int) :: ws) ({ frames := 1, cells := 0, slots := 0, locals := 17 } : Room)) (fun a_ U_ => a_ = #[(.ref t), (.int (123 : Int32)), (.int (0 : Int32)), (.int (1 : Int32))] ∧ Z.Warmed39 U_.vm ∧ U_.heap = h0) (fun _ _ _ _ _ => True) (fun _ U_ o_ V_ => ∃ v_ L_, o_ = .returned v_ ∧ Q11_1 Z t kb c0 h0 n0 v_ V_.heap L_ ∧ FrameEnd U_ o_ V_ L_ ({ frames := 1, cells := 0, slots := 0, locals := 17 } : Room).cells ({ frames := 1, cells := 0, slots := 0, locals := 17 } : Room).slots) := by
  refine metOf (Q := Q11_1 Z t kb c0 h0 n0) (plainFor_of_name pn_11) ?_
  intro p_ e_ s_ m_ below meth c_ s₁ X0 hx hby hml hret hlk hZ hown hnm e0
  rw [ef_rm11_1]
  have N0 := Fr.nil n0
  show Go p_ e_ below _ _ s₁ (mkF m_ 0 #[.val (.ref t), .val (.int (123 : Int32)), .val (.int (0 : Int32)), .val (.int (1 : Int32))] [])
  refine Go.iloadN X0 hx (hb hby d11_0) rfl ?_
  refine Go.callS X0 hx hZ (rm12 l Z a0 hw [] h0 n0 Z0) hown (hw _ (List.mem_of_getElem? (i := 61) rfl)) (hw _ (List.mem_of_getElem? (i := 62) rfl)) (hw _ (List.mem_of_getElem? (i := 59) rfl)) (hw _ (List.mem_of_getElem? (i := 63) rfl)) (by decide) e0 (W := 0) (by rw [hml]; rfl) (argsL := [(.int (123 : Int32))]) (S := []) (Nat.le_of_ble_eq_true rfl) (by decide) (by decide) (by decide) (by decide) pd_oIcZ rfl rfl (hb hby d11_1) ?_
  rintro _ T1 L1 X1 ⟨rfl, N1q, e1⟩
  have N1 := Fr.app N0 N1q
  show Go p_ e_ below _ _ T1 (mkF m_ 4 #[.val (.ref t), .val (.int (123 : Int32)), .val (.int (0 : Int32)), .val (.int (1 : Int32))] [(.int (1 : Int32))])
  refine Go.ifYes X1 hx (pc' := 9) (hb hby d11_4) ((if0 _ _).trans (feq (by decide)).2) (by decide) (by decide) ?_
  show Go p_ e_ below _ _ T1 (mkF m_ 9 #[.val (.ref t), .val (.int (123 : Int32)), .val (.int (0 : Int32)), .val (.int (1 : Int32))] [])
  refine Go.iloadN X1 hx (hb hby d11_9) rfl ?_
  refine Go.iconst X1 hx (0 : Int32) (hb hby d11_10) rfl ?_
  refine Go.callS X1 hx hZ (rm13 l Z a0 hw [] h0 n0 Z0) hown (hw _ (List.mem_of_getElem? (i := 64) rfl)) (hw _ (List.mem_of_getElem? (i := 65) rfl)) (hw _ (List.mem_of_getElem? (i := 66) rfl)) (hw _ (List.mem_of_getElem? (i := 67) rfl)) (by decide) e1 (W := 0) (by rw [hml]; rfl) (argsL := [(.int (0 : Int32)), (.int (0 : Int32))]) (S := []) (Nat.le_of_ble_eq_true rfl) (by decide) (by decide) (by decide) (by decide) pd_oIIcI rfl rfl (hb hby d11_11) ?_
  rintro _ T2 L2 X2 ⟨rfl, N2q, e2⟩
  have N2 := Fr.app N1 N2q
  show Go p_ e_ below _ _ T2 (mkF m_ 14 #[.val (.ref t), .val (.int (123 : Int32)), .val (.int (0 : Int32)), .val (.int (1 : Int32))] [(.int (0 : Int32))])
  refine Go.istoreN X2 hx (l' := #[.val (.ref t), .val (.int (123 : Int32)), .val (.int (0 : Int32)), .val (.int (1 : Int32))]) (hb hby d11_14) rfl ?_
  refine Go.iloadN X2 hx (hb hby d11_15) rfl ?_
  refine Go.aloadN X2 hx (hb hby d11_16) rfl rfl ?_
  obtain ⟨cl3, Ar3, -, S3, M3, -, -⟩ := id V_t
  refine Go.arraylength X2 hx hZ e2 Ar3 S3 M3 (hb hby d11_17) ?_
  refine Go.callS X2 hx hZ (rm14_1 l Z a0 hw [] h0 n0 Z0) hown (hw _ (List.mem_of_getElem? (i := 68) rfl)) (hw _ (List.mem_of_getElem? (i := 69) rfl)) (hw _ (List.mem_of_getElem? (i := 66) rfl)) (hw _ (List.mem_of_getElem? (i := 70) rfl)) (by decide) e2 (W := 0) (by rw [hml]; rfl) (argsL := [(.int (1 : Int32)), (.int (1 : Int32))]) (S := []) (Nat.le_of_ble_eq_true rfl) (by decide) (by decide) (by decide) (by decide) pd_oIIcI rfl rfl (hb hby d11_18) ?_
  rintro _ T4 L4 X4 ⟨rfl, N4q, e4⟩
  have N4 := Fr.app N2 N4q
  show Go p_ e_ below _ _ T4 (mkF m_ 21 #[.val (.ref t), .val (.int (123 : Int32)), .val (.int (0 : Int32)), .val (.int (1 : Int32))] [(.int (1 : Int32))])
  refine Go.istoreN X4 hx (l' := #[.val (.ref t), .val (.int (123 : Int32)), .val (.int (0 : Int32)), .val (.int (1 : Int32))]) (hb hby d11_21) rfl ?_
  refine Go.iloadN X4 hx (hb hby d11_22) rfl ?_
  refine Go.iloadN X4 hx (hb hby d11_23) rfl ?_
  refine Go.icmpYes X4 hx (pc' := 29) (hb hby d11_24) (tlt (by decide)).1 (by decide) (by decide) ?_
  show Go p_ e_ below _ _ T4 (mkF m_ 29 #[.val (.ref t), .val (.int (123 : Int32)), .val (.int (0 : Int32)), .val (.int (1 : Int32))] [])
  refine Go.aloadN X4 hx (hb hby d11_29) rfl rfl ?_
  refine Go.iloadN X4 hx (hb hby d11_30) rfl ?_
  refine Go.iloadN X4 hx (hb hby d11_31) rfl ?_
  refine Go.iloadN X4 hx (hb hby d11_32) rfl ?_
  refine Go.callS X4 hx hZ (rm18_1 l Z a0 hw [] t kb c0 h0 n0 Z0 V_t) hown (hw _ (List.mem_of_getElem? (i := 81) rfl)) (hw _ (List.mem_of_getElem? (i := 82) rfl)) (hw _ (List.mem_of_getElem? (i := 59) rfl)) (hw _ (List.mem_of_getElem? (i := 83) rfl)) (by decide) e4 (W := 0) (by rw [hml]; rfl) (argsL := [(.ref t), (.int (123 : Int32)), (.int (0 : Int32)), (.int (1 : Int32))]) (S := []) (Nat.le_of_ble_eq_true rfl) (by decide) (by decide) (by decide) (by decide) pd_oABIIIcI rfl rfl (hb hby d11_33) ?_
  rintro _ T5 L5 X5 ⟨rfl, N5q, e5⟩
  have N5 := Fr.app N4 N5q
  show Go p_ e_ below _ _ T5 (mkF m_ 36 #[.val (.ref t), .val (.int (123 : Int32)), .val (.int (0 : Int32)), .val (.int (1 : Int32))] [(.int (own_f18_1 c0))])
  refine Go.retI X5 hx hret hlk (hb hby d11_36) (by decide) (by decide) ?_
  exact ⟨by unfold own_f11_1; rfl, N5, e5⟩
def own_f7_1 (c0 : Int32) : Int32 := (own_f11_1 c0)
theorem ef_rm7_1 (m_ : MethodId) (x : Addr) : entryFrame m_ #[(.ref x), (.int (123 : Int32)), (.int (0 : Int32))] 3 = mkF m_ 0 #[.val (.ref x), .val (.int (123 : Int32)), .val (.int (0 : Int32))] [] := by first | (simp [entryFrame, mkF, argsToLocals, Value.category]; done) | rfl
def Q7_1 (Z : State) (x : Addr) (t : Addr) (kb : ClassId) (c0 : Int32) (zc : Int32) (h0 : Heap) (n0 : Nat) (v : Option Value) (h : Heap) (L : List Loc) : Prop := v = some (.int (own_f7_1 c0)) ∧ Fr n0 L ∧ h = h0
set_option maxRecDepth 65536 in
set_option maxHeartbeats 40000000 in
theorem rm7_1 (l : Launch) (Z : State) (a0 : Array Value) (hw : ∀ d ∈ tables_1, d.before a0 Z = true) (ws : List Jvm.Cond) (x : Addr) (t : Addr) (kb : ClassId) (c0 : Int32) (zc : Int32) (h0 : Heap) (n0 : Nat) (Z0 : n0 ≤ h0.size) (O : Old Z n0 h0) (Sco : Sta Z Z.heap "java/lang/String" "COMPACT_STRINGS" "Z" (.int zc)) (hzc : ¬ zc = 0) (S_x : StrAt Z h0 x t kb [c0]) (hp : ∀ c ∈ ([c0] : List Int32), ¬ c < 0 ∧ ¬ (255 : Int32) < c) :
    MetFree l (⟨"java/lang/String", "indexOf", "(II)I"⟩ : MethodName) (head1 (Jvm.Cond.code (⟨"java/lang/String", "indexOf", "(II)I"⟩ : MethodName) jdk_42_method_80_code 3 (some .int) :: ws) ({ frames := 2, cells := 0, slots := 0, locals := 32 } : Room)) (fun a_ U_ => a_ = #[(.ref x), (.int (123 : Int32)), (.int (0 : Int32))] ∧ Z.Warmed39 U_.vm ∧ U_.heap = h0) (fun _ _ _ _ _ => True) (fun _ U_ o_ V_ => ∃ v_ L_, o_ = .returned v_ ∧ Q7_1 Z x t kb c0 zc h0 n0 v_ V_.heap L_ ∧ FrameEnd U_ o_ V_ L_ ({ frames := 2, cells := 0, slots := 0, locals := 32 } : Room).cells ({ frames := 2, cells := 0, slots := 0, locals := 32 } : Room).slots) := by
  refine metOf (Q := Q7_1 Z x t kb c0 zc h0 n0) (plainFor_of_name pn_7) ?_
  intro p_ e_ s_ m_ below meth c_ s₁ X0 hx hby hml hret hlk hZ hown hnm e0
  rw [ef_rm7_1]
  have N0 := Fr.nil n0
  show Go p_ e_ below _ _ s₁ (mkF m_ 0 #[.val (.ref x), .val (.int (123 : Int32)), .val (.int (0 : Int32))] [])
  refine Go.aloadN X0 hx (hb hby d7_0) rfl rfl ?_
  refine Go.callV X0 hx hZ (y0 := (⟨"java/lang/String", "isLatin1", "()Z"⟩ : MethodName)) (rm8 l Z a0 hw [] x t kb [c0] zc h0 n0 Z0 O Sco hzc S_x) (by decide) hown (hw _ (List.mem_of_getElem? (i := 41) rfl)) (hw _ (List.mem_of_getElem? (i := 42) rfl)) (notFace_of_selects (args := #[]) (mvT hZ (hw _ (List.mem_of_getElem? (i := 44) rfl)))) (hw _ (List.mem_of_getElem? (i := 44) rfl)) (hw _ (List.mem_of_getElem? (i := 43) rfl)) (hw _ (List.mem_of_getElem? (i := 8) rfl)) (hw _ (List.mem_of_getElem? (i := 45) rfl)) e0 S_x.1 (W := 0) (by rw [hml]; rfl) (argsL := []) (S := []) (Nat.le_of_ble_eq_true rfl) (by decide) (by decide) (by decide) (by decide) pd_ocZ rfl rfl (hb hby d7_1) ?_
  rintro _ T1 L1 X1 ⟨rfl, N1q, e1⟩
  have N1 := Fr.app N0 N1q
  show Go p_ e_ below _ _ T1 (mkF m_ 4 #[.val (.ref x), .val (.int (123 : Int32)), .val (.int (0 : Int32))] [(.int (1 : Int32))])
  refine Go.ifNo X1 hx (hb hby d7_4) ((if0 _ _).trans (feq (by decide)).1) ?_
  show Go p_ e_ below _ _ T1 (mkF m_ 7 #[.val (.ref x), .val (.int (123 : Int32)), .val (.int (0 : Int32))] [])
  refine Go.aloadN X1 hx (hb hby d7_7) rfl rfl ?_
  refine Go.getF X1 hx hZ hown (host := "") (Or.inl (hw _ (List.mem_of_getElem? (i := 25) rfl))) Via.refl e1 S_x.2.2.1 (hb hby d7_8) ?_
  intro T2 X2 e2
  show Go p_ e_ below _ _ T2 (mkF m_ 11 #[.val (.ref x), .val (.int (123 : Int32)), .val (.int (0 : Int32))] [(.ref t)])
  refine Go.iloadN X2 hx (hb hby d7_11) rfl ?_
  refine Go.iloadN X2 hx (hb hby d7_12) rfl ?_
  refine Go.aloadN X2 hx (hb hby d7_13) rfl rfl ?_
  refine Go.callVB X2 hx hZ (y0 := (⟨"java/lang/String", "length", "()I"⟩ : MethodName)) (K := "java/lang/String") (C1 := 0) (N1 := 0) (Qy := fun v_ h_ L_ => (v_ = some (.int (Int32.ofNat ([c0]).length))) ∧ L_ = [] ∧ h_ = h0) (StrChars.Road.lenW (W := 3) hZ (own_hwordsLen hw) (kI := 4) (hw _ (List.mem_of_getElem? (i := 7) rfl)) S_x.1 S_x.2.2.1 S_x.2.1 S_x.2.2.2 (own_cod hp) (own_up hp) (Sco.ext O.2) hzc (Nat.le_of_ble_eq_true rfl) (by decide) (by decide)) (by decide) hown (hw _ (List.mem_of_getElem? (i := 47) rfl)) (hw _ (List.mem_of_getElem? (i := 48) rfl)) (notFace_of_selects (args := #[]) (mvT hZ (hw _ (List.mem_of_getElem? (i := 50) rfl)))) (hw _ (List.mem_of_getElem? (i := 50) rfl)) (hw _ (List.mem_of_getElem? (i := 49) rfl)) e2 S_x.1 (by rw [hml]; rfl) (argsL := []) (S := [(.int (0 : Int32)), (.int (123 : Int32)), (.ref t)]) (Nat.le_of_ble_eq_true rfl) (by decide) (by decide) pd_ocI rfl rfl (hb hby d7_14) ?_
  rintro _ T3 L3 X3 ⟨rfl, rfl, e3⟩
  have N3 := Fr.app N1 (Fr.nil n0)
  show Go p_ e_ below _ _ T3 (mkF m_ 17 #[.val (.ref x), .val (.int (123 : Int32)), .val (.int (0 : Int32))] [(.int (1 : Int32)), (.int (0 : Int32)), (.int (123 : Int32)), (.ref t)])
  refine Go.callS X3 hx hZ (rm11_1 l Z a0 hw [] t kb c0 h0 n0 Z0 (show Arv Z h0 t kb .byte (1 : Int32) [(.int (c0.toInt8.toInt32))] (.int (0 : Int32)) from S_x.2.2.2)) hown (hw _ (List.mem_of_getElem? (i := 57) rfl)) (hw _ (List.mem_of_getElem? (i := 58) rfl)) (hw _ (List.mem_of_getElem? (i := 59) rfl)) (hw _ (List.mem_of_getElem? (i := 60) rfl)) (by decide) e3 (W := 0) (by rw [hml]; rfl) (argsL := [(.ref t), (.int (123 : Int32)), (.int (0 : Int32)), (.int (1 : Int32))]) (S := []) (Nat.le_of_ble_eq_true rfl) (by decide) (by decide) (by decide) (by decide) pd_oABIIIcI rfl rfl (hb hby d7_17) ?_
  rintro _ T4 L4 X4 ⟨rfl, N4q, e4⟩
  have N4 := Fr.app N3 N4q
  show Go p_ e_ below _ _ T4 (mkF m_ 20 #[.val (.ref x), .val (.int (123 : Int32)), .val (.int (0 : Int32))] [(.int (own_f11_1 c0))])
  refine Go.goto X4 hx (pc' := 36) (hb hby d7_20) (by decide) (by decide) ?_
  refine Go.retI X4 hx hret hlk (hb hby d7_36) (by decide) (by decide) ?_
  exact ⟨by unfold own_f7_1; rfl, N4, e4⟩
def own_f6_1 (c0 : Int32) : Int32 := (own_f7_1 c0)
theorem ef_rm6_1 (m_ : MethodId) (x : Addr) : entryFrame m_ #[(.ref x), (.int (123 : Int32))] 2 = mkF m_ 0 #[.val (.ref x), .val (.int (123 : Int32))] [] := by first | (simp [entryFrame, mkF, argsToLocals, Value.category]; done) | rfl
def Q6_1 (Z : State) (x : Addr) (t : Addr) (kb : ClassId) (c0 : Int32) (zc : Int32) (h0 : Heap) (n0 : Nat) (v : Option Value) (h : Heap) (L : List Loc) : Prop := v = some (.int (own_f6_1 c0)) ∧ Fr n0 L ∧ h = h0
set_option maxRecDepth 65536 in
set_option maxHeartbeats 40000000 in
theorem rm6_1 (l : Launch) (Z : State) (a0 : Array Value) (hw : ∀ d ∈ tables_1, d.before a0 Z = true) (ws : List Jvm.Cond) (x : Addr) (t : Addr) (kb : ClassId) (c0 : Int32) (zc : Int32) (h0 : Heap) (n0 : Nat) (Z0 : n0 ≤ h0.size) (O : Old Z n0 h0) (Sco : Sta Z Z.heap "java/lang/String" "COMPACT_STRINGS" "Z" (.int zc)) (hzc : ¬ zc = 0) (S_x : StrAt Z h0 x t kb [c0]) (hp : ∀ c ∈ ([c0] : List Int32), ¬ c < 0 ∧ ¬ (255 : Int32) < c) :
    MetFree l (⟨"java/lang/String", "indexOf", "(I)I"⟩ : MethodName) (head1 (Jvm.Cond.code (⟨"java/lang/String", "indexOf", "(I)I"⟩ : MethodName) jdk_42_method_79_code 2 (some .int) :: ws) ({ frames := 3, cells := 0, slots := 0, locals := 46 } : Room)) (fun a_ U_ => a_ = #[(.ref x), (.int (123 : Int32))] ∧ Z.Warmed39 U_.vm ∧ U_.heap = h0) (fun _ _ _ _ _ => True) (fun _ U_ o_ V_ => ∃ v_ L_, o_ = .returned v_ ∧ Q6_1 Z x t kb c0 zc h0 n0 v_ V_.heap L_ ∧ FrameEnd U_ o_ V_ L_ ({ frames := 3, cells := 0, slots := 0, locals := 46 } : Room).cells ({ frames := 3, cells := 0, slots := 0, locals := 46 } : Room).slots) := by
  refine metOf (Q := Q6_1 Z x t kb c0 zc h0 n0) (plainFor_of_name pn_6) ?_
  intro p_ e_ s_ m_ below meth c_ s₁ X0 hx hby hml hret hlk hZ hown hnm e0
  rw [ef_rm6_1]
  have N0 := Fr.nil n0
  show Go p_ e_ below _ _ s₁ (mkF m_ 0 #[.val (.ref x), .val (.int (123 : Int32))] [])
  refine Go.aloadN X0 hx (hb hby d6_0) rfl rfl ?_
  refine Go.iloadN X0 hx (hb hby d6_1) rfl ?_
  refine Go.iconst X0 hx (0 : Int32) (hb hby d6_2) rfl ?_
  refine Go.callV X0 hx hZ (y0 := (⟨"java/lang/String", "indexOf", "(II)I"⟩ : MethodName)) (rm7_1 l Z a0 hw [] x t kb c0 zc h0 n0 Z0 O Sco hzc S_x hp) (by decide) hown (hw _ (List.mem_of_getElem? (i := 36) rfl)) (hw _ (List.mem_of_getElem? (i := 37) rfl)) (notFace_of_selects (args := #[]) (mvT hZ (hw _ (List.mem_of_getElem? (i := 39) rfl)))) (hw _ (List.mem_of_getElem? (i := 39) rfl)) (hw _ (List.mem_of_getElem? (i := 38) rfl)) (hw _ (List.mem_of_getElem? (i := 8) rfl)) (hw _ (List.mem_of_getElem? (i := 40) rfl)) e0 S_x.1 (W := 0) (by rw [hml]; rfl) (argsL := [(.int (123 : Int32)), (.int (0 : Int32))]) (S := []) (Nat.le_of_ble_eq_true rfl) (by decide) (by decide) (by decide) (by decide) pd_oIIcI rfl rfl (hb hby d6_3) ?_
  rintro _ T1 L1 X1 ⟨rfl, N1q, e1⟩
  have N1 := Fr.app N0 N1q
  show Go p_ e_ below _ _ T1 (mkF m_ 6 #[.val (.ref x), .val (.int (123 : Int32))] [(.int (own_f7_1 c0))])
  refine Go.retI X1 hx hret hlk (hb hby d6_6) (by decide) (by decide) ?_
  exact ⟨by unfold own_f6_1; rfl, N1, e1⟩
def own_f5_1 (c0 : Int32) : Int32 := (if (own_f6_1 c0) < (0 : Int32) then (0 : Int32) else (1 : Int32))
theorem ef_rm5_1 (m_ : MethodId) (x : Addr) : entryFrame m_ #[(.ref x)] 1 = mkF m_ 0 #[.val (.ref x)] [] := by first | (simp [entryFrame, mkF, argsToLocals, Value.category]; done) | rfl
def Q5_1 (Z : State) (x : Addr) (t : Addr) (kb : ClassId) (c0 : Int32) (zc : Int32) (h0 : Heap) (n0 : Nat) (v : Option Value) (h : Heap) (L : List Loc) : Prop := v = some (.int (own_f5_1 c0)) ∧ Fr n0 L ∧ h = h0
set_option maxRecDepth 65536 in
set_option maxHeartbeats 40000000 in
theorem rm5_1 (l : Launch) (Z : State) (a0 : Array Value) (hw : ∀ d ∈ tables_1, d.before a0 Z = true) (ws : List Jvm.Cond) (x : Addr) (t : Addr) (kb : ClassId) (c0 : Int32) (zc : Int32) (h0 : Heap) (n0 : Nat) (Z0 : n0 ≤ h0.size) (O : Old Z n0 h0) (Sco : Sta Z Z.heap "java/lang/String" "COMPACT_STRINGS" "Z" (.int zc)) (hzc : ¬ zc = 0) (S_x : StrAt Z h0 x t kb [c0]) (hp : ∀ c ∈ ([c0] : List Int32), ¬ c < 0 ∧ ¬ (255 : Int32) < c) :
    MetFree l (⟨"com/example/ordinance/ordinance/description/PathSegments", "isTemplate", "(Ljava/lang/String;)Z"⟩ : MethodName) (head1 (Jvm.Cond.code (⟨"com/example/ordinance/ordinance/description/PathSegments", "isTemplate", "(Ljava/lang/String;)Z"⟩ : MethodName) prog_8_method_3_code 1 (some .boolean) :: ws) ({ frames := 4, cells := 0, slots := 0, locals := 59 } : Room)) (fun a_ U_ => a_ = #[(.ref x)] ∧ Z.Warmed39 U_.vm ∧ U_.heap = h0) (fun _ _ _ _ _ => True) (fun _ U_ o_ V_ => ∃ v_ L_, o_ = .returned v_ ∧ Q5_1 Z x t kb c0 zc h0 n0 v_ V_.heap L_ ∧ FrameEnd U_ o_ V_ L_ ({ frames := 4, cells := 0, slots := 0, locals := 59 } : Room).cells ({ frames := 4, cells := 0, slots := 0, locals := 59 } : Room).slots) := by
  refine metOf (Q := Q5_1 Z x t kb c0 zc h0 n0) (plainFor_of_name pn_5) ?_
  intro p_ e_ s_ m_ below meth c_ s₁ X0 hx hby hml hret hlk hZ hown hnm e0
  rw [ef_rm5_1]
  have N0 := Fr.nil n0
  show Go p_ e_ below _ _ s₁ (mkF m_ 0 #[.val (.ref x)] [])
  refine Go.aloadN X0 hx (hb hby d5_0) rfl rfl ?_
  refine Go.bipush X0 hx (123 : Int32) (hb hby d5_1) rfl ?_
  refine Go.callV X0 hx hZ (y0 := (⟨"java/lang/String", "indexOf", "(I)I"⟩ : MethodName)) (rm6_1 l Z a0 hw [] x t kb c0 zc h0 n0 Z0 O Sco hzc S_x hp) (by decide) hown (hw _ (List.mem_of_getElem? (i := 31) rfl)) (hw _ (List.mem_of_getElem? (i := 32) rfl)) (notFace_of_selects (args := #[]) (mvT hZ (hw _ (List.mem_of_getElem? (i := 34) rfl)))) (hw _ (List.mem_of_getElem? (i := 34) rfl)) (hw _ (List.mem_of_getElem? (i := 33) rfl)) (hw _ (List.mem_of_getElem? (i := 8) rfl)) (hw _ (List.mem_of_getElem? (i := 35) rfl)) e0 S_x.1 (W := 0) (by rw [hml]; rfl) (argsL := [(.int (123 : Int32))]) (S := []) (Nat.le_of_ble_eq_true rfl) (by decide) (by decide) (by decide) (by decide) pd_oIcI rfl rfl (hb hby d5_3) ?_
  rintro _ T1 L1 X1 ⟨rfl, N1q, e1⟩
  have N1 := Fr.app N0 N1q
  show Go p_ e_ below _ _ T1 (mkF m_ 6 #[.val (.ref x)] [(.int (own_f6_1 c0))])
  by_cases hc6_2 : (own_f6_1 c0) < (0 : Int32)
  · skip
    refine Go.ifYes X1 hx (pc' := 13) (hb hby d5_6) ((if0 _ _).trans (tlt hc6_2).1) (by decide) (by decide) ?_
    show Go p_ e_ below _ _ T1 (mkF m_ 13 #[.val (.ref x)] [])
    refine Go.iconst X1 hx (0 : Int32) (hb hby d5_13) rfl ?_
    refine Go.retN X1 hx hret hlk (by simp) (hb hby d5_14) (by decide) (by decide) ?_
    exact ⟨by unfold own_f5_1; rw [if_pos hc6_2] <;> rfl, N1, e1⟩
  · skip
    refine Go.ifNo X1 hx (hb hby d5_6) ((if0 _ _).trans (flt hc6_2).1) ?_
    show Go p_ e_ below _ _ T1 (mkF m_ 9 #[.val (.ref x)] [])
    refine Go.iconst X1 hx (1 : Int32) (hb hby d5_9) rfl ?_
    refine Go.goto X1 hx (pc' := 14) (hb hby d5_10) (by decide) (by decide) ?_
    refine Go.retN X1 hx hret hlk (by simp) (hb hby d5_14) (by decide) (by decide) ?_
    exact ⟨by unfold own_f5_1; rw [if_neg hc6_2] <;> rfl, N1, e1⟩
theorem own_fin1 {c0 ex : Int32} (r0 : 0 ≤ c0.toInt ∧ c0.toInt ≤ 255) (h : ex = (if c0 = (123 : Int32) then (1 : Int32) else (0 : Int32))) : own_f5_1 c0 = ex := by
  subst h
  unfold own_f5_1 own_f6_1 own_f7_1 own_f11_1 own_f18_1
  simp only [own_bi r0]
  by_cases h0 : c0 = (123 : Int32) <;> simp [h0]
theorem ef_rm14_2 (m_ : MethodId)  : entryFrame m_ #[(.int (2 : Int32)), (.int (2 : Int32))] 2 = mkF m_ 0 #[.val (.int (2 : Int32)), .val (.int (2 : Int32))] [] := by first | (simp [entryFrame, mkF, argsToLocals, Value.category]; done) | rfl
def Q14_2 (Z : State)   (h0 : Heap) (n0 : Nat) (v : Option Value) (h : Heap) (L : List Loc) : Prop := v = some (.int (2 : Int32)) ∧ Fr n0 L ∧ h = h0
set_option maxRecDepth 65536 in
set_option maxHeartbeats 40000000 in
theorem rm14_2 (l : Launch) (Z : State) (a0 : Array Value) (hw : ∀ d ∈ tables_1, d.before a0 Z = true) (ws : List Jvm.Cond)   (h0 : Heap) (n0 : Nat) (Z0 : n0 ≤ h0.size)  :
    MetFree l (⟨"java/lang/Math", "min", "(II)I"⟩ : MethodName) (head1 (Jvm.Cond.code (⟨"java/lang/Math", "min", "(II)I"⟩ : MethodName) jdk_29_method_69_code 2 (some .int) :: ws) ({ frames := 0, cells := 0, slots := 0, locals := 0 } : Room)) (fun a_ U_ => a_ = #[(.int (2 : Int32)), (.int (2 : Int32))] ∧ Z.Warmed39 U_.vm ∧ U_.heap = h0) (fun _ _ _ _ _ => True) (fun _ U_ o_ V_ => ∃ v_ L_, o_ = .returned v_ ∧ Q14_2 Z  h0 n0 v_ V_.heap L_ ∧ FrameEnd U_ o_ V_ L_ ({ frames := 0, cells := 0, slots := 0, locals := 0 } : Room).cells ({ frames := 0, cells := 0, slots := 0, locals := 0 } : Room).slots) := by
  refine metOf (Q := Q14_2 Z  h0 n0) (Jvm.Free.JP.mathPlain rfl (by decide +kernel)) ?_
  intro p_ e_ s_ m_ below meth c_ s₁ X0 hx hby hml hret hlk hZ hown hnm e0
  rw [ef_rm14_2]
  have N0 := Fr.nil n0
  show Go p_ e_ below _ _ s₁ (mkF m_ 0 #[.val (.int (2 : Int32)), .val (.int (2 : Int32))] [])
  refine Go.iloadN X0 hx (hb hby d14_0) rfl ?_
  refine Go.iloadN X0 hx (hb hby d14_1) rfl ?_
  refine Go.icmpNo X0 hx (hb hby d14_2) (flt (by decide)).2.2.1 ?_
  show Go p_ e_ below _ _ s₁ (mkF m_ 5 #[.val (.int (2 : Int32)), .val (.int (2 : Int32))] [])
  refine Go.iloadN X0 hx (hb hby d14_5) rfl ?_
  refine Go.goto X0 hx (pc' := 10) (hb hby d14_6) (by decide) (by decide) ?_
  refine Go.retI X0 hx hret hlk (hb hby d14_10) (by decide) (by decide) ?_
  exact ⟨rfl, N0, e0⟩
def own_f18_2 (c0 : Int32) (c1 : Int32) : Int32 := (if (c0.toInt8.toInt32) = ((123 : Int32).toInt8.toInt32) then (0 : Int32) else (if (c1.toInt8.toInt32) = ((123 : Int32).toInt8.toInt32) then (1 : Int32) else (-1 : Int32)))
theorem ef_rm18_2 (m_ : MethodId) (t : Addr) : entryFrame m_ #[(.ref t), (.int (123 : Int32)), (.int (0 : Int32)), (.int (2 : Int32))] 6 = mkF m_ 0 #[.val (.ref t), .val (.int (123 : Int32)), .val (.int (0 : Int32)), .val (.int (2 : Int32)), .unset, .unset] [] := by first | (simp [entryFrame, mkF, argsToLocals, Value.category]; done) | rfl
def Q18_2 (Z : State) (t : Addr) (kb : ClassId) (c0 : Int32) (c1 : Int32) (h0 : Heap) (n0 : Nat) (v : Option Value) (h : Heap) (L : List Loc) : Prop := v = some (.int (own_f18_2 c0 c1)) ∧ Fr n0 L ∧ h = h0
set_option maxRecDepth 65536 in
set_option maxHeartbeats 40000000 in
theorem rm18_2 (l : Launch) (Z : State) (a0 : Array Value) (hw : ∀ d ∈ tables_1, d.before a0 Z = true) (ws : List Jvm.Cond) (t : Addr) (kb : ClassId) (c0 : Int32) (c1 : Int32) (h0 : Heap) (n0 : Nat) (Z0 : n0 ≤ h0.size) (V_t : Arv Z h0 t kb .byte (2 : Int32) [(.int (c0.toInt8.toInt32)), (.int (c1.toInt8.toInt32))] (.int (0 : Int32))) :
    MetFree l (⟨"java/lang/StringLatin1", "indexOfChar", "([BIII)I"⟩ : MethodName) (head1 (Jvm.Cond.code (⟨"java/lang/StringLatin1", "indexOfChar", "([BIII)I"⟩ : MethodName) jdk_43_method_23_code 6 (some .int) :: ws) ({ frames := 0, cells := 0, slots := 0, locals := 0 } : Room)) (fun a_ U_ => a_ = #[(.ref t), (.int (123 : Int32)), (.int (0 : Int32)), (.int (2 : Int32))] ∧ Z.Warmed39 U_.vm ∧ U_.heap = h0) (fun _ _ _ _ _ => True) (fun _ U_ o_ V_ => ∃ v_ L_, o_ = .returned v_ ∧ Q18_2 Z t kb c0 c1 h0 n0 v_ V_.heap L_ ∧ FrameEnd U_ o_ V_ L_ ({ frames := 0, cells := 0, slots := 0, locals := 0 } : Room).cells ({ frames := 0, cells := 0, slots := 0, locals := 0 } : Room).slots) := by
  refine metOf (Q := Q18_2 Z t kb c0 c1 h0 n0) (plainFor_of_name pn_18) ?_
  intro p_ e_ s_ m_ below meth c_ s₁ X0 hx hby hml hret hlk hZ hown hnm e0
  rw [ef_rm18_2]
  have N0 := Fr.nil n0
  show Go p_ e_ below _ _ s₁ (mkF m_ 0 #[.val (.ref t), .val (.int (123 : Int32)), .val (.int (0 : Int32)), .val (.int (2 : Int32)), .unset, .unset] [])
  refine Go.iloadN X0 hx (hb hby d18_0) rfl ?_
  refine Go.i2b X0 hx (hb hby d18_1) ?_
  refine Go.istore X0 hx (l' := #[.val (.ref t), .val (.int (123 : Int32)), .val (.int (0 : Int32)), .val (.int (2 : Int32)), .val (.int ((123 : Int32).toInt8.toInt32)), .unset]) (hb hby d18_2) rfl ?_
  refine Go.iloadN X0 hx (hb hby d18_4) rfl ?_
  refine Go.istore X0 hx (l' := #[.val (.ref t), .val (.int (123 : Int32)), .val (.int (0 : Int32)), .val (.int (2 : Int32)), .val (.int ((123 : Int32).toInt8.toInt32)), .val (.int (0 : Int32))]) (hb hby d18_5) rfl ?_
  refine Go.iload X0 hx (hb hby d18_7) rfl ?_
  refine Go.iloadN X0 hx (hb hby d18_9) rfl ?_
  refine Go.icmpNo X0 hx (hb hby d18_10) (tlt (by decide)).2.1 ?_
  show Go p_ e_ below _ _ s₁ (mkF m_ 13 #[.val (.ref t), .val (.int (123 : Int32)), .val (.int (0 : Int32)), .val (.int (2 : Int32)), .val (.int ((123 : Int32).toInt8.toInt32)), .val (.int (0 : Int32))] [])
  refine Go.aloadN X0 hx (hb hby d18_13) rfl rfl ?_
  refine Go.iload X0 hx (hb hby d18_14) rfl ?_
  obtain ⟨cl1, Ar1, q1, S1, M1, H1, G1⟩ := id V_t
  refine Go.baload X0 hx hZ e0 Ar1 (inb_of S1 ⟨by decide, by decide⟩) (v := (.int (c0.toInt8.toInt32))) (H1 0 (by rw [S1]; exact Nat.le_of_ble_eq_true rfl)) (hb hby d18_16) ?_
  refine Go.iload X0 hx (hb hby d18_17) rfl ?_
  by_cases hc19_2 : (c0.toInt8.toInt32) = ((123 : Int32).toInt8.toInt32)
  · skip
    refine Go.icmpNo X0 hx (hb hby d18_19) (teq hc19_2).2 ?_
    show Go p_ e_ below _ _ s₁ (mkF m_ 22 #[.val (.ref t), .val (.int (123 : Int32)), .val (.int (0 : Int32)), .val (.int (2 : Int32)), .val (.int ((123 : Int32).toInt8.toInt32)), .val (.int (0 : Int32))] [])
    refine Go.iload X0 hx (hb hby d18_22) rfl ?_
    refine Go.retI X0 hx hret hlk (hb hby d18_24) (by decide) (by decide) ?_
    exact ⟨by unfold own_f18_2; rw [if_pos hc19_2] <;> rfl, N0, e0⟩
  · skip
    refine Go.icmpYes X0 hx (pc' := 25) (hb hby d18_19) (feq hc19_2).2 (by decide) (by decide) ?_
    show Go p_ e_ below _ _ s₁ (mkF m_ 25 #[.val (.ref t), .val (.int (123 : Int32)), .val (.int (0 : Int32)), .val (.int (2 : Int32)), .val (.int ((123 : Int32).toInt8.toInt32)), .val (.int (0 : Int32))] [])
    refine Go.iincF X0 hx (l' := #[.val (.ref t), .val (.int (123 : Int32)), .val (.int (0 : Int32)), .val (.int (2 : Int32)), .val (.int ((123 : Int32).toInt8.toInt32)), .val (.int (1 : Int32))]) (1 : Int32) (1 : Int32) (hb hby d18_25) rfl (by decide) rfl rfl ?_
    refine Go.goto X0 hx (pc' := 7) (hb hby d18_28) (by decide) (by decide) ?_
    refine Go.iload X0 hx (hb hby d18_7) rfl ?_
    refine Go.iloadN X0 hx (hb hby d18_9) rfl ?_
    refine Go.icmpNo X0 hx (hb hby d18_10) (tlt (by decide)).2.1 ?_
    show Go p_ e_ below _ _ s₁ (mkF m_ 13 #[.val (.ref t), .val (.int (123 : Int32)), .val (.int (0 : Int32)), .val (.int (2 : Int32)), .val (.int ((123 : Int32).toInt8.toInt32)), .val (.int (1 : Int32))] [])
    refine Go.aloadN X0 hx (hb hby d18_13) rfl rfl ?_
    refine Go.iload X0 hx (hb hby d18_14) rfl ?_
    obtain ⟨cl3, Ar3, q3, S3, M3, H3, G3⟩ := id V_t
    refine Go.baload X0 hx hZ e0 Ar3 (inb_of S3 ⟨by decide, by decide⟩) (v := (.int (c1.toInt8.toInt32))) (H3 1 (by rw [S3]; exact Nat.le_of_ble_eq_true rfl)) (hb hby d18_16) ?_
    refine Go.iload X0 hx (hb hby d18_17) rfl ?_
    by_cases hc19_4 : (c1.toInt8.toInt32) = ((123 : Int32).toInt8.toInt32)
    · skip
      refine Go.icmpNo X0 hx (hb hby d18_19) (teq hc19_4).2 ?_
      show Go p_ e_ below _ _ s₁ (mkF m_ 22 #[.val (.ref t), .val (.int (123 : Int32)), .val (.int (0 : Int32)), .val (.int (2 : Int32)), .val (.int ((123 : Int32).toInt8.toInt32)), .val (.int (1 : Int32))] [])
      refine Go.iload X0 hx (hb hby d18_22) rfl ?_
      refine Go.retI X0 hx hret hlk (hb hby d18_24) (by decide) (by decide) ?_
      exact ⟨by unfold own_f18_2; rw [if_neg hc19_2, if_pos hc19_4] <;> rfl, N0, e0⟩
    · skip
      refine Go.icmpYes X0 hx (pc' := 25) (hb hby d18_19) (feq hc19_4).2 (by decide) (by decide) ?_
      show Go p_ e_ below _ _ s₁ (mkF m_ 25 #[.val (.ref t), .val (.int (123 : Int32)), .val (.int (0 : Int32)), .val (.int (2 : Int32)), .val (.int ((123 : Int32).toInt8.toInt32)), .val (.int (1 : Int32))] [])
      refine Go.iincF X0 hx (l' := #[.val (.ref t), .val (.int (123 : Int32)), .val (.int (0 : Int32)), .val (.int (2 : Int32)), .val (.int ((123 : Int32).toInt8.toInt32)), .val (.int (2 : Int32))]) (1 : Int32) (2 : Int32) (hb hby d18_25) rfl (by decide) rfl rfl ?_
      refine Go.goto X0 hx (pc' := 7) (hb hby d18_28) (by decide) (by decide) ?_
      refine Go.iload X0 hx (hb hby d18_7) rfl ?_
      refine Go.iloadN X0 hx (hb hby d18_9) rfl ?_
      refine Go.icmpYes X0 hx (pc' := 31) (hb hby d18_10) (flt (by decide)).2.1 (by decide) (by decide) ?_
      show Go p_ e_ below _ _ s₁ (mkF m_ 31 #[.val (.ref t), .val (.int (123 : Int32)), .val (.int (0 : Int32)), .val (.int (2 : Int32)), .val (.int ((123 : Int32).toInt8.toInt32)), .val (.int (2 : Int32))] [])
      refine Go.iconst X0 hx (-1 : Int32) (hb hby d18_31) rfl ?_
      refine Go.retI X0 hx hret hlk (hb hby d18_32) (by decide) (by decide) ?_
      exact ⟨by unfold own_f18_2; rw [if_neg hc19_2, if_neg hc19_4] <;> rfl, N0, e0⟩
def own_f11_2 (c0 : Int32) (c1 : Int32) : Int32 := (own_f18_2 c0 c1)
theorem ef_rm11_2 (m_ : MethodId) (t : Addr) : entryFrame m_ #[(.ref t), (.int (123 : Int32)), (.int (0 : Int32)), (.int (2 : Int32))] 4 = mkF m_ 0 #[.val (.ref t), .val (.int (123 : Int32)), .val (.int (0 : Int32)), .val (.int (2 : Int32))] [] := by first | (simp [entryFrame, mkF, argsToLocals, Value.category]; done) | rfl
def Q11_2 (Z : State) (t : Addr) (kb : ClassId) (c0 : Int32) (c1 : Int32) (h0 : Heap) (n0 : Nat) (v : Option Value) (h : Heap) (L : List Loc) : Prop := v = some (.int (own_f11_2 c0 c1)) ∧ Fr n0 L ∧ h = h0
set_option maxRecDepth 65536 in
set_option maxHeartbeats 40000000 in
theorem rm11_2 (l : Launch) (Z : State) (a0 : Array Value) (hw : ∀ d ∈ tables_1, d.before a0 Z = true) (ws : List Jvm.Cond) (t : Addr) (kb : ClassId) (c0 : Int32) (c1 : Int32) (h0 : Heap) (n0 : Nat) (Z0 : n0 ≤ h0.size) (V_t : Arv Z h0 t kb .byte (2 : Int32) [(.int (c0.toInt8.toInt32)), (.int (c1.toInt8.toInt32))] (.int (0 : Int32))) :
    MetFree l (⟨"java/lang/StringLatin1", "indexOf", "([BIII)I"⟩ : MethodName) (head1 (Jvm.Cond.code (⟨"java/lang/StringLatin1", "indexOf", "([BIII)I"⟩ : MethodName) jdk_43_method_22_code 4 (some .int) :: ws) ({ frames := 1, cells := 0, slots := 0, locals := 17 } : Room)) (fun a_ U_ => a_ = #[(.ref t), (.int (123 : Int32)), (.int (0 : Int32)), (.int (2 : Int32))] ∧ Z.Warmed39 U_.vm ∧ U_.heap = h0) (fun _ _ _ _ _ => True) (fun _ U_ o_ V_ => ∃ v_ L_, o_ = .returned v_ ∧ Q11_2 Z t kb c0 c1 h0 n0 v_ V_.heap L_ ∧ FrameEnd U_ o_ V_ L_ ({ frames := 1, cells := 0, slots := 0, locals := 17 } : Room).cells ({ frames := 1, cells := 0, slots := 0, locals := 17 } : Room).slots) := by
  refine metOf (Q := Q11_2 Z t kb c0 c1 h0 n0) (plainFor_of_name pn_11) ?_
  intro p_ e_ s_ m_ below meth c_ s₁ X0 hx hby hml hret hlk hZ hown hnm e0
  rw [ef_rm11_2]
  have N0 := Fr.nil n0
  show Go p_ e_ below _ _ s₁ (mkF m_ 0 #[.val (.ref t), .val (.int (123 : Int32)), .val (.int (0 : Int32)), .val (.int (2 : Int32))] [])
  refine Go.iloadN X0 hx (hb hby d11_0) rfl ?_
  refine Go.callS X0 hx hZ (rm12 l Z a0 hw [] h0 n0 Z0) hown (hw _ (List.mem_of_getElem? (i := 61) rfl)) (hw _ (List.mem_of_getElem? (i := 62) rfl)) (hw _ (List.mem_of_getElem? (i := 59) rfl)) (hw _ (List.mem_of_getElem? (i := 63) rfl)) (by decide) e0 (W := 0) (by rw [hml]; rfl) (argsL := [(.int (123 : Int32))]) (S := []) (Nat.le_of_ble_eq_true rfl) (by decide) (by decide) (by decide) (by decide) pd_oIcZ rfl rfl (hb hby d11_1) ?_
  rintro _ T1 L1 X1 ⟨rfl, N1q, e1⟩
  have N1 := Fr.app N0 N1q
  show Go p_ e_ below _ _ T1 (mkF m_ 4 #[.val (.ref t), .val (.int (123 : Int32)), .val (.int (0 : Int32)), .val (.int (2 : Int32))] [(.int (1 : Int32))])
  refine Go.ifYes X1 hx (pc' := 9) (hb hby d11_4) ((if0 _ _).trans (feq (by decide)).2) (by decide) (by decide) ?_
  show Go p_ e_ below _ _ T1 (mkF m_ 9 #[.val (.ref t), .val (.int (123 : Int32)), .val (.int (0 : Int32)), .val (.int (2 : Int32))] [])
  refine Go.iloadN X1 hx (hb hby d11_9) rfl ?_
  refine Go.iconst X1 hx (0 : Int32) (hb hby d11_10) rfl ?_
  refine Go.callS X1 hx hZ (rm13 l Z a0 hw [] h0 n0 Z0) hown (hw _ (List.mem_of_getElem? (i := 64) rfl)) (hw _ (List.mem_of_getElem? (i := 65) rfl)) (hw _ (List.mem_of_getElem? (i := 66) rfl)) (hw _ (List.mem_of_getElem? (i := 67) rfl)) (by decide) e1 (W := 0) (by rw [hml]; rfl) (argsL := [(.int (0 : Int32)), (.int (0 : Int32))]) (S := []) (Nat.le_of_ble_eq_true rfl) (by decide) (by decide) (by decide) (by decide) pd_oIIcI rfl rfl (hb hby d11_11) ?_
  rintro _ T2 L2 X2 ⟨rfl, N2q, e2⟩
  have N2 := Fr.app N1 N2q
  show Go p_ e_ below _ _ T2 (mkF m_ 14 #[.val (.ref t), .val (.int (123 : Int32)), .val (.int (0 : Int32)), .val (.int (2 : Int32))] [(.int (0 : Int32))])
  refine Go.istoreN X2 hx (l' := #[.val (.ref t), .val (.int (123 : Int32)), .val (.int (0 : Int32)), .val (.int (2 : Int32))]) (hb hby d11_14) rfl ?_
  refine Go.iloadN X2 hx (hb hby d11_15) rfl ?_
  refine Go.aloadN X2 hx (hb hby d11_16) rfl rfl ?_
  obtain ⟨cl3, Ar3, -, S3, M3, -, -⟩ := id V_t
  refine Go.arraylength X2 hx hZ e2 Ar3 S3 M3 (hb hby d11_17) ?_
  refine Go.callS X2 hx hZ (rm14_2 l Z a0 hw [] h0 n0 Z0) hown (hw _ (List.mem_of_getElem? (i := 68) rfl)) (hw _ (List.mem_of_getElem? (i := 69) rfl)) (hw _ (List.mem_of_getElem? (i := 66) rfl)) (hw _ (List.mem_of_getElem? (i := 70) rfl)) (by decide) e2 (W := 0) (by rw [hml]; rfl) (argsL := [(.int (2 : Int32)), (.int (2 : Int32))]) (S := []) (Nat.le_of_ble_eq_true rfl) (by decide) (by decide) (by decide) (by decide) pd_oIIcI rfl rfl (hb hby d11_18) ?_
  rintro _ T4 L4 X4 ⟨rfl, N4q, e4⟩
  have N4 := Fr.app N2 N4q
  show Go p_ e_ below _ _ T4 (mkF m_ 21 #[.val (.ref t), .val (.int (123 : Int32)), .val (.int (0 : Int32)), .val (.int (2 : Int32))] [(.int (2 : Int32))])
  refine Go.istoreN X4 hx (l' := #[.val (.ref t), .val (.int (123 : Int32)), .val (.int (0 : Int32)), .val (.int (2 : Int32))]) (hb hby d11_21) rfl ?_
  refine Go.iloadN X4 hx (hb hby d11_22) rfl ?_
  refine Go.iloadN X4 hx (hb hby d11_23) rfl ?_
  refine Go.icmpYes X4 hx (pc' := 29) (hb hby d11_24) (tlt (by decide)).1 (by decide) (by decide) ?_
  show Go p_ e_ below _ _ T4 (mkF m_ 29 #[.val (.ref t), .val (.int (123 : Int32)), .val (.int (0 : Int32)), .val (.int (2 : Int32))] [])
  refine Go.aloadN X4 hx (hb hby d11_29) rfl rfl ?_
  refine Go.iloadN X4 hx (hb hby d11_30) rfl ?_
  refine Go.iloadN X4 hx (hb hby d11_31) rfl ?_
  refine Go.iloadN X4 hx (hb hby d11_32) rfl ?_
  refine Go.callS X4 hx hZ (rm18_2 l Z a0 hw [] t kb c0 c1 h0 n0 Z0 V_t) hown (hw _ (List.mem_of_getElem? (i := 81) rfl)) (hw _ (List.mem_of_getElem? (i := 82) rfl)) (hw _ (List.mem_of_getElem? (i := 59) rfl)) (hw _ (List.mem_of_getElem? (i := 83) rfl)) (by decide) e4 (W := 0) (by rw [hml]; rfl) (argsL := [(.ref t), (.int (123 : Int32)), (.int (0 : Int32)), (.int (2 : Int32))]) (S := []) (Nat.le_of_ble_eq_true rfl) (by decide) (by decide) (by decide) (by decide) pd_oABIIIcI rfl rfl (hb hby d11_33) ?_
  rintro _ T5 L5 X5 ⟨rfl, N5q, e5⟩
  have N5 := Fr.app N4 N5q
  show Go p_ e_ below _ _ T5 (mkF m_ 36 #[.val (.ref t), .val (.int (123 : Int32)), .val (.int (0 : Int32)), .val (.int (2 : Int32))] [(.int (own_f18_2 c0 c1))])
  refine Go.retI X5 hx hret hlk (hb hby d11_36) (by decide) (by decide) ?_
  exact ⟨by unfold own_f11_2; rfl, N5, e5⟩
def own_f7_2 (c0 : Int32) (c1 : Int32) : Int32 := (own_f11_2 c0 c1)
theorem ef_rm7_2 (m_ : MethodId) (x : Addr) : entryFrame m_ #[(.ref x), (.int (123 : Int32)), (.int (0 : Int32))] 3 = mkF m_ 0 #[.val (.ref x), .val (.int (123 : Int32)), .val (.int (0 : Int32))] [] := by first | (simp [entryFrame, mkF, argsToLocals, Value.category]; done) | rfl
def Q7_2 (Z : State) (x : Addr) (t : Addr) (kb : ClassId) (c0 : Int32) (c1 : Int32) (zc : Int32) (h0 : Heap) (n0 : Nat) (v : Option Value) (h : Heap) (L : List Loc) : Prop := v = some (.int (own_f7_2 c0 c1)) ∧ Fr n0 L ∧ h = h0
set_option maxRecDepth 65536 in
set_option maxHeartbeats 40000000 in
theorem rm7_2 (l : Launch) (Z : State) (a0 : Array Value) (hw : ∀ d ∈ tables_1, d.before a0 Z = true) (ws : List Jvm.Cond) (x : Addr) (t : Addr) (kb : ClassId) (c0 : Int32) (c1 : Int32) (zc : Int32) (h0 : Heap) (n0 : Nat) (Z0 : n0 ≤ h0.size) (O : Old Z n0 h0) (Sco : Sta Z Z.heap "java/lang/String" "COMPACT_STRINGS" "Z" (.int zc)) (hzc : ¬ zc = 0) (S_x : StrAt Z h0 x t kb [c0, c1]) (hp : ∀ c ∈ ([c0, c1] : List Int32), ¬ c < 0 ∧ ¬ (255 : Int32) < c) :
    MetFree l (⟨"java/lang/String", "indexOf", "(II)I"⟩ : MethodName) (head1 (Jvm.Cond.code (⟨"java/lang/String", "indexOf", "(II)I"⟩ : MethodName) jdk_42_method_80_code 3 (some .int) :: ws) ({ frames := 2, cells := 0, slots := 0, locals := 32 } : Room)) (fun a_ U_ => a_ = #[(.ref x), (.int (123 : Int32)), (.int (0 : Int32))] ∧ Z.Warmed39 U_.vm ∧ U_.heap = h0) (fun _ _ _ _ _ => True) (fun _ U_ o_ V_ => ∃ v_ L_, o_ = .returned v_ ∧ Q7_2 Z x t kb c0 c1 zc h0 n0 v_ V_.heap L_ ∧ FrameEnd U_ o_ V_ L_ ({ frames := 2, cells := 0, slots := 0, locals := 32 } : Room).cells ({ frames := 2, cells := 0, slots := 0, locals := 32 } : Room).slots) := by
  refine metOf (Q := Q7_2 Z x t kb c0 c1 zc h0 n0) (plainFor_of_name pn_7) ?_
  intro p_ e_ s_ m_ below meth c_ s₁ X0 hx hby hml hret hlk hZ hown hnm e0
  rw [ef_rm7_2]
  have N0 := Fr.nil n0
  show Go p_ e_ below _ _ s₁ (mkF m_ 0 #[.val (.ref x), .val (.int (123 : Int32)), .val (.int (0 : Int32))] [])
  refine Go.aloadN X0 hx (hb hby d7_0) rfl rfl ?_
  refine Go.callV X0 hx hZ (y0 := (⟨"java/lang/String", "isLatin1", "()Z"⟩ : MethodName)) (rm8 l Z a0 hw [] x t kb [c0, c1] zc h0 n0 Z0 O Sco hzc S_x) (by decide) hown (hw _ (List.mem_of_getElem? (i := 41) rfl)) (hw _ (List.mem_of_getElem? (i := 42) rfl)) (notFace_of_selects (args := #[]) (mvT hZ (hw _ (List.mem_of_getElem? (i := 44) rfl)))) (hw _ (List.mem_of_getElem? (i := 44) rfl)) (hw _ (List.mem_of_getElem? (i := 43) rfl)) (hw _ (List.mem_of_getElem? (i := 8) rfl)) (hw _ (List.mem_of_getElem? (i := 45) rfl)) e0 S_x.1 (W := 0) (by rw [hml]; rfl) (argsL := []) (S := []) (Nat.le_of_ble_eq_true rfl) (by decide) (by decide) (by decide) (by decide) pd_ocZ rfl rfl (hb hby d7_1) ?_
  rintro _ T1 L1 X1 ⟨rfl, N1q, e1⟩
  have N1 := Fr.app N0 N1q
  show Go p_ e_ below _ _ T1 (mkF m_ 4 #[.val (.ref x), .val (.int (123 : Int32)), .val (.int (0 : Int32))] [(.int (1 : Int32))])
  refine Go.ifNo X1 hx (hb hby d7_4) ((if0 _ _).trans (feq (by decide)).1) ?_
  show Go p_ e_ below _ _ T1 (mkF m_ 7 #[.val (.ref x), .val (.int (123 : Int32)), .val (.int (0 : Int32))] [])
  refine Go.aloadN X1 hx (hb hby d7_7) rfl rfl ?_
  refine Go.getF X1 hx hZ hown (host := "") (Or.inl (hw _ (List.mem_of_getElem? (i := 25) rfl))) Via.refl e1 S_x.2.2.1 (hb hby d7_8) ?_
  intro T2 X2 e2
  show Go p_ e_ below _ _ T2 (mkF m_ 11 #[.val (.ref x), .val (.int (123 : Int32)), .val (.int (0 : Int32))] [(.ref t)])
  refine Go.iloadN X2 hx (hb hby d7_11) rfl ?_
  refine Go.iloadN X2 hx (hb hby d7_12) rfl ?_
  refine Go.aloadN X2 hx (hb hby d7_13) rfl rfl ?_
  refine Go.callVB X2 hx hZ (y0 := (⟨"java/lang/String", "length", "()I"⟩ : MethodName)) (K := "java/lang/String") (C1 := 0) (N1 := 0) (Qy := fun v_ h_ L_ => (v_ = some (.int (Int32.ofNat ([c0, c1]).length))) ∧ L_ = [] ∧ h_ = h0) (StrChars.Road.lenW (W := 3) hZ (own_hwordsLen hw) (kI := 4) (hw _ (List.mem_of_getElem? (i := 7) rfl)) S_x.1 S_x.2.2.1 S_x.2.1 S_x.2.2.2 (own_cod hp) (own_up hp) (Sco.ext O.2) hzc (Nat.le_of_ble_eq_true rfl) (by decide) (by decide)) (by decide) hown (hw _ (List.mem_of_getElem? (i := 47) rfl)) (hw _ (List.mem_of_getElem? (i := 48) rfl)) (notFace_of_selects (args := #[]) (mvT hZ (hw _ (List.mem_of_getElem? (i := 50) rfl)))) (hw _ (List.mem_of_getElem? (i := 50) rfl)) (hw _ (List.mem_of_getElem? (i := 49) rfl)) e2 S_x.1 (by rw [hml]; rfl) (argsL := []) (S := [(.int (0 : Int32)), (.int (123 : Int32)), (.ref t)]) (Nat.le_of_ble_eq_true rfl) (by decide) (by decide) pd_ocI rfl rfl (hb hby d7_14) ?_
  rintro _ T3 L3 X3 ⟨rfl, rfl, e3⟩
  have N3 := Fr.app N1 (Fr.nil n0)
  show Go p_ e_ below _ _ T3 (mkF m_ 17 #[.val (.ref x), .val (.int (123 : Int32)), .val (.int (0 : Int32))] [(.int (2 : Int32)), (.int (0 : Int32)), (.int (123 : Int32)), (.ref t)])
  refine Go.callS X3 hx hZ (rm11_2 l Z a0 hw [] t kb c0 c1 h0 n0 Z0 (show Arv Z h0 t kb .byte (2 : Int32) [(.int (c0.toInt8.toInt32)), (.int (c1.toInt8.toInt32))] (.int (0 : Int32)) from S_x.2.2.2)) hown (hw _ (List.mem_of_getElem? (i := 57) rfl)) (hw _ (List.mem_of_getElem? (i := 58) rfl)) (hw _ (List.mem_of_getElem? (i := 59) rfl)) (hw _ (List.mem_of_getElem? (i := 60) rfl)) (by decide) e3 (W := 0) (by rw [hml]; rfl) (argsL := [(.ref t), (.int (123 : Int32)), (.int (0 : Int32)), (.int (2 : Int32))]) (S := []) (Nat.le_of_ble_eq_true rfl) (by decide) (by decide) (by decide) (by decide) pd_oABIIIcI rfl rfl (hb hby d7_17) ?_
  rintro _ T4 L4 X4 ⟨rfl, N4q, e4⟩
  have N4 := Fr.app N3 N4q
  show Go p_ e_ below _ _ T4 (mkF m_ 20 #[.val (.ref x), .val (.int (123 : Int32)), .val (.int (0 : Int32))] [(.int (own_f11_2 c0 c1))])
  refine Go.goto X4 hx (pc' := 36) (hb hby d7_20) (by decide) (by decide) ?_
  refine Go.retI X4 hx hret hlk (hb hby d7_36) (by decide) (by decide) ?_
  exact ⟨by unfold own_f7_2; rfl, N4, e4⟩
def own_f6_2 (c0 : Int32) (c1 : Int32) : Int32 := (own_f7_2 c0 c1)
theorem ef_rm6_2 (m_ : MethodId) (x : Addr) : entryFrame m_ #[(.ref x), (.int (123 : Int32))] 2 = mkF m_ 0 #[.val (.ref x), .val (.int (123 : Int32))] [] := by first | (simp [entryFrame, mkF, argsToLocals, Value.category]; done) | rfl
def Q6_2 (Z : State) (x : Addr) (t : Addr) (kb : ClassId) (c0 : Int32) (c1 : Int32) (zc : Int32) (h0 : Heap) (n0 : Nat) (v : Option Value) (h : Heap) (L : List Loc) : Prop := v = some (.int (own_f6_2 c0 c1)) ∧ Fr n0 L ∧ h = h0
set_option maxRecDepth 65536 in
set_option maxHeartbeats 40000000 in
theorem rm6_2 (l : Launch) (Z : State) (a0 : Array Value) (hw : ∀ d ∈ tables_1, d.before a0 Z = true) (ws : List Jvm.Cond) (x : Addr) (t : Addr) (kb : ClassId) (c0 : Int32) (c1 : Int32) (zc : Int32) (h0 : Heap) (n0 : Nat) (Z0 : n0 ≤ h0.size) (O : Old Z n0 h0) (Sco : Sta Z Z.heap "java/lang/String" "COMPACT_STRINGS" "Z" (.int zc)) (hzc : ¬ zc = 0) (S_x : StrAt Z h0 x t kb [c0, c1]) (hp : ∀ c ∈ ([c0, c1] : List Int32), ¬ c < 0 ∧ ¬ (255 : Int32) < c) :
    MetFree l (⟨"java/lang/String", "indexOf", "(I)I"⟩ : MethodName) (head1 (Jvm.Cond.code (⟨"java/lang/String", "indexOf", "(I)I"⟩ : MethodName) jdk_42_method_79_code 2 (some .int) :: ws) ({ frames := 3, cells := 0, slots := 0, locals := 46 } : Room)) (fun a_ U_ => a_ = #[(.ref x), (.int (123 : Int32))] ∧ Z.Warmed39 U_.vm ∧ U_.heap = h0) (fun _ _ _ _ _ => True) (fun _ U_ o_ V_ => ∃ v_ L_, o_ = .returned v_ ∧ Q6_2 Z x t kb c0 c1 zc h0 n0 v_ V_.heap L_ ∧ FrameEnd U_ o_ V_ L_ ({ frames := 3, cells := 0, slots := 0, locals := 46 } : Room).cells ({ frames := 3, cells := 0, slots := 0, locals := 46 } : Room).slots) := by
  refine metOf (Q := Q6_2 Z x t kb c0 c1 zc h0 n0) (plainFor_of_name pn_6) ?_
  intro p_ e_ s_ m_ below meth c_ s₁ X0 hx hby hml hret hlk hZ hown hnm e0
  rw [ef_rm6_2]
  have N0 := Fr.nil n0
  show Go p_ e_ below _ _ s₁ (mkF m_ 0 #[.val (.ref x), .val (.int (123 : Int32))] [])
  refine Go.aloadN X0 hx (hb hby d6_0) rfl rfl ?_
  refine Go.iloadN X0 hx (hb hby d6_1) rfl ?_
  refine Go.iconst X0 hx (0 : Int32) (hb hby d6_2) rfl ?_
  refine Go.callV X0 hx hZ (y0 := (⟨"java/lang/String", "indexOf", "(II)I"⟩ : MethodName)) (rm7_2 l Z a0 hw [] x t kb c0 c1 zc h0 n0 Z0 O Sco hzc S_x hp) (by decide) hown (hw _ (List.mem_of_getElem? (i := 36) rfl)) (hw _ (List.mem_of_getElem? (i := 37) rfl)) (notFace_of_selects (args := #[]) (mvT hZ (hw _ (List.mem_of_getElem? (i := 39) rfl)))) (hw _ (List.mem_of_getElem? (i := 39) rfl)) (hw _ (List.mem_of_getElem? (i := 38) rfl)) (hw _ (List.mem_of_getElem? (i := 8) rfl)) (hw _ (List.mem_of_getElem? (i := 40) rfl)) e0 S_x.1 (W := 0) (by rw [hml]; rfl) (argsL := [(.int (123 : Int32)), (.int (0 : Int32))]) (S := []) (Nat.le_of_ble_eq_true rfl) (by decide) (by decide) (by decide) (by decide) pd_oIIcI rfl rfl (hb hby d6_3) ?_
  rintro _ T1 L1 X1 ⟨rfl, N1q, e1⟩
  have N1 := Fr.app N0 N1q
  show Go p_ e_ below _ _ T1 (mkF m_ 6 #[.val (.ref x), .val (.int (123 : Int32))] [(.int (own_f7_2 c0 c1))])
  refine Go.retI X1 hx hret hlk (hb hby d6_6) (by decide) (by decide) ?_
  exact ⟨by unfold own_f6_2; rfl, N1, e1⟩
def own_f5_2 (c0 : Int32) (c1 : Int32) : Int32 := (if (own_f6_2 c0 c1) < (0 : Int32) then (0 : Int32) else (1 : Int32))
theorem ef_rm5_2 (m_ : MethodId) (x : Addr) : entryFrame m_ #[(.ref x)] 1 = mkF m_ 0 #[.val (.ref x)] [] := by first | (simp [entryFrame, mkF, argsToLocals, Value.category]; done) | rfl
def Q5_2 (Z : State) (x : Addr) (t : Addr) (kb : ClassId) (c0 : Int32) (c1 : Int32) (zc : Int32) (h0 : Heap) (n0 : Nat) (v : Option Value) (h : Heap) (L : List Loc) : Prop := v = some (.int (own_f5_2 c0 c1)) ∧ Fr n0 L ∧ h = h0
set_option maxRecDepth 65536 in
set_option maxHeartbeats 40000000 in
theorem rm5_2 (l : Launch) (Z : State) (a0 : Array Value) (hw : ∀ d ∈ tables_1, d.before a0 Z = true) (ws : List Jvm.Cond) (x : Addr) (t : Addr) (kb : ClassId) (c0 : Int32) (c1 : Int32) (zc : Int32) (h0 : Heap) (n0 : Nat) (Z0 : n0 ≤ h0.size) (O : Old Z n0 h0) (Sco : Sta Z Z.heap "java/lang/String" "COMPACT_STRINGS" "Z" (.int zc)) (hzc : ¬ zc = 0) (S_x : StrAt Z h0 x t kb [c0, c1]) (hp : ∀ c ∈ ([c0, c1] : List Int32), ¬ c < 0 ∧ ¬ (255 : Int32) < c) :
    MetFree l (⟨"com/example/ordinance/ordinance/description/PathSegments", "isTemplate", "(Ljava/lang/String;)Z"⟩ : MethodName) (head1 (Jvm.Cond.code (⟨"com/example/ordinance/ordinance/description/PathSegments", "isTemplate", "(Ljava/lang/String;)Z"⟩ : MethodName) prog_8_method_3_code 1 (some .boolean) :: ws) ({ frames := 4, cells := 0, slots := 0, locals := 59 } : Room)) (fun a_ U_ => a_ = #[(.ref x)] ∧ Z.Warmed39 U_.vm ∧ U_.heap = h0) (fun _ _ _ _ _ => True) (fun _ U_ o_ V_ => ∃ v_ L_, o_ = .returned v_ ∧ Q5_2 Z x t kb c0 c1 zc h0 n0 v_ V_.heap L_ ∧ FrameEnd U_ o_ V_ L_ ({ frames := 4, cells := 0, slots := 0, locals := 59 } : Room).cells ({ frames := 4, cells := 0, slots := 0, locals := 59 } : Room).slots) := by
  refine metOf (Q := Q5_2 Z x t kb c0 c1 zc h0 n0) (plainFor_of_name pn_5) ?_
  intro p_ e_ s_ m_ below meth c_ s₁ X0 hx hby hml hret hlk hZ hown hnm e0
  rw [ef_rm5_2]
  have N0 := Fr.nil n0
  show Go p_ e_ below _ _ s₁ (mkF m_ 0 #[.val (.ref x)] [])
  refine Go.aloadN X0 hx (hb hby d5_0) rfl rfl ?_
  refine Go.bipush X0 hx (123 : Int32) (hb hby d5_1) rfl ?_
  refine Go.callV X0 hx hZ (y0 := (⟨"java/lang/String", "indexOf", "(I)I"⟩ : MethodName)) (rm6_2 l Z a0 hw [] x t kb c0 c1 zc h0 n0 Z0 O Sco hzc S_x hp) (by decide) hown (hw _ (List.mem_of_getElem? (i := 31) rfl)) (hw _ (List.mem_of_getElem? (i := 32) rfl)) (notFace_of_selects (args := #[]) (mvT hZ (hw _ (List.mem_of_getElem? (i := 34) rfl)))) (hw _ (List.mem_of_getElem? (i := 34) rfl)) (hw _ (List.mem_of_getElem? (i := 33) rfl)) (hw _ (List.mem_of_getElem? (i := 8) rfl)) (hw _ (List.mem_of_getElem? (i := 35) rfl)) e0 S_x.1 (W := 0) (by rw [hml]; rfl) (argsL := [(.int (123 : Int32))]) (S := []) (Nat.le_of_ble_eq_true rfl) (by decide) (by decide) (by decide) (by decide) pd_oIcI rfl rfl (hb hby d5_3) ?_
  rintro _ T1 L1 X1 ⟨rfl, N1q, e1⟩
  have N1 := Fr.app N0 N1q
  show Go p_ e_ below _ _ T1 (mkF m_ 6 #[.val (.ref x)] [(.int (own_f6_2 c0 c1))])
  by_cases hc6_2 : (own_f6_2 c0 c1) < (0 : Int32)
  · skip
    refine Go.ifYes X1 hx (pc' := 13) (hb hby d5_6) ((if0 _ _).trans (tlt hc6_2).1) (by decide) (by decide) ?_
    show Go p_ e_ below _ _ T1 (mkF m_ 13 #[.val (.ref x)] [])
    refine Go.iconst X1 hx (0 : Int32) (hb hby d5_13) rfl ?_
    refine Go.retN X1 hx hret hlk (by simp) (hb hby d5_14) (by decide) (by decide) ?_
    exact ⟨by unfold own_f5_2; rw [if_pos hc6_2] <;> rfl, N1, e1⟩
  · skip
    refine Go.ifNo X1 hx (hb hby d5_6) ((if0 _ _).trans (flt hc6_2).1) ?_
    show Go p_ e_ below _ _ T1 (mkF m_ 9 #[.val (.ref x)] [])
    refine Go.iconst X1 hx (1 : Int32) (hb hby d5_9) rfl ?_
    refine Go.goto X1 hx (pc' := 14) (hb hby d5_10) (by decide) (by decide) ?_
    refine Go.retN X1 hx hret hlk (by simp) (hb hby d5_14) (by decide) (by decide) ?_
    exact ⟨by unfold own_f5_2; rw [if_neg hc6_2] <;> rfl, N1, e1⟩
theorem own_fin2 {c0 c1 ex : Int32} (r0 : 0 ≤ c0.toInt ∧ c0.toInt ≤ 255) (r1 : 0 ≤ c1.toInt ∧ c1.toInt ≤ 255) (h : ex = (if c0 = (123 : Int32) then (1 : Int32) else (if c1 = (123 : Int32) then (1 : Int32) else (0 : Int32)))) : own_f5_2 c0 c1 = ex := by
  subst h
  unfold own_f5_2 own_f6_2 own_f7_2 own_f11_2 own_f18_2
  simp only [own_bi r0, own_bi r1]
  by_cases h0 : c0 = (123 : Int32) <;> by_cases h1 : c1 = (123 : Int32) <;> simp [h0, h1]
theorem ef_rm14_3 (m_ : MethodId)  : entryFrame m_ #[(.int (3 : Int32)), (.int (3 : Int32))] 2 = mkF m_ 0 #[.val (.int (3 : Int32)), .val (.int (3 : Int32))] [] := by first | (simp [entryFrame, mkF, argsToLocals, Value.category]; done) | rfl
def Q14_3 (Z : State)   (h0 : Heap) (n0 : Nat) (v : Option Value) (h : Heap) (L : List Loc) : Prop := v = some (.int (3 : Int32)) ∧ Fr n0 L ∧ h = h0
set_option maxRecDepth 65536 in
set_option maxHeartbeats 40000000 in
theorem rm14_3 (l : Launch) (Z : State) (a0 : Array Value) (hw : ∀ d ∈ tables_1, d.before a0 Z = true) (ws : List Jvm.Cond)   (h0 : Heap) (n0 : Nat) (Z0 : n0 ≤ h0.size)  :
    MetFree l (⟨"java/lang/Math", "min", "(II)I"⟩ : MethodName) (head1 (Jvm.Cond.code (⟨"java/lang/Math", "min", "(II)I"⟩ : MethodName) jdk_29_method_69_code 2 (some .int) :: ws) ({ frames := 0, cells := 0, slots := 0, locals := 0 } : Room)) (fun a_ U_ => a_ = #[(.int (3 : Int32)), (.int (3 : Int32))] ∧ Z.Warmed39 U_.vm ∧ U_.heap = h0) (fun _ _ _ _ _ => True) (fun _ U_ o_ V_ => ∃ v_ L_, o_ = .returned v_ ∧ Q14_3 Z  h0 n0 v_ V_.heap L_ ∧ FrameEnd U_ o_ V_ L_ ({ frames := 0, cells := 0, slots := 0, locals := 0 } : Room).cells ({ frames := 0, cells := 0, slots := 0, locals := 0 } : Room).slots) := by
  refine metOf (Q := Q14_3 Z  h0 n0) (Jvm.Free.JP.mathPlain rfl (by decide +kernel)) ?_
  intro p_ e_ s_ m_ below meth c_ s₁ X0 hx hby hml hret hlk hZ hown hnm e0
  rw [ef_rm14_3]
  have N0 := Fr.nil n0
  show Go p_ e_ below _ _ s₁ (mkF m_ 0 #[.val (.int (3 : Int32)), .val (.int (3 : Int32))] [])
  refine Go.iloadN X0 hx (hb hby d14_0) rfl ?_
  refine Go.iloadN X0 hx (hb hby d14_1) rfl ?_
  refine Go.icmpNo X0 hx (hb hby d14_2) (flt (by decide)).2.2.1 ?_
  show Go p_ e_ below _ _ s₁ (mkF m_ 5 #[.val (.int (3 : Int32)), .val (.int (3 : Int32))] [])
  refine Go.iloadN X0 hx (hb hby d14_5) rfl ?_
  refine Go.goto X0 hx (pc' := 10) (hb hby d14_6) (by decide) (by decide) ?_
  refine Go.retI X0 hx hret hlk (hb hby d14_10) (by decide) (by decide) ?_
  exact ⟨rfl, N0, e0⟩
def own_f18_3 (c0 : Int32) (c1 : Int32) (c2 : Int32) : Int32 := (if (c0.toInt8.toInt32) = ((123 : Int32).toInt8.toInt32) then (0 : Int32) else (if (c1.toInt8.toInt32) = ((123 : Int32).toInt8.toInt32) then (1 : Int32) else (if (c2.toInt8.toInt32) = ((123 : Int32).toInt8.toInt32) then (2 : Int32) else (-1 : Int32))))
theorem ef_rm18_3 (m_ : MethodId) (t : Addr) : entryFrame m_ #[(.ref t), (.int (123 : Int32)), (.int (0 : Int32)), (.int (3 : Int32))] 6 = mkF m_ 0 #[.val (.ref t), .val (.int (123 : Int32)), .val (.int (0 : Int32)), .val (.int (3 : Int32)), .unset, .unset] [] := by first | (simp [entryFrame, mkF, argsToLocals, Value.category]; done) | rfl
def Q18_3 (Z : State) (t : Addr) (kb : ClassId) (c0 : Int32) (c1 : Int32) (c2 : Int32) (h0 : Heap) (n0 : Nat) (v : Option Value) (h : Heap) (L : List Loc) : Prop := v = some (.int (own_f18_3 c0 c1 c2)) ∧ Fr n0 L ∧ h = h0
set_option maxRecDepth 65536 in
set_option maxHeartbeats 40000000 in
theorem rm18_3 (l : Launch) (Z : State) (a0 : Array Value) (hw : ∀ d ∈ tables_1, d.before a0 Z = true) (ws : List Jvm.Cond) (t : Addr) (kb : ClassId) (c0 : Int32) (c1 : Int32) (c2 : Int32) (h0 : Heap) (n0 : Nat) (Z0 : n0 ≤ h0.size) (V_t : Arv Z h0 t kb .byte (3 : Int32) [(.int (c0.toInt8.toInt32)), (.int (c1.toInt8.toInt32)), (.int (c2.toInt8.toInt32))] (.int (0 : Int32))) :
    MetFree l (⟨"java/lang/StringLatin1", "indexOfChar", "([BIII)I"⟩ : MethodName) (head1 (Jvm.Cond.code (⟨"java/lang/StringLatin1", "indexOfChar", "([BIII)I"⟩ : MethodName) jdk_43_method_23_code 6 (some .int) :: ws) ({ frames := 0, cells := 0, slots := 0, locals := 0 } : Room)) (fun a_ U_ => a_ = #[(.ref t), (.int (123 : Int32)), (.int (0 : Int32)), (.int (3 : Int32))] ∧ Z.Warmed39 U_.vm ∧ U_.heap = h0) (fun _ _ _ _ _ => True) (fun _ U_ o_ V_ => ∃ v_ L_, o_ = .returned v_ ∧ Q18_3 Z t kb c0 c1 c2 h0 n0 v_ V_.heap L_ ∧ FrameEnd U_ o_ V_ L_ ({ frames := 0, cells := 0, slots := 0, locals := 0 } : Room).cells ({ frames := 0, cells := 0, slots := 0, locals := 0 } : Room).slots) := by
  refine metOf (Q := Q18_3 Z t kb c0 c1 c2 h0 n0) (plainFor_of_name pn_18) ?_
  intro p_ e_ s_ m_ below meth c_ s₁ X0 hx hby hml hret hlk hZ hown hnm e0
  rw [ef_rm18_3]
  have N0 := Fr.nil n0
  show Go p_ e_ below _ _ s₁ (mkF m_ 0 #[.val (.ref t), .val (.int (123 : Int32)), .val (.int (0 : Int32)), .val (.int (3 : Int32)), .unset, .unset] [])
  refine Go.iloadN X0 hx (hb hby d18_0) rfl ?_
  refine Go.i2b X0 hx (hb hby d18_1) ?_
  refine Go.istore X0 hx (l' := #[.val (.ref t), .val (.int (123 : Int32)), .val (.int (0 : Int32)), .val (.int (3 : Int32)), .val (.int ((123 : Int32).toInt8.toInt32)), .unset]) (hb hby d18_2) rfl ?_
  refine Go.iloadN X0 hx (hb hby d18_4) rfl ?_
  refine Go.istore X0 hx (l' := #[.val (.ref t), .val (.int (123 : Int32)), .val (.int (0 : Int32)), .val (.int (3 : Int32)), .val (.int ((123 : Int32).toInt8.toInt32)), .val (.int (0 : Int32))]) (hb hby d18_5) rfl ?_
  refine Go.iload X0 hx (hb hby d18_7) rfl ?_
  refine Go.iloadN X0 hx (hb hby d18_9) rfl ?_
  refine Go.icmpNo X0 hx (hb hby d18_10) (tlt (by decide)).2.1 ?_
  show Go p_ e_ below _ _ s₁ (mkF m_ 13 #[.val (.ref t), .val (.int (123 : Int32)), .val (.int (0 : Int32)), .val (.int (3 : Int32)), .val (.int ((123 : Int32).toInt8.toInt32)), .val (.int (0 : Int32))] [])
  refine Go.aloadN X0 hx (hb hby d18_13) rfl rfl ?_
  refine Go.iload X0 hx (hb hby d18_14) rfl ?_
  obtain ⟨cl1, Ar1, q1, S1, M1, H1, G1⟩ := id V_t
  refine Go.baload X0 hx hZ e0 Ar1 (inb_of S1 ⟨by decide, by decide⟩) (v := (.int (c0.toInt8.toInt32))) (H1 0 (by rw [S1]; exact Nat.le_of_ble_eq_true rfl)) (hb hby d18_16) ?_
  refine Go.iload X0 hx (hb hby d18_17) rfl ?_
  by_cases hc19_2 : (c0.toInt8.toInt32) = ((123 : Int32).toInt8.toInt32)
  · skip
    refine Go.icmpNo X0 hx (hb hby d18_19) (teq hc19_2).2 ?_
    show Go p_ e_ below _ _ s₁ (mkF m_ 22 #[.val (.ref t), .val (.int (123 : Int32)), .val (.int (0 : Int32)), .val (.int (3 : Int32)), .val (.int ((123 : Int32).toInt8.toInt32)), .val (.int (0 : Int32))] [])
    refine Go.iload X0 hx (hb hby d18_22) rfl ?_
    refine Go.retI X0 hx hret hlk (hb hby d18_24) (by decide) (by decide) ?_
    exact ⟨by unfold own_f18_3; rw [if_pos hc19_2] <;> rfl, N0, e0⟩
  · skip
    refine Go.icmpYes X0 hx (pc' := 25) (hb hby d18_19) (feq hc19_2).2 (by decide) (by decide) ?_
    show Go p_ e_ below _ _ s₁ (mkF m_ 25 #[.val (.ref t), .val (.int (123 : Int32)), .val (.int (0 : Int32)), .val (.int (3 : Int32)), .val (.int ((123 : Int32).toInt8.toInt32)), .val (.int (0 : Int32))] [])
    refine Go.iincF X0 hx (l' := #[.val (.ref t), .val (.int (123 : Int32)), .val (.int (0 : Int32)), .val (.int (3 : Int32)), .val (.int ((123 : Int32).toInt8.toInt32)), .val (.int (1 : Int32))]) (1 : Int32) (1 : Int32) (hb hby d18_25) rfl (by decide) rfl rfl ?_
    refine Go.goto X0 hx (pc' := 7) (hb hby d18_28) (by decide) (by decide) ?_
    refine Go.iload X0 hx (hb hby d18_7) rfl ?_
    refine Go.iloadN X0 hx (hb hby d18_9) rfl ?_
    refine Go.icmpNo X0 hx (hb hby d18_10) (tlt (by decide)).2.1 ?_
    show Go p_ e_ below _ _ s₁ (mkF m_ 13 #[.val (.ref t), .val (.int (123 : Int32)), .val (.int (0 : Int32)), .val (.int (3 : Int32)), .val (.int ((123 : Int32).toInt8.toInt32)), .val (.int (1 : Int32))] [])
    refine Go.aloadN X0 hx (hb hby d18_13) rfl rfl ?_
    refine Go.iload X0 hx (hb hby d18_14) rfl ?_
    obtain ⟨cl3, Ar3, q3, S3, M3, H3, G3⟩ := id V_t
    refine Go.baload X0 hx hZ e0 Ar3 (inb_of S3 ⟨by decide, by decide⟩) (v := (.int (c1.toInt8.toInt32))) (H3 1 (by rw [S3]; exact Nat.le_of_ble_eq_true rfl)) (hb hby d18_16) ?_
    refine Go.iload X0 hx (hb hby d18_17) rfl ?_
    by_cases hc19_4 : (c1.toInt8.toInt32) = ((123 : Int32).toInt8.toInt32)
    · skip
      refine Go.icmpNo X0 hx (hb hby d18_19) (teq hc19_4).2 ?_
      show Go p_ e_ below _ _ s₁ (mkF m_ 22 #[.val (.ref t), .val (.int (123 : Int32)), .val (.int (0 : Int32)), .val (.int (3 : Int32)), .val (.int ((123 : Int32).toInt8.toInt32)), .val (.int (1 : Int32))] [])
      refine Go.iload X0 hx (hb hby d18_22) rfl ?_
      refine Go.retI X0 hx hret hlk (hb hby d18_24) (by decide) (by decide) ?_
      exact ⟨by unfold own_f18_3; rw [if_neg hc19_2, if_pos hc19_4] <;> rfl, N0, e0⟩
    · skip
      refine Go.icmpYes X0 hx (pc' := 25) (hb hby d18_19) (feq hc19_4).2 (by decide) (by decide) ?_
      show Go p_ e_ below _ _ s₁ (mkF m_ 25 #[.val (.ref t), .val (.int (123 : Int32)), .val (.int (0 : Int32)), .val (.int (3 : Int32)), .val (.int ((123 : Int32).toInt8.toInt32)), .val (.int (1 : Int32))] [])
      refine Go.iincF X0 hx (l' := #[.val (.ref t), .val (.int (123 : Int32)), .val (.int (0 : Int32)), .val (.int (3 : Int32)), .val (.int ((123 : Int32).toInt8.toInt32)), .val (.int (2 : Int32))]) (1 : Int32) (2 : Int32) (hb hby d18_25) rfl (by decide) rfl rfl ?_
      refine Go.goto X0 hx (pc' := 7) (hb hby d18_28) (by decide) (by decide) ?_
      refine Go.iload X0 hx (hb hby d18_7) rfl ?_
      refine Go.iloadN X0 hx (hb hby d18_9) rfl ?_
      refine Go.icmpNo X0 hx (hb hby d18_10) (tlt (by decide)).2.1 ?_
      show Go p_ e_ below _ _ s₁ (mkF m_ 13 #[.val (.ref t), .val (.int (123 : Int32)), .val (.int (0 : Int32)), .val (.int (3 : Int32)), .val (.int ((123 : Int32).toInt8.toInt32)), .val (.int (2 : Int32))] [])
      refine Go.aloadN X0 hx (hb hby d18_13) rfl rfl ?_
      refine Go.iload X0 hx (hb hby d18_14) rfl ?_
      obtain ⟨cl5, Ar5, q5, S5, M5, H5, G5⟩ := id V_t
      refine Go.baload X0 hx hZ e0 Ar5 (inb_of S5 ⟨by decide, by decide⟩) (v := (.int (c2.toInt8.toInt32))) (H5 2 (by rw [S5]; exact Nat.le_of_ble_eq_true rfl)) (hb hby d18_16) ?_
      refine Go.iload X0 hx (hb hby d18_17) rfl ?_
      by_cases hc19_6 : (c2.toInt8.toInt32) = ((123 : Int32).toInt8.toInt32)
      · skip
        refine Go.icmpNo X0 hx (hb hby d18_19) (teq hc19_6).2 ?_
        show Go p_ e_ below _ _ s₁ (mkF m_ 22 #[.val (.ref t), .val (.int (123 : Int32)), .val (.int (0 : Int32)), .val (.int (3 : Int32)), .val (.int ((123 : Int32).toInt8.toInt32)), .val (.int (2 : Int32))] [])
        refine Go.iload X0 hx (hb hby d18_22) rfl ?_
        refine Go.retI X0 hx hret hlk (hb hby d18_24) (by decide) (by decide) ?_
        exact ⟨by unfold own_f18_3; rw [if_neg hc19_2, if_neg hc19_4, if_pos hc19_6] <;> rfl, N0, e0⟩
      · skip
        refine Go.icmpYes X0 hx (pc' := 25) (hb hby d18_19) (feq hc19_6).2 (by decide) (by decide) ?_
        show Go p_ e_ below _ _ s₁ (mkF m_ 25 #[.val (.ref t), .val (.int (123 : Int32)), .val (.int (0 : Int32)), .val (.int (3 : Int32)), .val (.int ((123 : Int32).toInt8.toInt32)), .val (.int (2 : Int32))] [])
        refine Go.iincF X0 hx (l' := #[.val (.ref t), .val (.int (123 : Int32)), .val (.int (0 : Int32)), .val (.int (3 : Int32)), .val (.int ((123 : Int32).toInt8.toInt32)), .val (.int (3 : Int32))]) (1 : Int32) (3 : Int32) (hb hby d18_25) rfl (by decide) rfl rfl ?_
        refine Go.goto X0 hx (pc' := 7) (hb hby d18_28) (by decide) (by decide) ?_
        refine Go.iload X0 hx (hb hby d18_7) rfl ?_
        refine Go.iloadN X0 hx (hb hby d18_9) rfl ?_
        refine Go.icmpYes X0 hx (pc' := 31) (hb hby d18_10) (flt (by decide)).2.1 (by decide) (by decide) ?_
        show Go p_ e_ below _ _ s₁ (mkF m_ 31 #[.val (.ref t), .val (.int (123 : Int32)), .val (.int (0 : Int32)), .val (.int (3 : Int32)), .val (.int ((123 : Int32).toInt8.toInt32)), .val (.int (3 : Int32))] [])
        refine Go.iconst X0 hx (-1 : Int32) (hb hby d18_31) rfl ?_
        refine Go.retI X0 hx hret hlk (hb hby d18_32) (by decide) (by decide) ?_
        exact ⟨by unfold own_f18_3; rw [if_neg hc19_2, if_neg hc19_4, if_neg hc19_6] <;> rfl, N0, e0⟩
def own_f11_3 (c0 : Int32) (c1 : Int32) (c2 : Int32) : Int32 := (own_f18_3 c0 c1 c2)
theorem ef_rm11_3 (m_ : MethodId) (t : Addr) : entryFrame m_ #[(.ref t), (.int (123 : Int32)), (.int (0 : Int32)), (.int (3 : Int32))] 4 = mkF m_ 0 #[.val (.ref t), .val (.int (123 : Int32)), .val (.int (0 : Int32)), .val (.int (3 : Int32))] [] := by first | (simp [entryFrame, mkF, argsToLocals, Value.category]; done) | rfl
def Q11_3 (Z : State) (t : Addr) (kb : ClassId) (c0 : Int32) (c1 : Int32) (c2 : Int32) (h0 : Heap) (n0 : Nat) (v : Option Value) (h : Heap) (L : List Loc) : Prop := v = some (.int (own_f11_3 c0 c1 c2)) ∧ Fr n0 L ∧ h = h0
set_option maxRecDepth 65536 in
set_option maxHeartbeats 40000000 in
theorem rm11_3 (l : Launch) (Z : State) (a0 : Array Value) (hw : ∀ d ∈ tables_1, d.before a0 Z = true) (ws : List Jvm.Cond) (t : Addr) (kb : ClassId) (c0 : Int32) (c1 : Int32) (c2 : Int32) (h0 : Heap) (n0 : Nat) (Z0 : n0 ≤ h0.size) (V_t : Arv Z h0 t kb .byte (3 : Int32) [(.int (c0.toInt8.toInt32)), (.int (c1.toInt8.toInt32)), (.int (c2.toInt8.toInt32))] (.int (0 : Int32))) :
    MetFree l (⟨"java/lang/StringLatin1", "indexOf", "([BIII)I"⟩ : MethodName) (head1 (Jvm.Cond.code (⟨"java/lang/StringLatin1", "indexOf", "([BIII)I"⟩ : MethodName) jdk_43_method_22_code 4 (some .int) :: ws) ({ frames := 1, cells := 0, slots := 0, locals := 17 } : Room)) (fun a_ U_ => a_ = #[(.ref t), (.int (123 : Int32)), (.int (0 : Int32)), (.int (3 : Int32))] ∧ Z.Warmed39 U_.vm ∧ U_.heap = h0) (fun _ _ _ _ _ => True) (fun _ U_ o_ V_ => ∃ v_ L_, o_ = .returned v_ ∧ Q11_3 Z t kb c0 c1 c2 h0 n0 v_ V_.heap L_ ∧ FrameEnd U_ o_ V_ L_ ({ frames := 1, cells := 0, slots := 0, locals := 17 } : Room).cells ({ frames := 1, cells := 0, slots := 0, locals := 17 } : Room).slots) := by
  refine metOf (Q := Q11_3 Z t kb c0 c1 c2 h0 n0) (plainFor_of_name pn_11) ?_
  intro p_ e_ s_ m_ below meth c_ s₁ X0 hx hby hml hret hlk hZ hown hnm e0
  rw [ef_rm11_3]
  have N0 := Fr.nil n0
  show Go p_ e_ below _ _ s₁ (mkF m_ 0 #[.val (.ref t), .val (.int (123 : Int32)), .val (.int (0 : Int32)), .val (.int (3 : Int32))] [])
  refine Go.iloadN X0 hx (hb hby d11_0) rfl ?_
  refine Go.callS X0 hx hZ (rm12 l Z a0 hw [] h0 n0 Z0) hown (hw _ (List.mem_of_getElem? (i := 61) rfl)) (hw _ (List.mem_of_getElem? (i := 62) rfl)) (hw _ (List.mem_of_getElem? (i := 59) rfl)) (hw _ (List.mem_of_getElem? (i := 63) rfl)) (by decide) e0 (W := 0) (by rw [hml]; rfl) (argsL := [(.int (123 : Int32))]) (S := []) (Nat.le_of_ble_eq_true rfl) (by decide) (by decide) (by decide) (by decide) pd_oIcZ rfl rfl (hb hby d11_1) ?_
  rintro _ T1 L1 X1 ⟨rfl, N1q, e1⟩
  have N1 := Fr.app N0 N1q
  show Go p_ e_ below _ _ T1 (mkF m_ 4 #[.val (.ref t), .val (.int (123 : Int32)), .val (.int (0 : Int32)), .val (.int (3 : Int32))] [(.int (1 : Int32))])
  refine Go.ifYes X1 hx (pc' := 9) (hb hby d11_4) ((if0 _ _).trans (feq (by decide)).2) (by decide) (by decide) ?_
  show Go p_ e_ below _ _ T1 (mkF m_ 9 #[.val (.ref t), .val (.int (123 : Int32)), .val (.int (0 : Int32)), .val (.int (3 : Int32))] [])
  refine Go.iloadN X1 hx (hb hby d11_9) rfl ?_
  refine Go.iconst X1 hx (0 : Int32) (hb hby d11_10) rfl ?_
  refine Go.callS X1 hx hZ (rm13 l Z a0 hw [] h0 n0 Z0) hown (hw _ (List.mem_of_getElem? (i := 64) rfl)) (hw _ (List.mem_of_getElem? (i := 65) rfl)) (hw _ (List.mem_of_getElem? (i := 66) rfl)) (hw _ (List.mem_of_getElem? (i := 67) rfl)) (by decide) e1 (W := 0) (by rw [hml]; rfl) (argsL := [(.int (0 : Int32)), (.int (0 : Int32))]) (S := []) (Nat.le_of_ble_eq_true rfl) (by decide) (by decide) (by decide) (by decide) pd_oIIcI rfl rfl (hb hby d11_11) ?_
  rintro _ T2 L2 X2 ⟨rfl, N2q, e2⟩
  have N2 := Fr.app N1 N2q
  show Go p_ e_ below _ _ T2 (mkF m_ 14 #[.val (.ref t), .val (.int (123 : Int32)), .val (.int (0 : Int32)), .val (.int (3 : Int32))] [(.int (0 : Int32))])
  refine Go.istoreN X2 hx (l' := #[.val (.ref t), .val (.int (123 : Int32)), .val (.int (0 : Int32)), .val (.int (3 : Int32))]) (hb hby d11_14) rfl ?_
  refine Go.iloadN X2 hx (hb hby d11_15) rfl ?_
  refine Go.aloadN X2 hx (hb hby d11_16) rfl rfl ?_
  obtain ⟨cl3, Ar3, -, S3, M3, -, -⟩ := id V_t
  refine Go.arraylength X2 hx hZ e2 Ar3 S3 M3 (hb hby d11_17) ?_
  refine Go.callS X2 hx hZ (rm14_3 l Z a0 hw [] h0 n0 Z0) hown (hw _ (List.mem_of_getElem? (i := 68) rfl)) (hw _ (List.mem_of_getElem? (i := 69) rfl)) (hw _ (List.mem_of_getElem? (i := 66) rfl)) (hw _ (List.mem_of_getElem? (i := 70) rfl)) (by decide) e2 (W := 0) (by rw [hml]; rfl) (argsL := [(.int (3 : Int32)), (.int (3 : Int32))]) (S := []) (Nat.le_of_ble_eq_true rfl) (by decide) (by decide) (by decide) (by decide) pd_oIIcI rfl rfl (hb hby d11_18) ?_
  rintro _ T4 L4 X4 ⟨rfl, N4q, e4⟩
  have N4 := Fr.app N2 N4q
  show Go p_ e_ below _ _ T4 (mkF m_ 21 #[.val (.ref t), .val (.int (123 : Int32)), .val (.int (0 : Int32)), .val (.int (3 : Int32))] [(.int (3 : Int32))])
  refine Go.istoreN X4 hx (l' := #[.val (.ref t), .val (.int (123 : Int32)), .val (.int (0 : Int32)), .val (.int (3 : Int32))]) (hb hby d11_21) rfl ?_
  refine Go.iloadN X4 hx (hb hby d11_22) rfl ?_
  refine Go.iloadN X4 hx (hb hby d11_23) rfl ?_
  refine Go.icmpYes X4 hx (pc' := 29) (hb hby d11_24) (tlt (by decide)).1 (by decide) (by decide) ?_
  show Go p_ e_ below _ _ T4 (mkF m_ 29 #[.val (.ref t), .val (.int (123 : Int32)), .val (.int (0 : Int32)), .val (.int (3 : Int32))] [])
  refine Go.aloadN X4 hx (hb hby d11_29) rfl rfl ?_
  refine Go.iloadN X4 hx (hb hby d11_30) rfl ?_
  refine Go.iloadN X4 hx (hb hby d11_31) rfl ?_
  refine Go.iloadN X4 hx (hb hby d11_32) rfl ?_
  refine Go.callS X4 hx hZ (rm18_3 l Z a0 hw [] t kb c0 c1 c2 h0 n0 Z0 V_t) hown (hw _ (List.mem_of_getElem? (i := 81) rfl)) (hw _ (List.mem_of_getElem? (i := 82) rfl)) (hw _ (List.mem_of_getElem? (i := 59) rfl)) (hw _ (List.mem_of_getElem? (i := 83) rfl)) (by decide) e4 (W := 0) (by rw [hml]; rfl) (argsL := [(.ref t), (.int (123 : Int32)), (.int (0 : Int32)), (.int (3 : Int32))]) (S := []) (Nat.le_of_ble_eq_true rfl) (by decide) (by decide) (by decide) (by decide) pd_oABIIIcI rfl rfl (hb hby d11_33) ?_
  rintro _ T5 L5 X5 ⟨rfl, N5q, e5⟩
  have N5 := Fr.app N4 N5q
  show Go p_ e_ below _ _ T5 (mkF m_ 36 #[.val (.ref t), .val (.int (123 : Int32)), .val (.int (0 : Int32)), .val (.int (3 : Int32))] [(.int (own_f18_3 c0 c1 c2))])
  refine Go.retI X5 hx hret hlk (hb hby d11_36) (by decide) (by decide) ?_
  exact ⟨by unfold own_f11_3; rfl, N5, e5⟩
def own_f7_3 (c0 : Int32) (c1 : Int32) (c2 : Int32) : Int32 := (own_f11_3 c0 c1 c2)
theorem ef_rm7_3 (m_ : MethodId) (x : Addr) : entryFrame m_ #[(.ref x), (.int (123 : Int32)), (.int (0 : Int32))] 3 = mkF m_ 0 #[.val (.ref x), .val (.int (123 : Int32)), .val (.int (0 : Int32))] [] := by first | (simp [entryFrame, mkF, argsToLocals, Value.category]; done) | rfl
def Q7_3 (Z : State) (x : Addr) (t : Addr) (kb : ClassId) (c0 : Int32) (c1 : Int32) (c2 : Int32) (zc : Int32) (h0 : Heap) (n0 : Nat) (v : Option Value) (h : Heap) (L : List Loc) : Prop := v = some (.int (own_f7_3 c0 c1 c2)) ∧ Fr n0 L ∧ h = h0
set_option maxRecDepth 65536 in
set_option maxHeartbeats 40000000 in
theorem rm7_3 (l : Launch) (Z : State) (a0 : Array Value) (hw : ∀ d ∈ tables_1, d.before a0 Z = true) (ws : List Jvm.Cond) (x : Addr) (t : Addr) (kb : ClassId) (c0 : Int32) (c1 : Int32) (c2 : Int32) (zc : Int32) (h0 : Heap) (n0 : Nat) (Z0 : n0 ≤ h0.size) (O : Old Z n0 h0) (Sco : Sta Z Z.heap "java/lang/String" "COMPACT_STRINGS" "Z" (.int zc)) (hzc : ¬ zc = 0) (S_x : StrAt Z h0 x t kb [c0, c1, c2]) (hp : ∀ c ∈ ([c0, c1, c2] : List Int32), ¬ c < 0 ∧ ¬ (255 : Int32) < c) :
    MetFree l (⟨"java/lang/String", "indexOf", "(II)I"⟩ : MethodName) (head1 (Jvm.Cond.code (⟨"java/lang/String", "indexOf", "(II)I"⟩ : MethodName) jdk_42_method_80_code 3 (some .int) :: ws) ({ frames := 2, cells := 0, slots := 0, locals := 32 } : Room)) (fun a_ U_ => a_ = #[(.ref x), (.int (123 : Int32)), (.int (0 : Int32))] ∧ Z.Warmed39 U_.vm ∧ U_.heap = h0) (fun _ _ _ _ _ => True) (fun _ U_ o_ V_ => ∃ v_ L_, o_ = .returned v_ ∧ Q7_3 Z x t kb c0 c1 c2 zc h0 n0 v_ V_.heap L_ ∧ FrameEnd U_ o_ V_ L_ ({ frames := 2, cells := 0, slots := 0, locals := 32 } : Room).cells ({ frames := 2, cells := 0, slots := 0, locals := 32 } : Room).slots) := by
  refine metOf (Q := Q7_3 Z x t kb c0 c1 c2 zc h0 n0) (plainFor_of_name pn_7) ?_
  intro p_ e_ s_ m_ below meth c_ s₁ X0 hx hby hml hret hlk hZ hown hnm e0
  rw [ef_rm7_3]
  have N0 := Fr.nil n0
  show Go p_ e_ below _ _ s₁ (mkF m_ 0 #[.val (.ref x), .val (.int (123 : Int32)), .val (.int (0 : Int32))] [])
  refine Go.aloadN X0 hx (hb hby d7_0) rfl rfl ?_
  refine Go.callV X0 hx hZ (y0 := (⟨"java/lang/String", "isLatin1", "()Z"⟩ : MethodName)) (rm8 l Z a0 hw [] x t kb [c0, c1, c2] zc h0 n0 Z0 O Sco hzc S_x) (by decide) hown (hw _ (List.mem_of_getElem? (i := 41) rfl)) (hw _ (List.mem_of_getElem? (i := 42) rfl)) (notFace_of_selects (args := #[]) (mvT hZ (hw _ (List.mem_of_getElem? (i := 44) rfl)))) (hw _ (List.mem_of_getElem? (i := 44) rfl)) (hw _ (List.mem_of_getElem? (i := 43) rfl)) (hw _ (List.mem_of_getElem? (i := 8) rfl)) (hw _ (List.mem_of_getElem? (i := 45) rfl)) e0 S_x.1 (W := 0) (by rw [hml]; rfl) (argsL := []) (S := []) (Nat.le_of_ble_eq_true rfl) (by decide) (by decide) (by decide) (by decide) pd_ocZ rfl rfl (hb hby d7_1) ?_
  rintro _ T1 L1 X1 ⟨rfl, N1q, e1⟩
  have N1 := Fr.app N0 N1q
  show Go p_ e_ below _ _ T1 (mkF m_ 4 #[.val (.ref x), .val (.int (123 : Int32)), .val (.int (0 : Int32))] [(.int (1 : Int32))])
  refine Go.ifNo X1 hx (hb hby d7_4) ((if0 _ _).trans (feq (by decide)).1) ?_
  show Go p_ e_ below _ _ T1 (mkF m_ 7 #[.val (.ref x), .val (.int (123 : Int32)), .val (.int (0 : Int32))] [])
  refine Go.aloadN X1 hx (hb hby d7_7) rfl rfl ?_
  refine Go.getF X1 hx hZ hown (host := "") (Or.inl (hw _ (List.mem_of_getElem? (i := 25) rfl))) Via.refl e1 S_x.2.2.1 (hb hby d7_8) ?_
  intro T2 X2 e2
  show Go p_ e_ below _ _ T2 (mkF m_ 11 #[.val (.ref x), .val (.int (123 : Int32)), .val (.int (0 : Int32))] [(.ref t)])
  refine Go.iloadN X2 hx (hb hby d7_11) rfl ?_
  refine Go.iloadN X2 hx (hb hby d7_12) rfl ?_
  refine Go.aloadN X2 hx (hb hby d7_13) rfl rfl ?_
  refine Go.callVB X2 hx hZ (y0 := (⟨"java/lang/String", "length", "()I"⟩ : MethodName)) (K := "java/lang/String") (C1 := 0) (N1 := 0) (Qy := fun v_ h_ L_ => (v_ = some (.int (Int32.ofNat ([c0, c1, c2]).length))) ∧ L_ = [] ∧ h_ = h0) (StrChars.Road.lenW (W := 3) hZ (own_hwordsLen hw) (kI := 4) (hw _ (List.mem_of_getElem? (i := 7) rfl)) S_x.1 S_x.2.2.1 S_x.2.1 S_x.2.2.2 (own_cod hp) (own_up hp) (Sco.ext O.2) hzc (Nat.le_of_ble_eq_true rfl) (by decide) (by decide)) (by decide) hown (hw _ (List.mem_of_getElem? (i := 47) rfl)) (hw _ (List.mem_of_getElem? (i := 48) rfl)) (notFace_of_selects (args := #[]) (mvT hZ (hw _ (List.mem_of_getElem? (i := 50) rfl)))) (hw _ (List.mem_of_getElem? (i := 50) rfl)) (hw _ (List.mem_of_getElem? (i := 49) rfl)) e2 S_x.1 (by rw [hml]; rfl) (argsL := []) (S := [(.int (0 : Int32)), (.int (123 : Int32)), (.ref t)]) (Nat.le_of_ble_eq_true rfl) (by decide) (by decide) pd_ocI rfl rfl (hb hby d7_14) ?_
  rintro _ T3 L3 X3 ⟨rfl, rfl, e3⟩
  have N3 := Fr.app N1 (Fr.nil n0)
  show Go p_ e_ below _ _ T3 (mkF m_ 17 #[.val (.ref x), .val (.int (123 : Int32)), .val (.int (0 : Int32))] [(.int (3 : Int32)), (.int (0 : Int32)), (.int (123 : Int32)), (.ref t)])
  refine Go.callS X3 hx hZ (rm11_3 l Z a0 hw [] t kb c0 c1 c2 h0 n0 Z0 (show Arv Z h0 t kb .byte (3 : Int32) [(.int (c0.toInt8.toInt32)), (.int (c1.toInt8.toInt32)), (.int (c2.toInt8.toInt32))] (.int (0 : Int32)) from S_x.2.2.2)) hown (hw _ (List.mem_of_getElem? (i := 57) rfl)) (hw _ (List.mem_of_getElem? (i := 58) rfl)) (hw _ (List.mem_of_getElem? (i := 59) rfl)) (hw _ (List.mem_of_getElem? (i := 60) rfl)) (by decide) e3 (W := 0) (by rw [hml]; rfl) (argsL := [(.ref t), (.int (123 : Int32)), (.int (0 : Int32)), (.int (3 : Int32))]) (S := []) (Nat.le_of_ble_eq_true rfl) (by decide) (by decide) (by decide) (by decide) pd_oABIIIcI rfl rfl (hb hby d7_17) ?_
  rintro _ T4 L4 X4 ⟨rfl, N4q, e4⟩
  have N4 := Fr.app N3 N4q
  show Go p_ e_ below _ _ T4 (mkF m_ 20 #[.val (.ref x), .val (.int (123 : Int32)), .val (.int (0 : Int32))] [(.int (own_f11_3 c0 c1 c2))])
  refine Go.goto X4 hx (pc' := 36) (hb hby d7_20) (by decide) (by decide) ?_
  refine Go.retI X4 hx hret hlk (hb hby d7_36) (by decide) (by decide) ?_
  exact ⟨by unfold own_f7_3; rfl, N4, e4⟩
def own_f6_3 (c0 : Int32) (c1 : Int32) (c2 : Int32) : Int32 := (own_f7_3 c0 c1 c2)
theorem ef_rm6_3 (m_ : MethodId) (x : Addr) : entryFrame m_ #[(.ref x), (.int (123 : Int32))] 2 = mkF m_ 0 #[.val (.ref x), .val (.int (123 : Int32))] [] := by first | (simp [entryFrame, mkF, argsToLocals, Value.category]; done) | rfl
def Q6_3 (Z : State) (x : Addr) (t : Addr) (kb : ClassId) (c0 : Int32) (c1 : Int32) (c2 : Int32) (zc : Int32) (h0 : Heap) (n0 : Nat) (v : Option Value) (h : Heap) (L : List Loc) : Prop := v = some (.int (own_f6_3 c0 c1 c2)) ∧ Fr n0 L ∧ h = h0
set_option maxRecDepth 65536 in
set_option maxHeartbeats 40000000 in
theorem rm6_3 (l : Launch) (Z : State) (a0 : Array Value) (hw : ∀ d ∈ tables_1, d.before a0 Z = true) (ws : List Jvm.Cond) (x : Addr) (t : Addr) (kb : ClassId) (c0 : Int32) (c1 : Int32) (c2 : Int32) (zc : Int32) (h0 : Heap) (n0 : Nat) (Z0 : n0 ≤ h0.size) (O : Old Z n0 h0) (Sco : Sta Z Z.heap "java/lang/String" "COMPACT_STRINGS" "Z" (.int zc)) (hzc : ¬ zc = 0) (S_x : StrAt Z h0 x t kb [c0, c1, c2]) (hp : ∀ c ∈ ([c0, c1, c2] : List Int32), ¬ c < 0 ∧ ¬ (255 : Int32) < c) :
    MetFree l (⟨"java/lang/String", "indexOf", "(I)I"⟩ : MethodName) (head1 (Jvm.Cond.code (⟨"java/lang/String", "indexOf", "(I)I"⟩ : MethodName) jdk_42_method_79_code 2 (some .int) :: ws) ({ frames := 3, cells := 0, slots := 0, locals := 46 } : Room)) (fun a_ U_ => a_ = #[(.ref x), (.int (123 : Int32))] ∧ Z.Warmed39 U_.vm ∧ U_.heap = h0) (fun _ _ _ _ _ => True) (fun _ U_ o_ V_ => ∃ v_ L_, o_ = .returned v_ ∧ Q6_3 Z x t kb c0 c1 c2 zc h0 n0 v_ V_.heap L_ ∧ FrameEnd U_ o_ V_ L_ ({ frames := 3, cells := 0, slots := 0, locals := 46 } : Room).cells ({ frames := 3, cells := 0, slots := 0, locals := 46 } : Room).slots) := by
  refine metOf (Q := Q6_3 Z x t kb c0 c1 c2 zc h0 n0) (plainFor_of_name pn_6) ?_
  intro p_ e_ s_ m_ below meth c_ s₁ X0 hx hby hml hret hlk hZ hown hnm e0
  rw [ef_rm6_3]
  have N0 := Fr.nil n0
  show Go p_ e_ below _ _ s₁ (mkF m_ 0 #[.val (.ref x), .val (.int (123 : Int32))] [])
  refine Go.aloadN X0 hx (hb hby d6_0) rfl rfl ?_
  refine Go.iloadN X0 hx (hb hby d6_1) rfl ?_
  refine Go.iconst X0 hx (0 : Int32) (hb hby d6_2) rfl ?_
  refine Go.callV X0 hx hZ (y0 := (⟨"java/lang/String", "indexOf", "(II)I"⟩ : MethodName)) (rm7_3 l Z a0 hw [] x t kb c0 c1 c2 zc h0 n0 Z0 O Sco hzc S_x hp) (by decide) hown (hw _ (List.mem_of_getElem? (i := 36) rfl)) (hw _ (List.mem_of_getElem? (i := 37) rfl)) (notFace_of_selects (args := #[]) (mvT hZ (hw _ (List.mem_of_getElem? (i := 39) rfl)))) (hw _ (List.mem_of_getElem? (i := 39) rfl)) (hw _ (List.mem_of_getElem? (i := 38) rfl)) (hw _ (List.mem_of_getElem? (i := 8) rfl)) (hw _ (List.mem_of_getElem? (i := 40) rfl)) e0 S_x.1 (W := 0) (by rw [hml]; rfl) (argsL := [(.int (123 : Int32)), (.int (0 : Int32))]) (S := []) (Nat.le_of_ble_eq_true rfl) (by decide) (by decide) (by decide) (by decide) pd_oIIcI rfl rfl (hb hby d6_3) ?_
  rintro _ T1 L1 X1 ⟨rfl, N1q, e1⟩
  have N1 := Fr.app N0 N1q
  show Go p_ e_ below _ _ T1 (mkF m_ 6 #[.val (.ref x), .val (.int (123 : Int32))] [(.int (own_f7_3 c0 c1 c2))])
  refine Go.retI X1 hx hret hlk (hb hby d6_6) (by decide) (by decide) ?_
  exact ⟨by unfold own_f6_3; rfl, N1, e1⟩
def own_f5_3 (c0 : Int32) (c1 : Int32) (c2 : Int32) : Int32 := (if (own_f6_3 c0 c1 c2) < (0 : Int32) then (0 : Int32) else (1 : Int32))
theorem ef_rm5_3 (m_ : MethodId) (x : Addr) : entryFrame m_ #[(.ref x)] 1 = mkF m_ 0 #[.val (.ref x)] [] := by first | (simp [entryFrame, mkF, argsToLocals, Value.category]; done) | rfl
def Q5_3 (Z : State) (x : Addr) (t : Addr) (kb : ClassId) (c0 : Int32) (c1 : Int32) (c2 : Int32) (zc : Int32) (h0 : Heap) (n0 : Nat) (v : Option Value) (h : Heap) (L : List Loc) : Prop := v = some (.int (own_f5_3 c0 c1 c2)) ∧ Fr n0 L ∧ h = h0
set_option maxRecDepth 65536 in
set_option maxHeartbeats 40000000 in
theorem rm5_3 (l : Launch) (Z : State) (a0 : Array Value) (hw : ∀ d ∈ tables_1, d.before a0 Z = true) (ws : List Jvm.Cond) (x : Addr) (t : Addr) (kb : ClassId) (c0 : Int32) (c1 : Int32) (c2 : Int32) (zc : Int32) (h0 : Heap) (n0 : Nat) (Z0 : n0 ≤ h0.size) (O : Old Z n0 h0) (Sco : Sta Z Z.heap "java/lang/String" "COMPACT_STRINGS" "Z" (.int zc)) (hzc : ¬ zc = 0) (S_x : StrAt Z h0 x t kb [c0, c1, c2]) (hp : ∀ c ∈ ([c0, c1, c2] : List Int32), ¬ c < 0 ∧ ¬ (255 : Int32) < c) :
    MetFree l (⟨"com/example/ordinance/ordinance/description/PathSegments", "isTemplate", "(Ljava/lang/String;)Z"⟩ : MethodName) (head1 (Jvm.Cond.code (⟨"com/example/ordinance/ordinance/description/PathSegments", "isTemplate", "(Ljava/lang/String;)Z"⟩ : MethodName) prog_8_method_3_code 1 (some .boolean) :: ws) ({ frames := 4, cells := 0, slots := 0, locals := 59 } : Room)) (fun a_ U_ => a_ = #[(.ref x)] ∧ Z.Warmed39 U_.vm ∧ U_.heap = h0) (fun _ _ _ _ _ => True) (fun _ U_ o_ V_ => ∃ v_ L_, o_ = .returned v_ ∧ Q5_3 Z x t kb c0 c1 c2 zc h0 n0 v_ V_.heap L_ ∧ FrameEnd U_ o_ V_ L_ ({ frames := 4, cells := 0, slots := 0, locals := 59 } : Room).cells ({ frames := 4, cells := 0, slots := 0, locals := 59 } : Room).slots) := by
  refine metOf (Q := Q5_3 Z x t kb c0 c1 c2 zc h0 n0) (plainFor_of_name pn_5) ?_
  intro p_ e_ s_ m_ below meth c_ s₁ X0 hx hby hml hret hlk hZ hown hnm e0
  rw [ef_rm5_3]
  have N0 := Fr.nil n0
  show Go p_ e_ below _ _ s₁ (mkF m_ 0 #[.val (.ref x)] [])
  refine Go.aloadN X0 hx (hb hby d5_0) rfl rfl ?_
  refine Go.bipush X0 hx (123 : Int32) (hb hby d5_1) rfl ?_
  refine Go.callV X0 hx hZ (y0 := (⟨"java/lang/String", "indexOf", "(I)I"⟩ : MethodName)) (rm6_3 l Z a0 hw [] x t kb c0 c1 c2 zc h0 n0 Z0 O Sco hzc S_x hp) (by decide) hown (hw _ (List.mem_of_getElem? (i := 31) rfl)) (hw _ (List.mem_of_getElem? (i := 32) rfl)) (notFace_of_selects (args := #[]) (mvT hZ (hw _ (List.mem_of_getElem? (i := 34) rfl)))) (hw _ (List.mem_of_getElem? (i := 34) rfl)) (hw _ (List.mem_of_getElem? (i := 33) rfl)) (hw _ (List.mem_of_getElem? (i := 8) rfl)) (hw _ (List.mem_of_getElem? (i := 35) rfl)) e0 S_x.1 (W := 0) (by rw [hml]; rfl) (argsL := [(.int (123 : Int32))]) (S := []) (Nat.le_of_ble_eq_true rfl) (by decide) (by decide) (by decide) (by decide) pd_oIcI rfl rfl (hb hby d5_3) ?_
  rintro _ T1 L1 X1 ⟨rfl, N1q, e1⟩
  have N1 := Fr.app N0 N1q
  show Go p_ e_ below _ _ T1 (mkF m_ 6 #[.val (.ref x)] [(.int (own_f6_3 c0 c1 c2))])
  by_cases hc6_2 : (own_f6_3 c0 c1 c2) < (0 : Int32)
  · skip
    refine Go.ifYes X1 hx (pc' := 13) (hb hby d5_6) ((if0 _ _).trans (tlt hc6_2).1) (by decide) (by decide) ?_
    show Go p_ e_ below _ _ T1 (mkF m_ 13 #[.val (.ref x)] [])
    refine Go.iconst X1 hx (0 : Int32) (hb hby d5_13) rfl ?_
    refine Go.retN X1 hx hret hlk (by simp) (hb hby d5_14) (by decide) (by decide) ?_
    exact ⟨by unfold own_f5_3; rw [if_pos hc6_2] <;> rfl, N1, e1⟩
  · skip
    refine Go.ifNo X1 hx (hb hby d5_6) ((if0 _ _).trans (flt hc6_2).1) ?_
    show Go p_ e_ below _ _ T1 (mkF m_ 9 #[.val (.ref x)] [])
    refine Go.iconst X1 hx (1 : Int32) (hb hby d5_9) rfl ?_
    refine Go.goto X1 hx (pc' := 14) (hb hby d5_10) (by decide) (by decide) ?_
    refine Go.retN X1 hx hret hlk (by simp) (hb hby d5_14) (by decide) (by decide) ?_
    exact ⟨by unfold own_f5_3; rw [if_neg hc6_2] <;> rfl, N1, e1⟩
theorem own_fin3 {c0 c1 c2 ex : Int32} (r0 : 0 ≤ c0.toInt ∧ c0.toInt ≤ 255) (r1 : 0 ≤ c1.toInt ∧ c1.toInt ≤ 255) (r2 : 0 ≤ c2.toInt ∧ c2.toInt ≤ 255) (h : ex = (if c0 = (123 : Int32) then (1 : Int32) else (if c1 = (123 : Int32) then (1 : Int32) else (if c2 = (123 : Int32) then (1 : Int32) else (0 : Int32))))) : own_f5_3 c0 c1 c2 = ex := by
  subst h
  unfold own_f5_3 own_f6_3 own_f7_3 own_f11_3 own_f18_3
  simp only [own_bi r0, own_bi r1, own_bi r2]
  by_cases h0 : c0 = (123 : Int32) <;> by_cases h1 : c1 = (123 : Int32) <;> by_cases h2 : c2 = (123 : Int32) <;> simp [h0, h1, h2]
theorem ef_rm14_4 (m_ : MethodId)  : entryFrame m_ #[(.int (4 : Int32)), (.int (4 : Int32))] 2 = mkF m_ 0 #[.val (.int (4 : Int32)), .val (.int (4 : Int32))] [] := by first | (simp [entryFrame, mkF, argsToLocals, Value.category]; done) | rfl
def Q14_4 (Z : State)   (h0 : Heap) (n0 : Nat) (v : Option Value) (h : Heap) (L : List Loc) : Prop := v = some (.int (4 : Int32)) ∧ Fr n0 L ∧ h = h0
set_option maxRecDepth 65536 in
set_option maxHeartbeats 40000000 in
theorem rm14_4 (l : Launch) (Z : State) (a0 : Array Value) (hw : ∀ d ∈ tables_1, d.before a0 Z = true) (ws : List Jvm.Cond)   (h0 : Heap) (n0 : Nat) (Z0 : n0 ≤ h0.size)  :
    MetFree l (⟨"java/lang/Math", "min", "(II)I"⟩ : MethodName) (head1 (Jvm.Cond.code (⟨"java/lang/Math", "min", "(II)I"⟩ : MethodName) jdk_29_method_69_code 2 (some .int) :: ws) ({ frames := 0, cells := 0, slots := 0, locals := 0 } : Room)) (fun a_ U_ => a_ = #[(.int (4 : Int32)), (.int (4 : Int32))] ∧ Z.Warmed39 U_.vm ∧ U_.heap = h0) (fun _ _ _ _ _ => True) (fun _ U_ o_ V_ => ∃ v_ L_, o_ = .returned v_ ∧ Q14_4 Z  h0 n0 v_ V_.heap L_ ∧ FrameEnd U_ o_ V_ L_ ({ frames := 0, cells := 0, slots := 0, locals := 0 } : Room).cells ({ frames := 0, cells := 0, slots := 0, locals := 0 } : Room).slots) := by
  refine metOf (Q := Q14_4 Z  h0 n0) (Jvm.Free.JP.mathPlain rfl (by decide +kernel)) ?_
  intro p_ e_ s_ m_ below meth c_ s₁ X0 hx hby hml hret hlk hZ hown hnm e0
  rw [ef_rm14_4]
  have N0 := Fr.nil n0
  show Go p_ e_ below _ _ s₁ (mkF m_ 0 #[.val (.int (4 : Int32)), .val (.int (4 : Int32))] [])
  refine Go.iloadN X0 hx (hb hby d14_0) rfl ?_
  refine Go.iloadN X0 hx (hb hby d14_1) rfl ?_
  refine Go.icmpNo X0 hx (hb hby d14_2) (flt (by decide)).2.2.1 ?_
  show Go p_ e_ below _ _ s₁ (mkF m_ 5 #[.val (.int (4 : Int32)), .val (.int (4 : Int32))] [])
  refine Go.iloadN X0 hx (hb hby d14_5) rfl ?_
  refine Go.goto X0 hx (pc' := 10) (hb hby d14_6) (by decide) (by decide) ?_
  refine Go.retI X0 hx hret hlk (hb hby d14_10) (by decide) (by decide) ?_
  exact ⟨rfl, N0, e0⟩
def own_f18_4 (c0 : Int32) (c1 : Int32) (c2 : Int32) (c3 : Int32) : Int32 := (if (c0.toInt8.toInt32) = ((123 : Int32).toInt8.toInt32) then (0 : Int32) else (if (c1.toInt8.toInt32) = ((123 : Int32).toInt8.toInt32) then (1 : Int32) else (if (c2.toInt8.toInt32) = ((123 : Int32).toInt8.toInt32) then (2 : Int32) else (if (c3.toInt8.toInt32) = ((123 : Int32).toInt8.toInt32) then (3 : Int32) else (-1 : Int32)))))
theorem ef_rm18_4 (m_ : MethodId) (t : Addr) : entryFrame m_ #[(.ref t), (.int (123 : Int32)), (.int (0 : Int32)), (.int (4 : Int32))] 6 = mkF m_ 0 #[.val (.ref t), .val (.int (123 : Int32)), .val (.int (0 : Int32)), .val (.int (4 : Int32)), .unset, .unset] [] := by first | (simp [entryFrame, mkF, argsToLocals, Value.category]; done) | rfl
def Q18_4 (Z : State) (t : Addr) (kb : ClassId) (c0 : Int32) (c1 : Int32) (c2 : Int32) (c3 : Int32) (h0 : Heap) (n0 : Nat) (v : Option Value) (h : Heap) (L : List Loc) : Prop := v = some (.int (own_f18_4 c0 c1 c2 c3)) ∧ Fr n0 L ∧ h = h0
set_option maxRecDepth 65536 in
set_option maxHeartbeats 40000000 in
theorem rm18_4 (l : Launch) (Z : State) (a0 : Array Value) (hw : ∀ d ∈ tables_1, d.before a0 Z = true) (ws : List Jvm.Cond) (t : Addr) (kb : ClassId) (c0 : Int32) (c1 : Int32) (c2 : Int32) (c3 : Int32) (h0 : Heap) (n0 : Nat) (Z0 : n0 ≤ h0.size) (V_t : Arv Z h0 t kb .byte (4 : Int32) [(.int (c0.toInt8.toInt32)), (.int (c1.toInt8.toInt32)), (.int (c2.toInt8.toInt32)), (.int (c3.toInt8.toInt32))] (.int (0 : Int32))) :
    MetFree l (⟨"java/lang/StringLatin1", "indexOfChar", "([BIII)I"⟩ : MethodName) (head1 (Jvm.Cond.code (⟨"java/lang/StringLatin1", "indexOfChar", "([BIII)I"⟩ : MethodName) jdk_43_method_23_code 6 (some .int) :: ws) ({ frames := 0, cells := 0, slots := 0, locals := 0 } : Room)) (fun a_ U_ => a_ = #[(.ref t), (.int (123 : Int32)), (.int (0 : Int32)), (.int (4 : Int32))] ∧ Z.Warmed39 U_.vm ∧ U_.heap = h0) (fun _ _ _ _ _ => True) (fun _ U_ o_ V_ => ∃ v_ L_, o_ = .returned v_ ∧ Q18_4 Z t kb c0 c1 c2 c3 h0 n0 v_ V_.heap L_ ∧ FrameEnd U_ o_ V_ L_ ({ frames := 0, cells := 0, slots := 0, locals := 0 } : Room).cells ({ frames := 0, cells := 0, slots := 0, locals := 0 } : Room).slots) := by
  refine metOf (Q := Q18_4 Z t kb c0 c1 c2 c3 h0 n0) (plainFor_of_name pn_18) ?_
  intro p_ e_ s_ m_ below meth c_ s₁ X0 hx hby hml hret hlk hZ hown hnm e0
  rw [ef_rm18_4]
  have N0 := Fr.nil n0
  show Go p_ e_ below _ _ s₁ (mkF m_ 0 #[.val (.ref t), .val (.int (123 : Int32)), .val (.int (0 : Int32)), .val (.int (4 : Int32)), .unset, .unset] [])
  refine Go.iloadN X0 hx (hb hby d18_0) rfl ?_
  refine Go.i2b X0 hx (hb hby d18_1) ?_
  refine Go.istore X0 hx (l' := #[.val (.ref t), .val (.int (123 : Int32)), .val (.int (0 : Int32)), .val (.int (4 : Int32)), .val (.int ((123 : Int32).toInt8.toInt32)), .unset]) (hb hby d18_2) rfl ?_
  refine Go.iloadN X0 hx (hb hby d18_4) rfl ?_
  refine Go.istore X0 hx (l' := #[.val (.ref t), .val (.int (123 : Int32)), .val (.int (0 : Int32)), .val (.int (4 : Int32)), .val (.int ((123 : Int32).toInt8.toInt32)), .val (.int (0 : Int32))]) (hb hby d18_5) rfl ?_
  refine Go.iload X0 hx (hb hby d18_7) rfl ?_
  refine Go.iloadN X0 hx (hb hby d18_9) rfl ?_
  refine Go.icmpNo X0 hx (hb hby d18_10) (tlt (by decide)).2.1 ?_
  show Go p_ e_ below _ _ s₁ (mkF m_ 13 #[.val (.ref t), .val (.int (123 : Int32)), .val (.int (0 : Int32)), .val (.int (4 : Int32)), .val (.int ((123 : Int32).toInt8.toInt32)), .val (.int (0 : Int32))] [])
  refine Go.aloadN X0 hx (hb hby d18_13) rfl rfl ?_
  refine Go.iload X0 hx (hb hby d18_14) rfl ?_
  obtain ⟨cl1, Ar1, q1, S1, M1, H1, G1⟩ := id V_t
  refine Go.baload X0 hx hZ e0 Ar1 (inb_of S1 ⟨by decide, by decide⟩) (v := (.int (c0.toInt8.toInt32))) (H1 0 (by rw [S1]; exact Nat.le_of_ble_eq_true rfl)) (hb hby d18_16) ?_
  refine Go.iload X0 hx (hb hby d18_17) rfl ?_
  by_cases hc19_2 : (c0.toInt8.toInt32) = ((123 : Int32).toInt8.toInt32)
  · skip
    refine Go.icmpNo X0 hx (hb hby d18_19) (teq hc19_2).2 ?_
    show Go p_ e_ below _ _ s₁ (mkF m_ 22 #[.val (.ref t), .val (.int (123 : Int32)), .val (.int (0 : Int32)), .val (.int (4 : Int32)), .val (.int ((123 : Int32).toInt8.toInt32)), .val (.int (0 : Int32))] [])
    refine Go.iload X0 hx (hb hby d18_22) rfl ?_
    refine Go.retI X0 hx hret hlk (hb hby d18_24) (by decide) (by decide) ?_
    exact ⟨by unfold own_f18_4; rw [if_pos hc19_2] <;> rfl, N0, e0⟩
  · skip
    refine Go.icmpYes X0 hx (pc' := 25) (hb hby d18_19) (feq hc19_2).2 (by decide) (by decide) ?_
    show Go p_ e_ below _ _ s₁ (mkF m_ 25 #[.val (.ref t), .val (.int (123 : Int32)), .val (.int (0 : Int32)), .val (.int (4 : Int32)), .val (.int ((123 : Int32).toInt8.toInt32)), .val (.int (0 : Int32))] [])
    refine Go.iincF X0 hx (l' := #[.val (.ref t), .val (.int (123 : Int32)), .val (.int (0 : Int32)), .val (.int (4 : Int32)), .val (.int ((123 : Int32).toInt8.toInt32)), .val (.int (1 : Int32))]) (1 : Int32) (1 : Int32) (hb hby d18_25) rfl (by decide) rfl rfl ?_
    refine Go.goto X0 hx (pc' := 7) (hb hby d18_28) (by decide) (by decide) ?_
    refine Go.iload X0 hx (hb hby d18_7) rfl ?_
    refine Go.iloadN X0 hx (hb hby d18_9) rfl ?_
    refine Go.icmpNo X0 hx (hb hby d18_10) (tlt (by decide)).2.1 ?_
    show Go p_ e_ below _ _ s₁ (mkF m_ 13 #[.val (.ref t), .val (.int (123 : Int32)), .val (.int (0 : Int32)), .val (.int (4 : Int32)), .val (.int ((123 : Int32).toInt8.toInt32)), .val (.int (1 : Int32))] [])
    refine Go.aloadN X0 hx (hb hby d18_13) rfl rfl ?_
    refine Go.iload X0 hx (hb hby d18_14) rfl ?_
    obtain ⟨cl3, Ar3, q3, S3, M3, H3, G3⟩ := id V_t
    refine Go.baload X0 hx hZ e0 Ar3 (inb_of S3 ⟨by decide, by decide⟩) (v := (.int (c1.toInt8.toInt32))) (H3 1 (by rw [S3]; exact Nat.le_of_ble_eq_true rfl)) (hb hby d18_16) ?_
    refine Go.iload X0 hx (hb hby d18_17) rfl ?_
    by_cases hc19_4 : (c1.toInt8.toInt32) = ((123 : Int32).toInt8.toInt32)
    · skip
      refine Go.icmpNo X0 hx (hb hby d18_19) (teq hc19_4).2 ?_
      show Go p_ e_ below _ _ s₁ (mkF m_ 22 #[.val (.ref t), .val (.int (123 : Int32)), .val (.int (0 : Int32)), .val (.int (4 : Int32)), .val (.int ((123 : Int32).toInt8.toInt32)), .val (.int (1 : Int32))] [])
      refine Go.iload X0 hx (hb hby d18_22) rfl ?_
      refine Go.retI X0 hx hret hlk (hb hby d18_24) (by decide) (by decide) ?_
      exact ⟨by unfold own_f18_4; rw [if_neg hc19_2, if_pos hc19_4] <;> rfl, N0, e0⟩
    · skip
      refine Go.icmpYes X0 hx (pc' := 25) (hb hby d18_19) (feq hc19_4).2 (by decide) (by decide) ?_
      show Go p_ e_ below _ _ s₁ (mkF m_ 25 #[.val (.ref t), .val (.int (123 : Int32)), .val (.int (0 : Int32)), .val (.int (4 : Int32)), .val (.int ((123 : Int32).toInt8.toInt32)), .val (.int (1 : Int32))] [])
      refine Go.iincF X0 hx (l' := #[.val (.ref t), .val (.int (123 : Int32)), .val (.int (0 : Int32)), .val (.int (4 : Int32)), .val (.int ((123 : Int32).toInt8.toInt32)), .val (.int (2 : Int32))]) (1 : Int32) (2 : Int32) (hb hby d18_25) rfl (by decide) rfl rfl ?_
      refine Go.goto X0 hx (pc' := 7) (hb hby d18_28) (by decide) (by decide) ?_
      refine Go.iload X0 hx (hb hby d18_7) rfl ?_
      refine Go.iloadN X0 hx (hb hby d18_9) rfl ?_
      refine Go.icmpNo X0 hx (hb hby d18_10) (tlt (by decide)).2.1 ?_
      show Go p_ e_ below _ _ s₁ (mkF m_ 13 #[.val (.ref t), .val (.int (123 : Int32)), .val (.int (0 : Int32)), .val (.int (4 : Int32)), .val (.int ((123 : Int32).toInt8.toInt32)), .val (.int (2 : Int32))] [])
      refine Go.aloadN X0 hx (hb hby d18_13) rfl rfl ?_
      refine Go.iload X0 hx (hb hby d18_14) rfl ?_
      obtain ⟨cl5, Ar5, q5, S5, M5, H5, G5⟩ := id V_t
      refine Go.baload X0 hx hZ e0 Ar5 (inb_of S5 ⟨by decide, by decide⟩) (v := (.int (c2.toInt8.toInt32))) (H5 2 (by rw [S5]; exact Nat.le_of_ble_eq_true rfl)) (hb hby d18_16) ?_
      refine Go.iload X0 hx (hb hby d18_17) rfl ?_
      by_cases hc19_6 : (c2.toInt8.toInt32) = ((123 : Int32).toInt8.toInt32)
      · skip
        refine Go.icmpNo X0 hx (hb hby d18_19) (teq hc19_6).2 ?_
        show Go p_ e_ below _ _ s₁ (mkF m_ 22 #[.val (.ref t), .val (.int (123 : Int32)), .val (.int (0 : Int32)), .val (.int (4 : Int32)), .val (.int ((123 : Int32).toInt8.toInt32)), .val (.int (2 : Int32))] [])
        refine Go.iload X0 hx (hb hby d18_22) rfl ?_
        refine Go.retI X0 hx hret hlk (hb hby d18_24) (by decide) (by decide) ?_
        exact ⟨by unfold own_f18_4; rw [if_neg hc19_2, if_neg hc19_4, if_pos hc19_6] <;> rfl, N0, e0⟩
      · skip
        refine Go.icmpYes X0 hx (pc' := 25) (hb hby d18_19) (feq hc19_6).2 (by decide) (by decide) ?_
        show Go p_ e_ below _ _ s₁ (mkF m_ 25 #[.val (.ref t), .val (.int (123 : Int32)), .val (.int (0 : Int32)), .val (.int (4 : Int32)), .val (.int ((123 : Int32).toInt8.toInt32)), .val (.int (2 : Int32))] [])
        refine Go.iincF X0 hx (l' := #[.val (.ref t), .val (.int (123 : Int32)), .val (.int (0 : Int32)), .val (.int (4 : Int32)), .val (.int ((123 : Int32).toInt8.toInt32)), .val (.int (3 : Int32))]) (1 : Int32) (3 : Int32) (hb hby d18_25) rfl (by decide) rfl rfl ?_
        refine Go.goto X0 hx (pc' := 7) (hb hby d18_28) (by decide) (by decide) ?_
        refine Go.iload X0 hx (hb hby d18_7) rfl ?_
        refine Go.iloadN X0 hx (hb hby d18_9) rfl ?_
        refine Go.icmpNo X0 hx (hb hby d18_10) (tlt (by decide)).2.1 ?_
        show Go p_ e_ below _ _ s₁ (mkF m_ 13 #[.val (.ref t), .val (.int (123 : Int32)), .val (.int (0 : Int32)), .val (.int (4 : Int32)), .val (.int ((123 : Int32).toInt8.toInt32)), .val (.int (3 : Int32))] [])
        refine Go.aloadN X0 hx (hb hby d18_13) rfl rfl ?_
        refine Go.iload X0 hx (hb hby d18_14) rfl ?_
        obtain ⟨cl7, Ar7, q7, S7, M7, H7, G7⟩ := id V_t
        refine Go.baload X0 hx hZ e0 Ar7 (inb_of S7 ⟨by decide, by decide⟩) (v := (.int (c3.toInt8.toInt32))) (H7 3 (by rw [S7]; exact Nat.le_of_ble_eq_true rfl)) (hb hby d18_16) ?_
        refine Go.iload X0 hx (hb hby d18_17) rfl ?_
        by_cases hc19_8 : (c3.toInt8.toInt32) = ((123 : Int32).toInt8.toInt32)
        · skip
          refine Go.icmpNo X0 hx (hb hby d18_19) (teq hc19_8).2 ?_
          show Go p_ e_ below _ _ s₁ (mkF m_ 22 #[.val (.ref t), .val (.int (123 : Int32)), .val (.int (0 : Int32)), .val (.int (4 : Int32)), .val (.int ((123 : Int32).toInt8.toInt32)), .val (.int (3 : Int32))] [])
          refine Go.iload X0 hx (hb hby d18_22) rfl ?_
          refine Go.retI X0 hx hret hlk (hb hby d18_24) (by decide) (by decide) ?_
          exact ⟨by unfold own_f18_4; rw [if_neg hc19_2, if_neg hc19_4, if_neg hc19_6, if_pos hc19_8] <;> rfl, N0, e0⟩
        · skip
          refine Go.icmpYes X0 hx (pc' := 25) (hb hby d18_19) (feq hc19_8).2 (by decide) (by decide) ?_
          show Go p_ e_ below _ _ s₁ (mkF m_ 25 #[.val (.ref t), .val (.int (123 : Int32)), .val (.int (0 : Int32)), .val (.int (4 : Int32)), .val (.int ((123 : Int32).toInt8.toInt32)), .val (.int (3 : Int32))] [])
          refine Go.iincF X0 hx (l' := #[.val (.ref t), .val (.int (123 : Int32)), .val (.int (0 : Int32)), .val (.int (4 : Int32)), .val (.int ((123 : Int32).toInt8.toInt32)), .val (.int (4 : Int32))]) (1 : Int32) (4 : Int32) (hb hby d18_25) rfl (by decide) rfl rfl ?_
          refine Go.goto X0 hx (pc' := 7) (hb hby d18_28) (by decide) (by decide) ?_
          refine Go.iload X0 hx (hb hby d18_7) rfl ?_
          refine Go.iloadN X0 hx (hb hby d18_9) rfl ?_
          refine Go.icmpYes X0 hx (pc' := 31) (hb hby d18_10) (flt (by decide)).2.1 (by decide) (by decide) ?_
          show Go p_ e_ below _ _ s₁ (mkF m_ 31 #[.val (.ref t), .val (.int (123 : Int32)), .val (.int (0 : Int32)), .val (.int (4 : Int32)), .val (.int ((123 : Int32).toInt8.toInt32)), .val (.int (4 : Int32))] [])
          refine Go.iconst X0 hx (-1 : Int32) (hb hby d18_31) rfl ?_
          refine Go.retI X0 hx hret hlk (hb hby d18_32) (by decide) (by decide) ?_
          exact ⟨by unfold own_f18_4; rw [if_neg hc19_2, if_neg hc19_4, if_neg hc19_6, if_neg hc19_8] <;> rfl, N0, e0⟩
def own_f11_4 (c0 : Int32) (c1 : Int32) (c2 : Int32) (c3 : Int32) : Int32 := (own_f18_4 c0 c1 c2 c3)
theorem ef_rm11_4 (m_ : MethodId) (t : Addr) : entryFrame m_ #[(.ref t), (.int (123 : Int32)), (.int (0 : Int32)), (.int (4 : Int32))] 4 = mkF m_ 0 #[.val (.ref t), .val (.int (123 : Int32)), .val (.int (0 : Int32)), .val (.int (4 : Int32))] [] := by first | (simp [entryFrame, mkF, argsToLocals, Value.category]; done) | rfl
def Q11_4 (Z : State) (t : Addr) (kb : ClassId) (c0 : Int32) (c1 : Int32) (c2 : Int32) (c3 : Int32) (h0 : Heap) (n0 : Nat) (v : Option Value) (h : Heap) (L : List Loc) : Prop := v = some (.int (own_f11_4 c0 c1 c2 c3)) ∧ Fr n0 L ∧ h = h0
set_option maxRecDepth 65536 in
set_option maxHeartbeats 40000000 in
theorem rm11_4 (l : Launch) (Z : State) (a0 : Array Value) (hw : ∀ d ∈ tables_1, d.before a0 Z = true) (ws : List Jvm.Cond) (t : Addr) (kb : ClassId) (c0 : Int32) (c1 : Int32) (c2 : Int32) (c3 : Int32) (h0 : Heap) (n0 : Nat) (Z0 : n0 ≤ h0.size) (V_t : Arv Z h0 t kb .byte (4 : Int32) [(.int (c0.toInt8.toInt32)), (.int (c1.toInt8.toInt32)), (.int (c2.toInt8.toInt32)), (.int (c3.toInt8.toInt32))] (.int (0 : Int32))) :
    MetFree l (⟨"java/lang/StringLatin1", "indexOf", "([BIII)I"⟩ : MethodName) (head1 (Jvm.Cond.code (⟨"java/lang/StringLatin1", "indexOf", "([BIII)I"⟩ : MethodName) jdk_43_method_22_code 4 (some .int) :: ws) ({ frames := 1, cells := 0, slots := 0, locals := 17 } : Room)) (fun a_ U_ => a_ = #[(.ref t), (.int (123 : Int32)), (.int (0 : Int32)), (.int (4 : Int32))] ∧ Z.Warmed39 U_.vm ∧ U_.heap = h0) (fun _ _ _ _ _ => True) (fun _ U_ o_ V_ => ∃ v_ L_, o_ = .returned v_ ∧ Q11_4 Z t kb c0 c1 c2 c3 h0 n0 v_ V_.heap L_ ∧ FrameEnd U_ o_ V_ L_ ({ frames := 1, cells := 0, slots := 0, locals := 17 } : Room).cells ({ frames := 1, cells := 0, slots := 0, locals := 17 } : Room).slots) := by
  refine metOf (Q := Q11_4 Z t kb c0 c1 c2 c3 h0 n0) (plainFor_of_name pn_11) ?_
  intro p_ e_ s_ m_ below meth c_ s₁ X0 hx hby hml hret hlk hZ hown hnm e0
  rw [ef_rm11_4]
  have N0 := Fr.nil n0
  show Go p_ e_ below _ _ s₁ (mkF m_ 0 #[.val (.ref t), .val (.int (123 : Int32)), .val (.int (0 : Int32)), .val (.int (4 : Int32))] [])
  refine Go.iloadN X0 hx (hb hby d11_0) rfl ?_
  refine Go.callS X0 hx hZ (rm12 l Z a0 hw [] h0 n0 Z0) hown (hw _ (List.mem_of_getElem? (i := 61) rfl)) (hw _ (List.mem_of_getElem? (i := 62) rfl)) (hw _ (List.mem_of_getElem? (i := 59) rfl)) (hw _ (List.mem_of_getElem? (i := 63) rfl)) (by decide) e0 (W := 0) (by rw [hml]; rfl) (argsL := [(.int (123 : Int32))]) (S := []) (Nat.le_of_ble_eq_true rfl) (by decide) (by decide) (by decide) (by decide) pd_oIcZ rfl rfl (hb hby d11_1) ?_
  rintro _ T1 L1 X1 ⟨rfl, N1q, e1⟩
  have N1 := Fr.app N0 N1q
  show Go p_ e_ below _ _ T1 (mkF m_ 4 #[.val (.ref t), .val (.int (123 : Int32)), .val (.int (0 : Int32)), .val (.int (4 : Int32))] [(.int (1 : Int32))])
  refine Go.ifYes X1 hx (pc' := 9) (hb hby d11_4) ((if0 _ _).trans (feq (by decide)).2) (by decide) (by decide) ?_
  show Go p_ e_ below _ _ T1 (mkF m_ 9 #[.val (.ref t), .val (.int (123 : Int32)), .val (.int (0 : Int32)), .val (.int (4 : Int32))] [])
  refine Go.iloadN X1 hx (hb hby d11_9) rfl ?_
  refine Go.iconst X1 hx (0 : Int32) (hb hby d11_10) rfl ?_
  refine Go.callS X1 hx hZ (rm13 l Z a0 hw [] h0 n0 Z0) hown (hw _ (List.mem_of_getElem? (i := 64) rfl)) (hw _ (List.mem_of_getElem? (i := 65) rfl)) (hw _ (List.mem_of_getElem? (i := 66) rfl)) (hw _ (List.mem_of_getElem? (i := 67) rfl)) (by decide) e1 (W := 0) (by rw [hml]; rfl) (argsL := [(.int (0 : Int32)), (.int (0 : Int32))]) (S := []) (Nat.le_of_ble_eq_true rfl) (by decide) (by decide) (by decide) (by decide) pd_oIIcI rfl rfl (hb hby d11_11) ?_
  rintro _ T2 L2 X2 ⟨rfl, N2q, e2⟩
  have N2 := Fr.app N1 N2q
  show Go p_ e_ below _ _ T2 (mkF m_ 14 #[.val (.ref t), .val (.int (123 : Int32)), .val (.int (0 : Int32)), .val (.int (4 : Int32))] [(.int (0 : Int32))])
  refine Go.istoreN X2 hx (l' := #[.val (.ref t), .val (.int (123 : Int32)), .val (.int (0 : Int32)), .val (.int (4 : Int32))]) (hb hby d11_14) rfl ?_
  refine Go.iloadN X2 hx (hb hby d11_15) rfl ?_
  refine Go.aloadN X2 hx (hb hby d11_16) rfl rfl ?_
  obtain ⟨cl3, Ar3, -, S3, M3, -, -⟩ := id V_t
  refine Go.arraylength X2 hx hZ e2 Ar3 S3 M3 (hb hby d11_17) ?_
  refine Go.callS X2 hx hZ (rm14_4 l Z a0 hw [] h0 n0 Z0) hown (hw _ (List.mem_of_getElem? (i := 68) rfl)) (hw _ (List.mem_of_getElem? (i := 69) rfl)) (hw _ (List.mem_of_getElem? (i := 66) rfl)) (hw _ (List.mem_of_getElem? (i := 70) rfl)) (by decide) e2 (W := 0) (by rw [hml]; rfl) (argsL := [(.int (4 : Int32)), (.int (4 : Int32))]) (S := []) (Nat.le_of_ble_eq_true rfl) (by decide) (by decide) (by decide) (by decide) pd_oIIcI rfl rfl (hb hby d11_18) ?_
  rintro _ T4 L4 X4 ⟨rfl, N4q, e4⟩
  have N4 := Fr.app N2 N4q
  show Go p_ e_ below _ _ T4 (mkF m_ 21 #[.val (.ref t), .val (.int (123 : Int32)), .val (.int (0 : Int32)), .val (.int (4 : Int32))] [(.int (4 : Int32))])
  refine Go.istoreN X4 hx (l' := #[.val (.ref t), .val (.int (123 : Int32)), .val (.int (0 : Int32)), .val (.int (4 : Int32))]) (hb hby d11_21) rfl ?_
  refine Go.iloadN X4 hx (hb hby d11_22) rfl ?_
  refine Go.iloadN X4 hx (hb hby d11_23) rfl ?_
  refine Go.icmpYes X4 hx (pc' := 29) (hb hby d11_24) (tlt (by decide)).1 (by decide) (by decide) ?_
  show Go p_ e_ below _ _ T4 (mkF m_ 29 #[.val (.ref t), .val (.int (123 : Int32)), .val (.int (0 : Int32)), .val (.int (4 : Int32))] [])
  refine Go.aloadN X4 hx (hb hby d11_29) rfl rfl ?_
  refine Go.iloadN X4 hx (hb hby d11_30) rfl ?_
  refine Go.iloadN X4 hx (hb hby d11_31) rfl ?_
  refine Go.iloadN X4 hx (hb hby d11_32) rfl ?_
  refine Go.callS X4 hx hZ (rm18_4 l Z a0 hw [] t kb c0 c1 c2 c3 h0 n0 Z0 V_t) hown (hw _ (List.mem_of_getElem? (i := 81) rfl)) (hw _ (List.mem_of_getElem? (i := 82) rfl)) (hw _ (List.mem_of_getElem? (i := 59) rfl)) (hw _ (List.mem_of_getElem? (i := 83) rfl)) (by decide) e4 (W := 0) (by rw [hml]; rfl) (argsL := [(.ref t), (.int (123 : Int32)), (.int (0 : Int32)), (.int (4 : Int32))]) (S := []) (Nat.le_of_ble_eq_true rfl) (by decide) (by decide) (by decide) (by decide) pd_oABIIIcI rfl rfl (hb hby d11_33) ?_
  rintro _ T5 L5 X5 ⟨rfl, N5q, e5⟩
  have N5 := Fr.app N4 N5q
  show Go p_ e_ below _ _ T5 (mkF m_ 36 #[.val (.ref t), .val (.int (123 : Int32)), .val (.int (0 : Int32)), .val (.int (4 : Int32))] [(.int (own_f18_4 c0 c1 c2 c3))])
  refine Go.retI X5 hx hret hlk (hb hby d11_36) (by decide) (by decide) ?_
  exact ⟨by unfold own_f11_4; rfl, N5, e5⟩
def own_f7_4 (c0 : Int32) (c1 : Int32) (c2 : Int32) (c3 : Int32) : Int32 := (own_f11_4 c0 c1 c2 c3)
theorem ef_rm7_4 (m_ : MethodId) (x : Addr) : entryFrame m_ #[(.ref x), (.int (123 : Int32)), (.int (0 : Int32))] 3 = mkF m_ 0 #[.val (.ref x), .val (.int (123 : Int32)), .val (.int (0 : Int32))] [] := by first | (simp [entryFrame, mkF, argsToLocals, Value.category]; done) | rfl
def Q7_4 (Z : State) (x : Addr) (t : Addr) (kb : ClassId) (c0 : Int32) (c1 : Int32) (c2 : Int32) (c3 : Int32) (zc : Int32) (h0 : Heap) (n0 : Nat) (v : Option Value) (h : Heap) (L : List Loc) : Prop := v = some (.int (own_f7_4 c0 c1 c2 c3)) ∧ Fr n0 L ∧ h = h0
set_option maxRecDepth 65536 in
set_option maxHeartbeats 40000000 in
theorem rm7_4 (l : Launch) (Z : State) (a0 : Array Value) (hw : ∀ d ∈ tables_1, d.before a0 Z = true) (ws : List Jvm.Cond) (x : Addr) (t : Addr) (kb : ClassId) (c0 : Int32) (c1 : Int32) (c2 : Int32) (c3 : Int32) (zc : Int32) (h0 : Heap) (n0 : Nat) (Z0 : n0 ≤ h0.size) (O : Old Z n0 h0) (Sco : Sta Z Z.heap "java/lang/String" "COMPACT_STRINGS" "Z" (.int zc)) (hzc : ¬ zc = 0) (S_x : StrAt Z h0 x t kb [c0, c1, c2, c3]) (hp : ∀ c ∈ ([c0, c1, c2, c3] : List Int32), ¬ c < 0 ∧ ¬ (255 : Int32) < c) :
    MetFree l (⟨"java/lang/String", "indexOf", "(II)I"⟩ : MethodName) (head1 (Jvm.Cond.code (⟨"java/lang/String", "indexOf", "(II)I"⟩ : MethodName) jdk_42_method_80_code 3 (some .int) :: ws) ({ frames := 2, cells := 0, slots := 0, locals := 32 } : Room)) (fun a_ U_ => a_ = #[(.ref x), (.int (123 : Int32)), (.int (0 : Int32))] ∧ Z.Warmed39 U_.vm ∧ U_.heap = h0) (fun _ _ _ _ _ => True) (fun _ U_ o_ V_ => ∃ v_ L_, o_ = .returned v_ ∧ Q7_4 Z x t kb c0 c1 c2 c3 zc h0 n0 v_ V_.heap L_ ∧ FrameEnd U_ o_ V_ L_ ({ frames := 2, cells := 0, slots := 0, locals := 32 } : Room).cells ({ frames := 2, cells := 0, slots := 0, locals := 32 } : Room).slots) := by
  refine metOf (Q := Q7_4 Z x t kb c0 c1 c2 c3 zc h0 n0) (plainFor_of_name pn_7) ?_
  intro p_ e_ s_ m_ below meth c_ s₁ X0 hx hby hml hret hlk hZ hown hnm e0
  rw [ef_rm7_4]
  have N0 := Fr.nil n0
  show Go p_ e_ below _ _ s₁ (mkF m_ 0 #[.val (.ref x), .val (.int (123 : Int32)), .val (.int (0 : Int32))] [])
  refine Go.aloadN X0 hx (hb hby d7_0) rfl rfl ?_
  refine Go.callV X0 hx hZ (y0 := (⟨"java/lang/String", "isLatin1", "()Z"⟩ : MethodName)) (rm8 l Z a0 hw [] x t kb [c0, c1, c2, c3] zc h0 n0 Z0 O Sco hzc S_x) (by decide) hown (hw _ (List.mem_of_getElem? (i := 41) rfl)) (hw _ (List.mem_of_getElem? (i := 42) rfl)) (notFace_of_selects (args := #[]) (mvT hZ (hw _ (List.mem_of_getElem? (i := 44) rfl)))) (hw _ (List.mem_of_getElem? (i := 44) rfl)) (hw _ (List.mem_of_getElem? (i := 43) rfl)) (hw _ (List.mem_of_getElem? (i := 8) rfl)) (hw _ (List.mem_of_getElem? (i := 45) rfl)) e0 S_x.1 (W := 0) (by rw [hml]; rfl) (argsL := []) (S := []) (Nat.le_of_ble_eq_true rfl) (by decide) (by decide) (by decide) (by decide) pd_ocZ rfl rfl (hb hby d7_1) ?_
  rintro _ T1 L1 X1 ⟨rfl, N1q, e1⟩
  have N1 := Fr.app N0 N1q
  show Go p_ e_ below _ _ T1 (mkF m_ 4 #[.val (.ref x), .val (.int (123 : Int32)), .val (.int (0 : Int32))] [(.int (1 : Int32))])
  refine Go.ifNo X1 hx (hb hby d7_4) ((if0 _ _).trans (feq (by decide)).1) ?_
  show Go p_ e_ below _ _ T1 (mkF m_ 7 #[.val (.ref x), .val (.int (123 : Int32)), .val (.int (0 : Int32))] [])
  refine Go.aloadN X1 hx (hb hby d7_7) rfl rfl ?_
  refine Go.getF X1 hx hZ hown (host := "") (Or.inl (hw _ (List.mem_of_getElem? (i := 25) rfl))) Via.refl e1 S_x.2.2.1 (hb hby d7_8) ?_
  intro T2 X2 e2
  show Go p_ e_ below _ _ T2 (mkF m_ 11 #[.val (.ref x), .val (.int (123 : Int32)), .val (.int (0 : Int32))] [(.ref t)])
  refine Go.iloadN X2 hx (hb hby d7_11) rfl ?_
  refine Go.iloadN X2 hx (hb hby d7_12) rfl ?_
  refine Go.aloadN X2 hx (hb hby d7_13) rfl rfl ?_
  refine Go.callVB X2 hx hZ (y0 := (⟨"java/lang/String", "length", "()I"⟩ : MethodName)) (K := "java/lang/String") (C1 := 0) (N1 := 0) (Qy := fun v_ h_ L_ => (v_ = some (.int (Int32.ofNat ([c0, c1, c2, c3]).length))) ∧ L_ = [] ∧ h_ = h0) (StrChars.Road.lenW (W := 3) hZ (own_hwordsLen hw) (kI := 4) (hw _ (List.mem_of_getElem? (i := 7) rfl)) S_x.1 S_x.2.2.1 S_x.2.1 S_x.2.2.2 (own_cod hp) (own_up hp) (Sco.ext O.2) hzc (Nat.le_of_ble_eq_true rfl) (by decide) (by decide)) (by decide) hown (hw _ (List.mem_of_getElem? (i := 47) rfl)) (hw _ (List.mem_of_getElem? (i := 48) rfl)) (notFace_of_selects (args := #[]) (mvT hZ (hw _ (List.mem_of_getElem? (i := 50) rfl)))) (hw _ (List.mem_of_getElem? (i := 50) rfl)) (hw _ (List.mem_of_getElem? (i := 49) rfl)) e2 S_x.1 (by rw [hml]; rfl) (argsL := []) (S := [(.int (0 : Int32)), (.int (123 : Int32)), (.ref t)]) (Nat.le_of_ble_eq_true rfl) (by decide) (by decide) pd_ocI rfl rfl (hb hby d7_14) ?_
  rintro _ T3 L3 X3 ⟨rfl, rfl, e3⟩
  have N3 := Fr.app N1 (Fr.nil n0)
  show Go p_ e_ below _ _ T3 (mkF m_ 17 #[.val (.ref x), .val (.int (123 : Int32)), .val (.int (0 : Int32))] [(.int (4 : Int32)), (.int (0 : Int32)), (.int (123 : Int32)), (.ref t)])
  refine Go.callS X3 hx hZ (rm11_4 l Z a0 hw [] t kb c0 c1 c2 c3 h0 n0 Z0 (show Arv Z h0 t kb .byte (4 : Int32) [(.int (c0.toInt8.toInt32)), (.int (c1.toInt8.toInt32)), (.int (c2.toInt8.toInt32)), (.int (c3.toInt8.toInt32))] (.int (0 : Int32)) from S_x.2.2.2)) hown (hw _ (List.mem_of_getElem? (i := 57) rfl)) (hw _ (List.mem_of_getElem? (i := 58) rfl)) (hw _ (List.mem_of_getElem? (i := 59) rfl)) (hw _ (List.mem_of_getElem? (i := 60) rfl)) (by decide) e3 (W := 0) (by rw [hml]; rfl) (argsL := [(.ref t), (.int (123 : Int32)), (.int (0 : Int32)), (.int (4 : Int32))]) (S := []) (Nat.le_of_ble_eq_true rfl) (by decide) (by decide) (by decide) (by decide) pd_oABIIIcI rfl rfl (hb hby d7_17) ?_
  rintro _ T4 L4 X4 ⟨rfl, N4q, e4⟩
  have N4 := Fr.app N3 N4q
  show Go p_ e_ below _ _ T4 (mkF m_ 20 #[.val (.ref x), .val (.int (123 : Int32)), .val (.int (0 : Int32))] [(.int (own_f11_4 c0 c1 c2 c3))])
  refine Go.goto X4 hx (pc' := 36) (hb hby d7_20) (by decide) (by decide) ?_
  refine Go.retI X4 hx hret hlk (hb hby d7_36) (by decide) (by decide) ?_
  exact ⟨by unfold own_f7_4; rfl, N4, e4⟩
def own_f6_4 (c0 : Int32) (c1 : Int32) (c2 : Int32) (c3 : Int32) : Int32 := (own_f7_4 c0 c1 c2 c3)
theorem ef_rm6_4 (m_ : MethodId) (x : Addr) : entryFrame m_ #[(.ref x), (.int (123 : Int32))] 2 = mkF m_ 0 #[.val (.ref x), .val (.int (123 : Int32))] [] := by first | (simp [entryFrame, mkF, argsToLocals, Value.category]; done) | rfl
def Q6_4 (Z : State) (x : Addr) (t : Addr) (kb : ClassId) (c0 : Int32) (c1 : Int32) (c2 : Int32) (c3 : Int32) (zc : Int32) (h0 : Heap) (n0 : Nat) (v : Option Value) (h : Heap) (L : List Loc) : Prop := v = some (.int (own_f6_4 c0 c1 c2 c3)) ∧ Fr n0 L ∧ h = h0
set_option maxRecDepth 65536 in
set_option maxHeartbeats 40000000 in
theorem rm6_4 (l : Launch) (Z : State) (a0 : Array Value) (hw : ∀ d ∈ tables_1, d.before a0 Z = true) (ws : List Jvm.Cond) (x : Addr) (t : Addr) (kb : ClassId) (c0 : Int32) (c1 : Int32) (c2 : Int32) (c3 : Int32) (zc : Int32) (h0 : Heap) (n0 : Nat) (Z0 : n0 ≤ h0.size) (O : Old Z n0 h0) (Sco : Sta Z Z.heap "java/lang/String" "COMPACT_STRINGS" "Z" (.int zc)) (hzc : ¬ zc = 0) (S_x : StrAt Z h0 x t kb [c0, c1, c2, c3]) (hp : ∀ c ∈ ([c0, c1, c2, c3] : List Int32), ¬ c < 0 ∧ ¬ (255 : Int32) < c) :
    MetFree l (⟨"java/lang/String", "indexOf", "(I)I"⟩ : MethodName) (head1 (Jvm.Cond.code (⟨"java/lang/String", "indexOf", "(I)I"⟩ : MethodName) jdk_42_method_79_code 2 (some .int) :: ws) ({ frames := 3, cells := 0, slots := 0, locals := 46 } : Room)) (fun a_ U_ => a_ = #[(.ref x), (.int (123 : Int32))] ∧ Z.Warmed39 U_.vm ∧ U_.heap = h0) (fun _ _ _ _ _ => True) (fun _ U_ o_ V_ => ∃ v_ L_, o_ = .returned v_ ∧ Q6_4 Z x t kb c0 c1 c2 c3 zc h0 n0 v_ V_.heap L_ ∧ FrameEnd U_ o_ V_ L_ ({ frames := 3, cells := 0, slots := 0, locals := 46 } : Room).cells ({ frames := 3, cells := 0, slots := 0, locals := 46 } : Room).slots) := by
  refine metOf (Q := Q6_4 Z x t kb c0 c1 c2 c3 zc h0 n0) (plainFor_of_name pn_6) ?_
  intro p_ e_ s_ m_ below meth c_ s₁ X0 hx hby hml hret hlk hZ hown hnm e0
  rw [ef_rm6_4]
  have N0 := Fr.nil n0
  show Go p_ e_ below _ _ s₁ (mkF m_ 0 #[.val (.ref x), .val (.int (123 : Int32))] [])
  refine Go.aloadN X0 hx (hb hby d6_0) rfl rfl ?_
  refine Go.iloadN X0 hx (hb hby d6_1) rfl ?_
  refine Go.iconst X0 hx (0 : Int32) (hb hby d6_2) rfl ?_
  refine Go.callV X0 hx hZ (y0 := (⟨"java/lang/String", "indexOf", "(II)I"⟩ : MethodName)) (rm7_4 l Z a0 hw [] x t kb c0 c1 c2 c3 zc h0 n0 Z0 O Sco hzc S_x hp) (by decide) hown (hw _ (List.mem_of_getElem? (i := 36) rfl)) (hw _ (List.mem_of_getElem? (i := 37) rfl)) (notFace_of_selects (args := #[]) (mvT hZ (hw _ (List.mem_of_getElem? (i := 39) rfl)))) (hw _ (List.mem_of_getElem? (i := 39) rfl)) (hw _ (List.mem_of_getElem? (i := 38) rfl)) (hw _ (List.mem_of_getElem? (i := 8) rfl)) (hw _ (List.mem_of_getElem? (i := 40) rfl)) e0 S_x.1 (W := 0) (by rw [hml]; rfl) (argsL := [(.int (123 : Int32)), (.int (0 : Int32))]) (S := []) (Nat.le_of_ble_eq_true rfl) (by decide) (by decide) (by decide) (by decide) pd_oIIcI rfl rfl (hb hby d6_3) ?_
  rintro _ T1 L1 X1 ⟨rfl, N1q, e1⟩
  have N1 := Fr.app N0 N1q
  show Go p_ e_ below _ _ T1 (mkF m_ 6 #[.val (.ref x), .val (.int (123 : Int32))] [(.int (own_f7_4 c0 c1 c2 c3))])
  refine Go.retI X1 hx hret hlk (hb hby d6_6) (by decide) (by decide) ?_
  exact ⟨by unfold own_f6_4; rfl, N1, e1⟩
def own_f5_4 (c0 : Int32) (c1 : Int32) (c2 : Int32) (c3 : Int32) : Int32 := (if (own_f6_4 c0 c1 c2 c3) < (0 : Int32) then (0 : Int32) else (1 : Int32))
theorem ef_rm5_4 (m_ : MethodId) (x : Addr) : entryFrame m_ #[(.ref x)] 1 = mkF m_ 0 #[.val (.ref x)] [] := by first | (simp [entryFrame, mkF, argsToLocals, Value.category]; done) | rfl
def Q5_4 (Z : State) (x : Addr) (t : Addr) (kb : ClassId) (c0 : Int32) (c1 : Int32) (c2 : Int32) (c3 : Int32) (zc : Int32) (h0 : Heap) (n0 : Nat) (v : Option Value) (h : Heap) (L : List Loc) : Prop := v = some (.int (own_f5_4 c0 c1 c2 c3)) ∧ Fr n0 L ∧ h = h0
set_option maxRecDepth 65536 in
set_option maxHeartbeats 40000000 in
theorem rm5_4 (l : Launch) (Z : State) (a0 : Array Value) (hw : ∀ d ∈ tables_1, d.before a0 Z = true) (ws : List Jvm.Cond) (x : Addr) (t : Addr) (kb : ClassId) (c0 : Int32) (c1 : Int32) (c2 : Int32) (c3 : Int32) (zc : Int32) (h0 : Heap) (n0 : Nat) (Z0 : n0 ≤ h0.size) (O : Old Z n0 h0) (Sco : Sta Z Z.heap "java/lang/String" "COMPACT_STRINGS" "Z" (.int zc)) (hzc : ¬ zc = 0) (S_x : StrAt Z h0 x t kb [c0, c1, c2, c3]) (hp : ∀ c ∈ ([c0, c1, c2, c3] : List Int32), ¬ c < 0 ∧ ¬ (255 : Int32) < c) :
    MetFree l (⟨"com/example/ordinance/ordinance/description/PathSegments", "isTemplate", "(Ljava/lang/String;)Z"⟩ : MethodName) (head1 (Jvm.Cond.code (⟨"com/example/ordinance/ordinance/description/PathSegments", "isTemplate", "(Ljava/lang/String;)Z"⟩ : MethodName) prog_8_method_3_code 1 (some .boolean) :: ws) ({ frames := 4, cells := 0, slots := 0, locals := 59 } : Room)) (fun a_ U_ => a_ = #[(.ref x)] ∧ Z.Warmed39 U_.vm ∧ U_.heap = h0) (fun _ _ _ _ _ => True) (fun _ U_ o_ V_ => ∃ v_ L_, o_ = .returned v_ ∧ Q5_4 Z x t kb c0 c1 c2 c3 zc h0 n0 v_ V_.heap L_ ∧ FrameEnd U_ o_ V_ L_ ({ frames := 4, cells := 0, slots := 0, locals := 59 } : Room).cells ({ frames := 4, cells := 0, slots := 0, locals := 59 } : Room).slots) := by
  refine metOf (Q := Q5_4 Z x t kb c0 c1 c2 c3 zc h0 n0) (plainFor_of_name pn_5) ?_
  intro p_ e_ s_ m_ below meth c_ s₁ X0 hx hby hml hret hlk hZ hown hnm e0
  rw [ef_rm5_4]
  have N0 := Fr.nil n0
  show Go p_ e_ below _ _ s₁ (mkF m_ 0 #[.val (.ref x)] [])
  refine Go.aloadN X0 hx (hb hby d5_0) rfl rfl ?_
  refine Go.bipush X0 hx (123 : Int32) (hb hby d5_1) rfl ?_
  refine Go.callV X0 hx hZ (y0 := (⟨"java/lang/String", "indexOf", "(I)I"⟩ : MethodName)) (rm6_4 l Z a0 hw [] x t kb c0 c1 c2 c3 zc h0 n0 Z0 O Sco hzc S_x hp) (by decide) hown (hw _ (List.mem_of_getElem? (i := 31) rfl)) (hw _ (List.mem_of_getElem? (i := 32) rfl)) (notFace_of_selects (args := #[]) (mvT hZ (hw _ (List.mem_of_getElem? (i := 34) rfl)))) (hw _ (List.mem_of_getElem? (i := 34) rfl)) (hw _ (List.mem_of_getElem? (i := 33) rfl)) (hw _ (List.mem_of_getElem? (i := 8) rfl)) (hw _ (List.mem_of_getElem? (i := 35) rfl)) e0 S_x.1 (W := 0) (by rw [hml]; rfl) (argsL := [(.int (123 : Int32))]) (S := []) (Nat.le_of_ble_eq_true rfl) (by decide) (by decide) (by decide) (by decide) pd_oIcI rfl rfl (hb hby d5_3) ?_
  rintro _ T1 L1 X1 ⟨rfl, N1q, e1⟩
  have N1 := Fr.app N0 N1q
  show Go p_ e_ below _ _ T1 (mkF m_ 6 #[.val (.ref x)] [(.int (own_f6_4 c0 c1 c2 c3))])
  by_cases hc6_2 : (own_f6_4 c0 c1 c2 c3) < (0 : Int32)
  · skip
    refine Go.ifYes X1 hx (pc' := 13) (hb hby d5_6) ((if0 _ _).trans (tlt hc6_2).1) (by decide) (by decide) ?_
    show Go p_ e_ below _ _ T1 (mkF m_ 13 #[.val (.ref x)] [])
    refine Go.iconst X1 hx (0 : Int32) (hb hby d5_13) rfl ?_
    refine Go.retN X1 hx hret hlk (by simp) (hb hby d5_14) (by decide) (by decide) ?_
    exact ⟨by unfold own_f5_4; rw [if_pos hc6_2] <;> rfl, N1, e1⟩
  · skip
    refine Go.ifNo X1 hx (hb hby d5_6) ((if0 _ _).trans (flt hc6_2).1) ?_
    show Go p_ e_ below _ _ T1 (mkF m_ 9 #[.val (.ref x)] [])
    refine Go.iconst X1 hx (1 : Int32) (hb hby d5_9) rfl ?_
    refine Go.goto X1 hx (pc' := 14) (hb hby d5_10) (by decide) (by decide) ?_
    refine Go.retN X1 hx hret hlk (by simp) (hb hby d5_14) (by decide) (by decide) ?_
    exact ⟨by unfold own_f5_4; rw [if_neg hc6_2] <;> rfl, N1, e1⟩
theorem own_fin4 {c0 c1 c2 c3 ex : Int32} (r0 : 0 ≤ c0.toInt ∧ c0.toInt ≤ 255) (r1 : 0 ≤ c1.toInt ∧ c1.toInt ≤ 255) (r2 : 0 ≤ c2.toInt ∧ c2.toInt ≤ 255) (r3 : 0 ≤ c3.toInt ∧ c3.toInt ≤ 255) (h : ex = (if c0 = (123 : Int32) then (1 : Int32) else (if c1 = (123 : Int32) then (1 : Int32) else (if c2 = (123 : Int32) then (1 : Int32) else (if c3 = (123 : Int32) then (1 : Int32) else (0 : Int32)))))) : own_f5_4 c0 c1 c2 c3 = ex := by
  subst h
  unfold own_f5_4 own_f6_4 own_f7_4 own_f11_4 own_f18_4
  simp only [own_bi r0, own_bi r1, own_bi r2, own_bi r3]
  by_cases h0 : c0 = (123 : Int32) <;> by_cases h1 : c1 = (123 : Int32) <;> by_cases h2 : c2 = (123 : Int32) <;> by_cases h3 : c3 = (123 : Int32) <;> simp [h0, h1, h2, h3]
theorem pd_oIcC : parseMethodDescriptor "(I)C" = some ⟨[.int], some .char⟩ := by decide +kernel
theorem pd_oACcV : parseMethodDescriptor "([C)V" = some ⟨[(.array .char)], none⟩ := by decide +kernel
theorem pd_oLjava_lang_StringcZ : parseMethodDescriptor "(Ljava/lang/String;)Z" = some ⟨[(.object "java/lang/String")], some .boolean⟩ := by decide +kernel
theorem pn_0 : plainName "com/example/ordinance/ordinance/description/PathSegmentsIsTemplatePinLaw" = true := by first | (simp [plainName, overriddenIn]; done) | decide +kernel
theorem ef_rm0 (m_ : MethodId) (p0 : Int32) (p1 : Int32) (p2 : Int32) (p3 : Int32) (p4 : Int32) : entryFrame m_ #[(.int p0), (.int p1), (.int p2), (.int p3), (.int p4)] maxLocals = mkF m_ 0 #[.val (.int p0), .val (.int p1), .val (.int p2), .val (.int p3), .val (.int p4), .unset, .unset, .unset, .unset, .unset, .unset, .unset] [] := by first | (simp [entryFrame, mkF, argsToLocals, Value.category, maxLocals]; done) | rfl
def Q0 (Z : State) (p0 : Int32) (p1 : Int32) (p2 : Int32) (p3 : Int32) (p4 : Int32) (zc : Int32) (h0 : Heap) (n0 : Nat) (v : Option Value) (h : Heap) (L : List Loc) : Prop := v = some (.int 1) ∧ Fr n0 L
set_option maxRecDepth 65536 in
set_option maxHeartbeats 40000000 in
theorem rm0 (l : Launch) (Z : State) (a0 : Array Value) (hw : ∀ d ∈ tables_1, d.before a0 Z = true) (ws : List Jvm.Cond) (p0 : Int32) (p1 : Int32) (p2 : Int32) (p3 : Int32) (p4 : Int32) (zc : Int32) (h0 : Heap) (n0 : Nat) (Z0 : n0 ≤ h0.size) (O : Old Z n0 h0) (Sco : Sta Z Z.heap "java/lang/String" "COMPACT_STRINGS" "Z" (.int zc)) (hzc : ¬ zc = 0) :
    MetFree l x (head1 (Jvm.Cond.code x code maxLocals ret :: ws) room_1) (fun a_ U_ => a_ = #[(.int p0), (.int p1), (.int p2), (.int p3), (.int p4)] ∧ Z.Warmed39 U_.vm ∧ U_.heap = h0 ∧ CHv Z own_EL U_.vm h0) (fun _ _ _ _ _ => True) (fun _ U_ o_ V_ => ∃ v_ L_, o_ = .returned v_ ∧ Q0 Z p0 p1 p2 p3 p4 zc h0 n0 v_ V_.heap L_ ∧ CHr Z own_EL U_.vm U_.heap V_.vm V_.heap ∧ ReturnedEndW U_ o_ V_ L_ room_1.cells room_1.slots) := by
  refine metOfH (EL := own_EL) (Q := Q0 Z p0 p1 p2 p3 p4 zc h0 n0) (plainFor_of_name pn_0) ?_
  intro p_ e_ s_ m_ below meth c_ s₁ X0 hx hby hml hret hlk hZ hown hnm e0 hS h00 HR
  have hEL := own_hEL hw
  have hwS := own_hwS hw
  have hk : 0 ≤ h0.size := Nat.zero_le _
  rw [ef_rm0]
  have N0 := Fr.nil n0
  show Go p_ e_ below _ _ s₁ (mkF m_ 0 #[.val (.int p0), .val (.int p1), .val (.int p2), .val (.int p3), .val (.int p4), .unset, .unset, .unset, .unset, .unset, .unset, .unset] [])
  refine Go.iloadN X0 hx (hb hby at_0) rfl ?_
  refine Go.ldcI X0 hx hZ hown (hw _ (List.mem_of_getElem? (i := 0) rfl)) (hb hby at_1) ?_
  refine Go.iand X0 hx (hb hby at_3) ?_
  refine Go.iconst X0 hx (5 : Int32) (hb hby at_4) rfl ?_
  refine Go.irem X0 hx (hb hby at_5) (by decide) ?_
  refine Go.istore X0 hx (l' := #[.val (.int p0), .val (.int p1), .val (.int p2), .val (.int p3), .val (.int p4), .val (.int ((p0 &&& (2147483647 : Int32)) % (5 : Int32))), .unset, .unset, .unset, .unset, .unset, .unset]) (hb hby at_6) rfl ?_
  refine Go.iloadN X0 hx (hb hby at_8) rfl ?_
  refine Go.callS X0 hx hZ (rm1 l Z a0 hw [] p1  h0 n0 Z0 ) hown (hw _ (List.mem_of_getElem? (i := 1) rfl)) (hw _ (List.mem_of_getElem? (i := 2) rfl)) (hw _ (List.mem_of_getElem? (i := 3) rfl)) (hw _ (List.mem_of_getElem? (i := 4) rfl)) (by decide) e0 (W := 0) (by rw [hml]; rfl) (argsL := [(.int p1)]) (S := []) (Nat.le_of_ble_eq_true rfl) (by decide) (by decide) (by decide) (by decide) pd_oIcC rfl rfl (hb hby at_9) ?_
  rintro _ T1 L1 X1 ⟨rfl, N1q, e1⟩
  have N1 := Fr.app N0 N1q
  show Go p_ e_ below _ _ T1 (mkF m_ 12 #[.val (.int p0), .val (.int p1), .val (.int p2), .val (.int p3), .val (.int p4), .val (.int ((p0 &&& (2147483647 : Int32)) % (5 : Int32))), .unset, .unset, .unset, .unset, .unset, .unset] [(.int (own_pk p1 ))])
  refine Go.istore X1 hx (l' := #[.val (.int p0), .val (.int p1), .val (.int p2), .val (.int p3), .val (.int p4), .val (.int ((p0 &&& (2147483647 : Int32)) % (5 : Int32))), .val (.int (own_pk p1 )), .unset, .unset, .unset, .unset, .unset]) (hb hby at_12) rfl ?_
  refine Go.iloadN X1 hx (hb hby at_14) rfl ?_
  refine Go.callS X1 hx hZ (rm1 l Z a0 hw [] p2  h0 n0 Z0 ) hown (hw _ (List.mem_of_getElem? (i := 1) rfl)) (hw _ (List.mem_of_getElem? (i := 2) rfl)) (hw _ (List.mem_of_getElem? (i := 3) rfl)) (hw _ (List.mem_of_getElem? (i := 4) rfl)) (by decide) e1 (W := 0) (by rw [hml]; rfl) (argsL := [(.int p2)]) (S := []) (Nat.le_of_ble_eq_true rfl) (by decide) (by decide) (by decide) (by decide) pd_oIcC rfl rfl (hb hby at_15) ?_
  rintro _ T2 L2 X2 ⟨rfl, N2q, e2⟩
  have N2 := Fr.app N1 N2q
  show Go p_ e_ below _ _ T2 (mkF m_ 18 #[.val (.int p0), .val (.int p1), .val (.int p2), .val (.int p3), .val (.int p4), .val (.int ((p0 &&& (2147483647 : Int32)) % (5 : Int32))), .val (.int (own_pk p1 )), .unset, .unset, .unset, .unset, .unset] [(.int (own_pk p2 ))])
  refine Go.istore X2 hx (l' := #[.val (.int p0), .val (.int p1), .val (.int p2), .val (.int p3), .val (.int p4), .val (.int ((p0 &&& (2147483647 : Int32)) % (5 : Int32))), .val (.int (own_pk p1 )), .val (.int (own_pk p2 )), .unset, .unset, .unset, .unset]) (hb hby at_18) rfl ?_
  refine Go.iloadN X2 hx (hb hby at_20) rfl ?_
  refine Go.callS X2 hx hZ (rm1 l Z a0 hw [] p3  h0 n0 Z0 ) hown (hw _ (List.mem_of_getElem? (i := 1) rfl)) (hw _ (List.mem_of_getElem? (i := 2) rfl)) (hw _ (List.mem_of_getElem? (i := 3) rfl)) (hw _ (List.mem_of_getElem? (i := 4) rfl)) (by decide) e2 (W := 0) (by rw [hml]; rfl) (argsL := [(.int p3)]) (S := []) (Nat.le_of_ble_eq_true rfl) (by decide) (by decide) (by decide) (by decide) pd_oIcC rfl rfl (hb hby at_21) ?_
  rintro _ T3 L3 X3 ⟨rfl, N3q, e3⟩
  have N3 := Fr.app N2 N3q
  show Go p_ e_ below _ _ T3 (mkF m_ 24 #[.val (.int p0), .val (.int p1), .val (.int p2), .val (.int p3), .val (.int p4), .val (.int ((p0 &&& (2147483647 : Int32)) % (5 : Int32))), .val (.int (own_pk p1 )), .val (.int (own_pk p2 )), .unset, .unset, .unset, .unset] [(.int (own_pk p3 ))])
  refine Go.istore X3 hx (l' := #[.val (.int p0), .val (.int p1), .val (.int p2), .val (.int p3), .val (.int p4), .val (.int ((p0 &&& (2147483647 : Int32)) % (5 : Int32))), .val (.int (own_pk p1 )), .val (.int (own_pk p2 )), .val (.int (own_pk p3 )), .unset, .unset, .unset]) (hb hby at_24) rfl ?_
  refine Go.iload X3 hx (hb hby at_26) rfl ?_
  refine Go.callS X3 hx hZ (rm1 l Z a0 hw [] p4  h0 n0 Z0 ) hown (hw _ (List.mem_of_getElem? (i := 1) rfl)) (hw _ (List.mem_of_getElem? (i := 2) rfl)) (hw _ (List.mem_of_getElem? (i := 3) rfl)) (hw _ (List.mem_of_getElem? (i := 4) rfl)) (by decide) e3 (W := 0) (by rw [hml]; rfl) (argsL := [(.int p4)]) (S := []) (Nat.le_of_ble_eq_true rfl) (by decide) (by decide) (by decide) (by decide) pd_oIcC rfl rfl (hb hby at_28) ?_
  rintro _ T4 L4 X4 ⟨rfl, N4q, e4⟩
  have N4 := Fr.app N3 N4q
  show Go p_ e_ below _ _ T4 (mkF m_ 31 #[.val (.int p0), .val (.int p1), .val (.int p2), .val (.int p3), .val (.int p4), .val (.int ((p0 &&& (2147483647 : Int32)) % (5 : Int32))), .val (.int (own_pk p1 )), .val (.int (own_pk p2 )), .val (.int (own_pk p3 )), .unset, .unset, .unset] [(.int (own_pk p4 ))])
  refine Go.istore X4 hx (l' := #[.val (.int p0), .val (.int p1), .val (.int p2), .val (.int p3), .val (.int p4), .val (.int ((p0 &&& (2147483647 : Int32)) % (5 : Int32))), .val (.int (own_pk p1 )), .val (.int (own_pk p2 )), .val (.int (own_pk p3 )), .val (.int (own_pk p4 )), .unset, .unset]) (hb hby at_31) rfl ?_
  show Go p_ e_ below _ _ T4 (mkF m_ 33 #[.val (.int p0), .val (.int p1), .val (.int p2), .val (.int p3), .val (.int p4), .val (.int ((p0 &&& (2147483647 : Int32)) % (5 : Int32))), .val (.int (own_pk p1 )), .val (.int (own_pk p2 )), .val (.int (own_pk p3 )), .val (.int (own_pk p4 )), .unset, .unset] [])
  obtain ⟨z, q_z⟩ : ∃ z, z = ((p0 &&& (2147483647 : Int32)) % (5 : Int32)) := ⟨_, rfl⟩
  rw [← q_z]
  have r_z : 0 ≤ z.toInt ∧ z.toInt ≤ 4 := by rw [q_z]; exact (own_z _)
  clear q_z
  obtain ⟨c0, q_c0⟩ : ∃ z, z = (own_pk p1 ) := ⟨_, rfl⟩
  rw [← q_c0]
  have r_c0 : 0 ≤ c0.toInt ∧ c0.toInt ≤ 255 := by rw [q_c0]; exact (own_pkr _)
  clear q_c0
  obtain ⟨c1, q_c1⟩ : ∃ z, z = (own_pk p2 ) := ⟨_, rfl⟩
  rw [← q_c1]
  have r_c1 : 0 ≤ c1.toInt ∧ c1.toInt ≤ 255 := by rw [q_c1]; exact (own_pkr _)
  clear q_c1
  obtain ⟨c2, q_c2⟩ : ∃ z, z = (own_pk p3 ) := ⟨_, rfl⟩
  rw [← q_c2]
  have r_c2 : 0 ≤ c2.toInt ∧ c2.toInt ≤ 255 := by rw [q_c2]; exact (own_pkr _)
  clear q_c2
  obtain ⟨c3, q_c3⟩ : ∃ z, z = (own_pk p4 ) := ⟨_, rfl⟩
  rw [← q_c3]
  have r_c3 : 0 ≤ c3.toInt ∧ c3.toInt ≤ 255 := by rw [q_c3]; exact (own_pkr _)
  clear q_c3
  show Go p_ e_ below _ _ T4 (mkF m_ 33 #[.val (.int p0), .val (.int p1), .val (.int p2), .val (.int p3), .val (.int p4), .val (.int z), .val (.int c0), .val (.int c1), .val (.int c2), .val (.int c3), .unset, .unset] [])
  refine Go.iload X4 hx (hb hby at_33) rfl ?_
  by_cases hc35_5 : z = (0 : Int32)
  · skip
    refine Go.ifNo X4 hx (hb hby at_35) ((if0 _ _).trans (teq hc35_5).2) ?_
    have hz : z = (0 : Int32) := hc35_5
    show Go p_ e_ below _ _ T4 (mkF m_ 38 #[.val (.int p0), .val (.int p1), .val (.int p2), .val (.int p3), .val (.int p4), .val (.int z), .val (.int c0), .val (.int c1), .val (.int c2), .val (.int c3), .unset, .unset] [])
    refine Go.iconst X4 hx (0 : Int32) (hb hby at_38) rfl ?_
    refine Go.newP X4 hx hZ (hw _ (List.mem_of_getElem? (i := 5) rfl)) e4 (hb hby at_39) (by decide) (cap := 0) (by decide) (by decide) (by decide) (by decide) ?_
    intro T6 h6 kc6 b6 zq6 X6 e6 E6 A6
    have g_b6 : n0 ≤ b6 := Nat.le_trans Z0 (Nat.le_of_eq zq6.symm)
    have Z6 : n0 ≤ h6.size := Nat.le_trans Z0 E6.1
    have hk6 : _ ≤ h6.size := Nat.le_trans hk E6.1
    have Q0_b6 : Safe Z own_EL (s_.setVm s_.vm).vm h0 b6 := Safe.new (Nat.le_of_eq zq6.symm)
    have O_6_ := O.ext E6
    have Q6_b6 := Safe.ext E6 HR.1 Q0_b6
    have HR6 := HR.trans (CHr.ext E6 HR.1)
    have V6 : Arv Z h6 b6 kc6 .char (0 : Int32) [] (.int (0 : Int32)) := Arv.new A6 (by decide)
    show Go p_ e_ below _ _ T6 (mkF m_ 41 #[.val (.int p0), .val (.int p1), .val (.int p2), .val (.int p3), .val (.int p4), .val (.int z), .val (.int c0), .val (.int c1), .val (.int c2), .val (.int c3), .unset, .unset] [(.ref b6)])
    refine Go.astore X6 hx (l' := #[.val (.int p0), .val (.int p1), .val (.int p2), .val (.int p3), .val (.int p4), .val (.int z), .val (.int c0), .val (.int c1), .val (.int c2), .val (.int c3), .val (.ref b6), .unset]) (hb hby at_41) rfl rfl ?_
    refine Go.goto X6 hx (pc' := 143) (hb hby at_43) (by decide) (by decide) ?_
    have j7 : ∀ (T8 : State) (l8 : List Loc) (ex : Int32), Stand p_ l e_ room_1 (s_.setVm s_.vm) m_ #[(.int p0), (.int p1), (.int p2), (.int p3), (.int p4)] below meth c_ T8 l8 1 0 → Fr n0 l8 → T8.heap = h6 → (ex = (0 : Int32)) → Go p_ e_ below (HE Z own_EL s_ room_1.cells room_1.slots) (Q0 Z p0 p1 p2 p3 p4 zc h0 n0) T8 (mkF m_ 199 #[.val (.int p0), .val (.int p1), .val (.int p2), .val (.int p3), .val (.int p4), .val (.int z), .val (.int c0), .val (.int c1), .val (.int c2), .val (.int c3), .val (.ref b6), .unset] [(.int ex)]) := by
      intro T8 l8 ex X8 N8 e8  h_ex
      show Go p_ e_ below _ _ T8 (mkF m_ 199 #[.val (.int p0), .val (.int p1), .val (.int p2), .val (.int p3), .val (.int p4), .val (.int z), .val (.int c0), .val (.int c1), .val (.int c2), .val (.int c3), .val (.ref b6), .unset] [(.int ex)])
      refine Go.istore X8 hx (l' := #[.val (.int p0), .val (.int p1), .val (.int p2), .val (.int p3), .val (.int p4), .val (.int z), .val (.int c0), .val (.int c1), .val (.int c2), .val (.int c3), .val (.ref b6), .val (.int ex)]) (hb hby at_199) rfl ?_
      refine Go.newO X8 hx hZ hown (hw _ (List.mem_of_getElem? (i := 6) rfl)) (hw _ (List.mem_of_getElem? (i := 7) rfl)) (hw _ (List.mem_of_getElem? (i := 8) rfl)) e8 (hb hby at_201) (by decide) (by decide) ?_
      intro T9 h9 b9 zq9 X9 e9 E9 A9 D9
      have ne_b6_b9 : b6 ≠ b9 := Nat.ne_of_lt (Nat.lt_of_lt_of_le V6.lt (Nat.le_of_eq zq9.symm))
      have g_b9 : n0 ≤ b9 := Nat.le_trans Z6 (Nat.le_of_eq zq9.symm)
      have Z9 : n0 ≤ h9.size := Nat.le_trans Z6 E9.1
      have hk9 : _ ≤ h9.size := Nat.le_trans hk6 E9.1
      have Q0_b9 : Safe Z own_EL (s_.setVm s_.vm).vm h6 b9 := Safe.new (Nat.le_of_eq zq9.symm)
      have O_9_ := O_6_.ext E9
      have V_9_b6 := V6.ext E9
      have Q9_b6 := Safe.ext E9 HR6.1 Q6_b6
      have Q9_b9 := Safe.ext E9 HR6.1 Q0_b9
      have HR9 := HR6.trans (CHr.ext E9 HR6.1)
      have F_b9_value : Fld Z h9 b9 "java/lang/String" "value" "[B" .null := D9 (Or.inr (hw _ (List.mem_of_getElem? (i := 21) rfl))) (ty := (.array .byte)) (by decide)
      have F_b9_coder : Fld Z h9 b9 "java/lang/String" "coder" "B" (.int (0 : Int32)) := D9 (Or.inr (hw _ (List.mem_of_getElem? (i := 22) rfl))) (ty := .byte) (by decide)
      show Go p_ e_ below _ _ T9 (mkF m_ 204 #[.val (.int p0), .val (.int p1), .val (.int p2), .val (.int p3), .val (.int p4), .val (.int z), .val (.int c0), .val (.int c1), .val (.int c2), .val (.int c3), .val (.ref b6), .val (.int ex)] [(.ref b9)])
      refine Go.dup X9 hx (hb hby at_204) rfl ?_
      refine Go.aload X9 hx (hb hby at_205) rfl rfl ?_
      refine Go.callIH X9 hx hZ (rm2e l Z a0 hw [] b9 b6 kc6 h9 n0 Z9 A9 F_b9_value F_b9_coder g_b9 V_9_b6 ne_b6_b9) rfl hown (hw _ (List.mem_of_getElem? (i := 9) rfl)) (hw _ (List.mem_of_getElem? (i := 10) rfl)) (hw _ (List.mem_of_getElem? (i := 8) rfl)) (hw _ (List.mem_of_getElem? (i := 11) rfl)) (by decide) hS e9 hk9 hEL HR9.1 (a := b9) (W := 1) (by rw [hml]; rfl) (argsL := [(.ref b6)]) (S := [(.ref b9)]) (Nat.le_of_ble_eq_true rfl) (by decide) (by decide) (by decide) (by decide) pd_oACcV rfl rfl (hb hby at_207) ?_
      rintro _ T10 L10 X10 ⟨rfl, N10q, K10, t10, kb10, S_10⟩ hS10 hg10 hZ hown HC10
      have N10 := Fr.app N8 N10q
      have O_10_ := O_9_.keep K10 (allS g_b9 all0)
      have V_10_b6 := V_9_b6.keep K10 (ninS ne_b6_b9 nin0)
      have Q10_b6 := HC10.safe V_9_b6.lt Q9_b6
      have HR10 := HR9.trans HC10
      have Z10 : n0 ≤ T10.heap.size := Nat.le_trans Z9 K10.1
      have hk10 : _ ≤ T10.heap.size := Nat.le_trans hk9 K10.1
      show Go p_ e_ below _ _ T10 (mkF m_ 210 #[.val (.int p0), .val (.int p1), .val (.int p2), .val (.int p3), .val (.int p4), .val (.int z), .val (.int c0), .val (.int c1), .val (.int c2), .val (.int c3), .val (.ref b6), .val (.int ex)] [(.ref b9)])
      refine Go.callS X10 hx hZ (rm5_0 l Z a0 hw [] b9 t10 kb10  zc T10.heap n0 Z10 O_10_ Sco hzc S_10 (by decide)) hown (hw _ (List.mem_of_getElem? (i := 27) rfl)) (hw _ (List.mem_of_getElem? (i := 28) rfl)) (hw _ (List.mem_of_getElem? (i := 29) rfl)) (hw _ (List.mem_of_getElem? (i := 30) rfl)) (by decide) rfl (W := 0) (by rw [hml]; rfl) (argsL := [(.ref b9)]) (S := []) (Nat.le_of_ble_eq_true rfl) (by decide) (by decide) (by decide) (by decide) pd_oLjava_lang_StringcZ rfl rfl (hb hby at_210) ?_
      rintro _ T11 L11 X11 ⟨rfl, N11q, e11⟩
      have N11 := Fr.app N10 N11q
      show Go p_ e_ below _ _ T11 (mkF m_ 213 #[.val (.int p0), .val (.int p1), .val (.int p2), .val (.int p3), .val (.int p4), .val (.int z), .val (.int c0), .val (.int c1), .val (.int c2), .val (.int c3), .val (.ref b6), .val (.int ex)] [(.int (own_f5_0 ))])
      refine Go.iload X11 hx (hb hby at_213) rfl ?_
      refine Go.icmpNo X11 hx (hb hby at_215) (teq (own_fin0  h_ex)).2 ?_
      show Go p_ e_ below _ _ T11 (mkF m_ 218 #[.val (.int p0), .val (.int p1), .val (.int p2), .val (.int p3), .val (.int p4), .val (.int z), .val (.int c0), .val (.int c1), .val (.int c2), .val (.int c3), .val (.ref b6), .val (.int ex)] [])
      refine Go.iconst X11 hx (1 : Int32) (hb hby at_218) rfl ?_
      refine Go.goto X11 hx (pc' := 223) (hb hby at_219) (by decide) (by decide) ?_
      refine Go.retNH X11 hx hS10 e11 (Nat.le_refl _) hZ hEL h00 HR10 hret hlk (by simp) (hb hby at_223) (by decide) (by decide) ?_
      exact ⟨rfl, N11⟩
    refine Go.iload X6 hx (hb hby at_143) rfl ?_
    refine Go.ifYes X6 hx (pc' := 155) (hb hby at_145) ((if0 _ _).trans (flt (by rw [hz]; decide)).2.2.2) (by decide) (by decide) ?_
    show Go p_ e_ below _ _ T6 (mkF m_ 155 #[.val (.int p0), .val (.int p1), .val (.int p2), .val (.int p3), .val (.int p4), .val (.int z), .val (.int c0), .val (.int c1), .val (.int c2), .val (.int c3), .val (.ref b6), .unset] [])
    refine Go.iload X6 hx (hb hby at_155) rfl ?_
    refine Go.iconst X6 hx (1 : Int32) (hb hby at_157) rfl ?_
    refine Go.icmpYes X6 hx (pc' := 168) (hb hby at_158) (flt (by rw [hz]; decide)).2.2.2 (by decide) (by decide) ?_
    show Go p_ e_ below _ _ T6 (mkF m_ 168 #[.val (.int p0), .val (.int p1), .val (.int p2), .val (.int p3), .val (.int p4), .val (.int z), .val (.int c0), .val (.int c1), .val (.int c2), .val (.int c3), .val (.ref b6), .unset] [])
    refine Go.iload X6 hx (hb hby at_168) rfl ?_
    refine Go.iconst X6 hx (2 : Int32) (hb hby at_170) rfl ?_
    refine Go.icmpYes X6 hx (pc' := 181) (hb hby at_171) (flt (by rw [hz]; decide)).2.2.2 (by decide) (by decide) ?_
    show Go p_ e_ below _ _ T6 (mkF m_ 181 #[.val (.int p0), .val (.int p1), .val (.int p2), .val (.int p3), .val (.int p4), .val (.int z), .val (.int c0), .val (.int c1), .val (.int c2), .val (.int c3), .val (.ref b6), .unset] [])
    refine Go.iload X6 hx (hb hby at_181) rfl ?_
    refine Go.iconst X6 hx (3 : Int32) (hb hby at_183) rfl ?_
    refine Go.icmpYes X6 hx (pc' := 198) (hb hby at_184) (flt (by rw [hz]; decide)).2.2.2 (by decide) (by decide) ?_
    show Go p_ e_ below _ _ T6 (mkF m_ 198 #[.val (.int p0), .val (.int p1), .val (.int p2), .val (.int p3), .val (.int p4), .val (.int z), .val (.int c0), .val (.int c1), .val (.int c2), .val (.int c3), .val (.ref b6), .unset] [])
    refine Go.iconst X6 hx (0 : Int32) (hb hby at_198) rfl ?_
    show Go p_ e_ below _ _ T6 (mkF m_ 199 #[.val (.int p0), .val (.int p1), .val (.int p2), .val (.int p3), .val (.int p4), .val (.int z), .val (.int c0), .val (.int c1), .val (.int c2), .val (.int c3), .val (.ref b6), .unset] [(.int (0 : Int32))])
    exact j7 _ _ _ X6 N4 e6 (by rfl)
  · skip
    refine Go.ifYes X4 hx (pc' := 46) (hb hby at_35) ((if0 _ _).trans (feq hc35_5).2) (by decide) (by decide) ?_
    show Go p_ e_ below _ _ T4 (mkF m_ 46 #[.val (.int p0), .val (.int p1), .val (.int p2), .val (.int p3), .val (.int p4), .val (.int z), .val (.int c0), .val (.int c1), .val (.int c2), .val (.int c3), .unset, .unset] [])
    refine Go.iload X4 hx (hb hby at_46) rfl ?_
    refine Go.iconst X4 hx (1 : Int32) (hb hby at_48) rfl ?_
    by_cases hc49_12 : z = (1 : Int32)
    · skip
      refine Go.icmpNo X4 hx (hb hby at_49) (teq hc49_12).2 ?_
      have hz : z = (1 : Int32) := hc49_12
      show Go p_ e_ below _ _ T4 (mkF m_ 52 #[.val (.int p0), .val (.int p1), .val (.int p2), .val (.int p3), .val (.int p4), .val (.int z), .val (.int c0), .val (.int c1), .val (.int c2), .val (.int c3), .unset, .unset] [])
      refine Go.iconst X4 hx (1 : Int32) (hb hby at_52) rfl ?_
      refine Go.newP X4 hx hZ (hw _ (List.mem_of_getElem? (i := 5) rfl)) e4 (hb hby at_53) (by decide) (cap := 1) (by decide) (by decide) (by decide) (by decide) ?_
      intro T13 h13 kc13 b13 zq13 X13 e13 E13 A13
      have g_b13 : n0 ≤ b13 := Nat.le_trans Z0 (Nat.le_of_eq zq13.symm)
      have Z13 : n0 ≤ h13.size := Nat.le_trans Z0 E13.1
      have hk13 : _ ≤ h13.size := Nat.le_trans hk E13.1
      have Q0_b13 : Safe Z own_EL (s_.setVm s_.vm).vm h0 b13 := Safe.new (Nat.le_of_eq zq13.symm)
      have O_13_ := O.ext E13
      have Q13_b13 := Safe.ext E13 HR.1 Q0_b13
      have HR13 := HR.trans (CHr.ext E13 HR.1)
      have V13 : Arv Z h13 b13 kc13 .char (1 : Int32) [(.int (0 : Int32))] (.int (0 : Int32)) := (Arv.new A13 (by decide)).pad (pad_rep [] (.int (0 : Int32)) 1)
      show Go p_ e_ below _ _ T13 (mkF m_ 55 #[.val (.int p0), .val (.int p1), .val (.int p2), .val (.int p3), .val (.int p4), .val (.int z), .val (.int c0), .val (.int c1), .val (.int c2), .val (.int c3), .unset, .unset] [(.ref b13)])
      refine Go.dup X13 hx (hb hby at_55) rfl ?_
      refine Go.iconst X13 hx (0 : Int32) (hb hby at_56) rfl ?_
      refine Go.iload X13 hx (hb hby at_57) rfl ?_
      obtain ⟨cl14, Ar14, q14, S14, M14, H14, G14⟩ := V13
      refine Go.stC X13 hx hZ e13 Ar14 (inb_of S14 ⟨by decide, by decide⟩) (hb hby at_59) ?_
      intro T14 h14 X14 e14 W14
      have N14 := Fr.snoc X14 N4 g_b13
      have V14 : Arv Z h14 b13 kc13 .char (1 : Int32) [(.int (nar .char c0))] (.int (0 : Int32)) := Arv.set Ar14 q14 S14 M14 H14 G14 (fits_nar_char _) W14 0 rfl (Nat.le_of_ble_eq_true rfl)
      rw [own_nar (own_br r_c0)] at V14
      have O_14_ := O_13_.wr W14 g_b13
      have Q14_b13 := Safe.wr W14 Q13_b13 HR13.1 Q13_b13
      have HR14 := HR13.trans (CHr.wr W14 Q13_b13 HR13.1)
      have Z14 : n0 ≤ h14.size := (by rw [W14.size]; exact Z13)
      have hk14 : _ ≤ h14.size := (by rw [W14.size]; exact hk13)
      show Go p_ e_ below _ _ T14 (mkF m_ 60 #[.val (.int p0), .val (.int p1), .val (.int p2), .val (.int p3), .val (.int p4), .val (.int z), .val (.int c0), .val (.int c1), .val (.int c2), .val (.int c3), .unset, .unset] [(.ref b13)])
      refine Go.astore X14 hx (l' := #[.val (.int p0), .val (.int p1), .val (.int p2), .val (.int p3), .val (.int p4), .val (.int z), .val (.int c0), .val (.int c1), .val (.int c2), .val (.int c3), .val (.ref b13), .unset]) (hb hby at_60) rfl rfl ?_
      refine Go.goto X14 hx (pc' := 143) (hb hby at_62) (by decide) (by decide) ?_
      have j15 : ∀ (T16 : State) (l16 : List Loc) (ex : Int32), Stand p_ l e_ room_1 (s_.setVm s_.vm) m_ #[(.int p0), (.int p1), (.int p2), (.int p3), (.int p4)] below meth c_ T16 l16 1 1 → Fr n0 l16 → T16.heap = h14 → (ex = (if c0 = (123 : Int32) then (1 : Int32) else (0 : Int32))) → Go p_ e_ below (HE Z own_EL s_ room_1.cells room_1.slots) (Q0 Z p0 p1 p2 p3 p4 zc h0 n0) T16 (mkF m_ 199 #[.val (.int p0), .val (.int p1), .val (.int p2), .val (.int p3), .val (.int p4), .val (.int z), .val (.int c0), .val (.int c1), .val (.int c2), .val (.int c3), .val (.ref b13), .unset] [(.int ex)]) := by
        intro T16 l16 ex X16 N16 e16  h_ex
        show Go p_ e_ below _ _ T16 (mkF m_ 199 #[.val (.int p0), .val (.int p1), .val (.int p2), .val (.int p3), .val (.int p4), .val (.int z), .val (.int c0), .val (.int c1), .val (.int c2), .val (.int c3), .val (.ref b13), .unset] [(.int ex)])
        refine Go.istore X16 hx (l' := #[.val (.int p0), .val (.int p1), .val (.int p2), .val (.int p3), .val (.int p4), .val (.int z), .val (.int c0), .val (.int c1), .val (.int c2), .val (.int c3), .val (.ref b13), .val (.int ex)]) (hb hby at_199) rfl ?_
        refine Go.newO X16 hx hZ hown (hw _ (List.mem_of_getElem? (i := 6) rfl)) (hw _ (List.mem_of_getElem? (i := 7) rfl)) (hw _ (List.mem_of_getElem? (i := 8) rfl)) e16 (hb hby at_201) (by decide) (by decide) ?_
        intro T17 h17 b17 zq17 X17 e17 E17 A17 D17
        have ne_b13_b17 : b13 ≠ b17 := Nat.ne_of_lt (Nat.lt_of_lt_of_le V14.lt (Nat.le_of_eq zq17.symm))
        have g_b17 : n0 ≤ b17 := Nat.le_trans Z14 (Nat.le_of_eq zq17.symm)
        have Z17 : n0 ≤ h17.size := Nat.le_trans Z14 E17.1
        have hk17 : _ ≤ h17.size := Nat.le_trans hk14 E17.1
        have Q0_b17 : Safe Z own_EL (s_.setVm s_.vm).vm h14 b17 := Safe.new (Nat.le_of_eq zq17.symm)
        have O_17_ := O_14_.ext E17
        have V_17_b13 := V14.ext E17
        have Q17_b13 := Safe.ext E17 HR14.1 Q14_b13
        have Q17_b17 := Safe.ext E17 HR14.1 Q0_b17
        have HR17 := HR14.trans (CHr.ext E17 HR14.1)
        have F_b17_value : Fld Z h17 b17 "java/lang/String" "value" "[B" .null := D17 (Or.inr (hw _ (List.mem_of_getElem? (i := 21) rfl))) (ty := (.array .byte)) (by decide)
        have F_b17_coder : Fld Z h17 b17 "java/lang/String" "coder" "B" (.int (0 : Int32)) := D17 (Or.inr (hw _ (List.mem_of_getElem? (i := 22) rfl))) (ty := .byte) (by decide)
        show Go p_ e_ below _ _ T17 (mkF m_ 204 #[.val (.int p0), .val (.int p1), .val (.int p2), .val (.int p3), .val (.int p4), .val (.int z), .val (.int c0), .val (.int c1), .val (.int c2), .val (.int c3), .val (.ref b13), .val (.int ex)] [(.ref b17)])
        refine Go.dup X17 hx (hb hby at_204) rfl ?_
        refine Go.aload X17 hx (hb hby at_205) rfl rfl ?_
        refine Go.callIB X17 hx hZ (StrChars.Road.backV (W := 1) hZ (own_hwords hw) (kI := 4) (hw _ (List.mem_of_getElem? (i := 7) rfl)) (cs := [c0]) (bs := own_lo [c0]) (n := 1) g_b17 Z17 A17 F_b17_value F_b17_coder V_17_b13 (Sco.ext O_17_.2) hzc rfl rfl (by decide) (by decide) (own_mem1 (P := fun c => ¬ c < 0 ∧ ¬ (255 : Int32) < c) (own_br r_c0)) rfl (by decide) (by decide)) rfl hown (hw _ (List.mem_of_getElem? (i := 9) rfl)) (hw _ (List.mem_of_getElem? (i := 10) rfl)) (hw _ (List.mem_of_getElem? (i := 11) rfl)) (by decide) e17 (a := b17) (by rw [hml]; rfl) (argsL := [(.ref b13)]) (S := [(.ref b17)]) (Nat.le_of_ble_eq_true rfl) (by decide) (by decide) pd_oACcV rfl rfl (hb hby at_207) ?_
        rintro _ T18 L18 X18 ⟨rfl, N18q, K18, E18, C18, t18, kb18, g_t18, zs18, ne18, Fv18, V18⟩
        have N18 := Fr.app N16 N18q
        have ne_b13_t18 : b13 ≠ t18 := Nat.ne_of_lt (Nat.lt_of_lt_of_le V_17_b13.lt zs18)
        have ne_b17_t18 : b17 ≠ t18 := Nat.ne_of_lt (Nat.lt_of_lt_of_le A17.lt zs18)
        have O_18_ := O_17_.keep K18 (allS g_b17 all0)
        have V_18_b13 := V_17_b13.keep K18 (ninS ne_b13_b17 nin0)
        have Q18_b13 := Safe.keep K18 (sfS Q17_b17 sf0) HR17.1 Q17_b13
        have Q18_b17 := Safe.keep K18 (sfS Q17_b17 sf0) HR17.1 Q17_b17
        have HR18 := HR17.trans (CHr.keep K18 (sfS Q17_b17 sf0) HR17.1)
        have Z18 : n0 ≤ T18.heap.size := Nat.le_trans Z17 K18.1
        have hk18 : _ ≤ T18.heap.size := Nat.le_trans hk17 K18.1
        have S_b17 : StrAt Z T18.heap b17 t18 kb18 [c0] := ⟨E18, C18, Fv18, V18⟩
        show Go p_ e_ below _ _ T18 (mkF m_ 210 #[.val (.int p0), .val (.int p1), .val (.int p2), .val (.int p3), .val (.int p4), .val (.int z), .val (.int c0), .val (.int c1), .val (.int c2), .val (.int c3), .val (.ref b13), .val (.int ex)] [(.ref b17)])
        refine Go.callS X18 hx hZ (rm5_1 l Z a0 hw [] b17 t18 kb18 c0 zc T18.heap n0 Z18 O_18_ Sco hzc S_b17 (own_mem1 (P := fun c => ¬ c < 0 ∧ ¬ (255 : Int32) < c) (own_br r_c0))) hown (hw _ (List.mem_of_getElem? (i := 27) rfl)) (hw _ (List.mem_of_getElem? (i := 28) rfl)) (hw _ (List.mem_of_getElem? (i := 29) rfl)) (hw _ (List.mem_of_getElem? (i := 30) rfl)) (by decide) rfl (W := 0) (by rw [hml]; rfl) (argsL := [(.ref b17)]) (S := []) (Nat.le_of_ble_eq_true rfl) (by decide) (by decide) (by decide) (by decide) pd_oLjava_lang_StringcZ rfl rfl (hb hby at_210) ?_
        rintro _ T19 L19 X19 ⟨rfl, N19q, e19⟩
        have N19 := Fr.app N18 N19q
        show Go p_ e_ below _ _ T19 (mkF m_ 213 #[.val (.int p0), .val (.int p1), .val (.int p2), .val (.int p3), .val (.int p4), .val (.int z), .val (.int c0), .val (.int c1), .val (.int c2), .val (.int c3), .val (.ref b13), .val (.int ex)] [(.int (own_f5_1 c0))])
        refine Go.iload X19 hx (hb hby at_213) rfl ?_
        refine Go.icmpNo X19 hx (hb hby at_215) (teq (own_fin1 r_c0 h_ex)).2 ?_
        show Go p_ e_ below _ _ T19 (mkF m_ 218 #[.val (.int p0), .val (.int p1), .val (.int p2), .val (.int p3), .val (.int p4), .val (.int z), .val (.int c0), .val (.int c1), .val (.int c2), .val (.int c3), .val (.ref b13), .val (.int ex)] [])
        refine Go.iconst X19 hx (1 : Int32) (hb hby at_218) rfl ?_
        refine Go.goto X19 hx (pc' := 223) (hb hby at_219) (by decide) (by decide) ?_
        refine Go.retNH X19 hx hS e19 hk18 hZ hEL h00 HR18 hret hlk (by simp) (hb hby at_223) (by decide) (by decide) ?_
        exact ⟨rfl, N19⟩
      refine Go.iload X14 hx (hb hby at_143) rfl ?_
      refine Go.ifNo X14 hx (hb hby at_145) ((if0 _ _).trans (tlt (by rw [hz]; decide)).2.2.2) ?_
      show Go p_ e_ below _ _ T14 (mkF m_ 148 #[.val (.int p0), .val (.int p1), .val (.int p2), .val (.int p3), .val (.int p4), .val (.int z), .val (.int c0), .val (.int c1), .val (.int c2), .val (.int c3), .val (.ref b13), .unset] [])
      refine Go.iload X14 hx (hb hby at_148) rfl ?_
      refine Go.bipush X14 hx (123 : Int32) (hb hby at_150) rfl ?_
      by_cases hc152_20 : c0 = (123 : Int32)
      · skip
        refine Go.icmpYes X14 hx (pc' := 194) (hb hby at_152) (teq hc152_20).1 (by decide) (by decide) ?_
        show Go p_ e_ below _ _ T14 (mkF m_ 194 #[.val (.int p0), .val (.int p1), .val (.int p2), .val (.int p3), .val (.int p4), .val (.int z), .val (.int c0), .val (.int c1), .val (.int c2), .val (.int c3), .val (.ref b13), .unset] [])
        refine Go.iconst X14 hx (1 : Int32) (hb hby at_194) rfl ?_
        refine Go.goto X14 hx (pc' := 199) (hb hby at_195) (by decide) (by decide) ?_
        show Go p_ e_ below _ _ T14 (mkF m_ 199 #[.val (.int p0), .val (.int p1), .val (.int p2), .val (.int p3), .val (.int p4), .val (.int z), .val (.int c0), .val (.int c1), .val (.int c2), .val (.int c3), .val (.ref b13), .unset] [(.int (1 : Int32))])
        exact j15 _ _ _ X14 N14 e14 (by rw [if_pos hc152_20])
      · skip
        refine Go.icmpNo X14 hx (hb hby at_152) (feq hc152_20).1 ?_
        show Go p_ e_ below _ _ T14 (mkF m_ 155 #[.val (.int p0), .val (.int p1), .val (.int p2), .val (.int p3), .val (.int p4), .val (.int z), .val (.int c0), .val (.int c1), .val (.int c2), .val (.int c3), .val (.ref b13), .unset] [])
        refine Go.iload X14 hx (hb hby at_155) rfl ?_
        refine Go.iconst X14 hx (1 : Int32) (hb hby at_157) rfl ?_
        refine Go.icmpYes X14 hx (pc' := 168) (hb hby at_158) (flt (by rw [hz]; decide)).2.2.2 (by decide) (by decide) ?_
        show Go p_ e_ below _ _ T14 (mkF m_ 168 #[.val (.int p0), .val (.int p1), .val (.int p2), .val (.int p3), .val (.int p4), .val (.int z), .val (.int c0), .val (.int c1), .val (.int c2), .val (.int c3), .val (.ref b13), .unset] [])
        refine Go.iload X14 hx (hb hby at_168) rfl ?_
        refine Go.iconst X14 hx (2 : Int32) (hb hby at_170) rfl ?_
        refine Go.icmpYes X14 hx (pc' := 181) (hb hby at_171) (flt (by rw [hz]; decide)).2.2.2 (by decide) (by decide) ?_
        show Go p_ e_ below _ _ T14 (mkF m_ 181 #[.val (.int p0), .val (.int p1), .val (.int p2), .val (.int p3), .val (.int p4), .val (.int z), .val (.int c0), .val (.int c1), .val (.int c2), .val (.int c3), .val (.ref b13), .unset] [])
        refine Go.iload X14 hx (hb hby at_181) rfl ?_
        refine Go.iconst X14 hx (3 : Int32) (hb hby at_183) rfl ?_
        refine Go.icmpYes X14 hx (pc' := 198) (hb hby at_184) (flt (by rw [hz]; decide)).2.2.2 (by decide) (by decide) ?_
        show Go p_ e_ below _ _ T14 (mkF m_ 198 #[.val (.int p0), .val (.int p1), .val (.int p2), .val (.int p3), .val (.int p4), .val (.int z), .val (.int c0), .val (.int c1), .val (.int c2), .val (.int c3), .val (.ref b13), .unset] [])
        refine Go.iconst X14 hx (0 : Int32) (hb hby at_198) rfl ?_
        show Go p_ e_ below _ _ T14 (mkF m_ 199 #[.val (.int p0), .val (.int p1), .val (.int p2), .val (.int p3), .val (.int p4), .val (.int z), .val (.int c0), .val (.int c1), .val (.int c2), .val (.int c3), .val (.ref b13), .unset] [(.int (0 : Int32))])
        exact j15 _ _ _ X14 N14 e14 (by rw [if_neg hc152_20])
    · skip
      refine Go.icmpYes X4 hx (pc' := 65) (hb hby at_49) (feq hc49_12).2 (by decide) (by decide) ?_
      show Go p_ e_ below _ _ T4 (mkF m_ 65 #[.val (.int p0), .val (.int p1), .val (.int p2), .val (.int p3), .val (.int p4), .val (.int z), .val (.int c0), .val (.int c1), .val (.int c2), .val (.int c3), .unset, .unset] [])
      refine Go.iload X4 hx (hb hby at_65) rfl ?_
      refine Go.iconst X4 hx (2 : Int32) (hb hby at_67) rfl ?_
      by_cases hc68_21 : z = (2 : Int32)
      · skip
        refine Go.icmpNo X4 hx (hb hby at_68) (teq hc68_21).2 ?_
        have hz : z = (2 : Int32) := hc68_21
        show Go p_ e_ below _ _ T4 (mkF m_ 71 #[.val (.int p0), .val (.int p1), .val (.int p2), .val (.int p3), .val (.int p4), .val (.int z), .val (.int c0), .val (.int c1), .val (.int c2), .val (.int c3), .unset, .unset] [])
        refine Go.iconst X4 hx (2 : Int32) (hb hby at_71) rfl ?_
        refine Go.newP X4 hx hZ (hw _ (List.mem_of_getElem? (i := 5) rfl)) e4 (hb hby at_72) (by decide) (cap := 2) (by decide) (by decide) (by decide) (by decide) ?_
        intro T22 h22 kc22 b22 zq22 X22 e22 E22 A22
        have g_b22 : n0 ≤ b22 := Nat.le_trans Z0 (Nat.le_of_eq zq22.symm)
        have Z22 : n0 ≤ h22.size := Nat.le_trans Z0 E22.1
        have hk22 : _ ≤ h22.size := Nat.le_trans hk E22.1
        have Q0_b22 : Safe Z own_EL (s_.setVm s_.vm).vm h0 b22 := Safe.new (Nat.le_of_eq zq22.symm)
        have O_22_ := O.ext E22
        have Q22_b22 := Safe.ext E22 HR.1 Q0_b22
        have HR22 := HR.trans (CHr.ext E22 HR.1)
        have V22 : Arv Z h22 b22 kc22 .char (2 : Int32) [(.int (0 : Int32)), (.int (0 : Int32))] (.int (0 : Int32)) := (Arv.new A22 (by decide)).pad (pad_rep [] (.int (0 : Int32)) 2)
        show Go p_ e_ below _ _ T22 (mkF m_ 74 #[.val (.int p0), .val (.int p1), .val (.int p2), .val (.int p3), .val (.int p4), .val (.int z), .val (.int c0), .val (.int c1), .val (.int c2), .val (.int c3), .unset, .unset] [(.ref b22)])
        refine Go.dup X22 hx (hb hby at_74) rfl ?_
        refine Go.iconst X22 hx (0 : Int32) (hb hby at_75) rfl ?_
        refine Go.iload X22 hx (hb hby at_76) rfl ?_
        obtain ⟨cl23, Ar23, q23, S23, M23, H23, G23⟩ := V22
        refine Go.stC X22 hx hZ e22 Ar23 (inb_of S23 ⟨by decide, by decide⟩) (hb hby at_78) ?_
        intro T23 h23 X23 e23 W23
        have N23 := Fr.snoc X23 N4 g_b22
        have V23 : Arv Z h23 b22 kc22 .char (2 : Int32) [(.int (nar .char c0)), (.int (0 : Int32))] (.int (0 : Int32)) := Arv.set Ar23 q23 S23 M23 H23 G23 (fits_nar_char _) W23 0 rfl (Nat.le_of_ble_eq_true rfl)
        rw [own_nar (own_br r_c0)] at V23
        have O_23_ := O_22_.wr W23 g_b22
        have Q23_b22 := Safe.wr W23 Q22_b22 HR22.1 Q22_b22
        have HR23 := HR22.trans (CHr.wr W23 Q22_b22 HR22.1)
        have Z23 : n0 ≤ h23.size := (by rw [W23.size]; exact Z22)
        have hk23 : _ ≤ h23.size := (by rw [W23.size]; exact hk22)
        show Go p_ e_ below _ _ T23 (mkF m_ 79 #[.val (.int p0), .val (.int p1), .val (.int p2), .val (.int p3), .val (.int p4), .val (.int z), .val (.int c0), .val (.int c1), .val (.int c2), .val (.int c3), .unset, .unset] [(.ref b22)])
        refine Go.dup X23 hx (hb hby at_79) rfl ?_
        refine Go.iconst X23 hx (1 : Int32) (hb hby at_80) rfl ?_
        refine Go.iload X23 hx (hb hby at_81) rfl ?_
        obtain ⟨cl24, Ar24, q24, S24, M24, H24, G24⟩ := V23
        refine Go.stC X23 hx hZ e23 Ar24 (inb_of S24 ⟨by decide, by decide⟩) (hb hby at_83) ?_
        intro T24 h24 X24 e24 W24
        have N24 := Fr.snoc X24 N23 g_b22
        have V24 : Arv Z h24 b22 kc22 .char (2 : Int32) [(.int c0), (.int (nar .char c1))] (.int (0 : Int32)) := Arv.set Ar24 q24 S24 M24 H24 G24 (fits_nar_char _) W24 1 rfl (Nat.le_of_ble_eq_true rfl)
        rw [own_nar (own_br r_c1)] at V24
        have O_24_ := O_23_.wr W24 g_b22
        have Q24_b22 := Safe.wr W24 Q23_b22 HR23.1 Q23_b22
        have HR24 := HR23.trans (CHr.wr W24 Q23_b22 HR23.1)
        have Z24 : n0 ≤ h24.size := (by rw [W24.size]; exact Z23)
        have hk24 : _ ≤ h24.size := (by rw [W24.size]; exact hk23)
        show Go p_ e_ below _ _ T24 (mkF m_ 84 #[.val (.int p0), .val (.int p1), .val (.int p2), .val (.int p3), .val (.int p4), .val (.int z), .val (.int c0), .val (.int c1), .val (.int c2), .val (.int c3), .unset, .unset] [(.ref b22)])
        refine Go.astore X24 hx (l' := #[.val (.int p0), .val (.int p1), .val (.int p2), .val (.int p3), .val (.int p4), .val (.int z), .val (.int c0), .val (.int c1), .val (.int c2), .val (.int c3), .val (.ref b22), .unset]) (hb hby at_84) rfl rfl ?_
        refine Go.goto X24 hx (pc' := 143) (hb hby at_86) (by decide) (by decide) ?_
        have j25 : ∀ (T26 : State) (l26 : List Loc) (ex : Int32), Stand p_ l e_ room_1 (s_.setVm s_.vm) m_ #[(.int p0), (.int p1), (.int p2), (.int p3), (.int p4)] below meth c_ T26 l26 1 2 → Fr n0 l26 → T26.heap = h24 → (ex = (if c0 = (123 : Int32) then (1 : Int32) else (if c1 = (123 : Int32) then (1 : Int32) else (0 : Int32)))) → Go p_ e_ below (HE Z own_EL s_ room_1.cells room_1.slots) (Q0 Z p0 p1 p2 p3 p4 zc h0 n0) T26 (mkF m_ 199 #[.val (.int p0), .val (.int p1), .val (.int p2), .val (.int p3), .val (.int p4), .val (.int z), .val (.int c0), .val (.int c1), .val (.int c2), .val (.int c3), .val (.ref b22), .unset] [(.int ex)]) := by
          intro T26 l26 ex X26 N26 e26  h_ex
          show Go p_ e_ below _ _ T26 (mkF m_ 199 #[.val (.int p0), .val (.int p1), .val (.int p2), .val (.int p3), .val (.int p4), .val (.int z), .val (.int c0), .val (.int c1), .val (.int c2), .val (.int c3), .val (.ref b22), .unset] [(.int ex)])
          refine Go.istore X26 hx (l' := #[.val (.int p0), .val (.int p1), .val (.int p2), .val (.int p3), .val (.int p4), .val (.int z), .val (.int c0), .val (.int c1), .val (.int c2), .val (.int c3), .val (.ref b22), .val (.int ex)]) (hb hby at_199) rfl ?_
          refine Go.newO X26 hx hZ hown (hw _ (List.mem_of_getElem? (i := 6) rfl)) (hw _ (List.mem_of_getElem? (i := 7) rfl)) (hw _ (List.mem_of_getElem? (i := 8) rfl)) e26 (hb hby at_201) (by decide) (by decide) ?_
          intro T27 h27 b27 zq27 X27 e27 E27 A27 D27
          have ne_b22_b27 : b22 ≠ b27 := Nat.ne_of_lt (Nat.lt_of_lt_of_le V24.lt (Nat.le_of_eq zq27.symm))
          have g_b27 : n0 ≤ b27 := Nat.le_trans Z24 (Nat.le_of_eq zq27.symm)
          have Z27 : n0 ≤ h27.size := Nat.le_trans Z24 E27.1
          have hk27 : _ ≤ h27.size := Nat.le_trans hk24 E27.1
          have Q0_b27 : Safe Z own_EL (s_.setVm s_.vm).vm h24 b27 := Safe.new (Nat.le_of_eq zq27.symm)
          have O_27_ := O_24_.ext E27
          have V_27_b22 := V24.ext E27
          have Q27_b22 := Safe.ext E27 HR24.1 Q24_b22
          have Q27_b27 := Safe.ext E27 HR24.1 Q0_b27
          have HR27 := HR24.trans (CHr.ext E27 HR24.1)
          have F_b27_value : Fld Z h27 b27 "java/lang/String" "value" "[B" .null := D27 (Or.inr (hw _ (List.mem_of_getElem? (i := 21) rfl))) (ty := (.array .byte)) (by decide)
          have F_b27_coder : Fld Z h27 b27 "java/lang/String" "coder" "B" (.int (0 : Int32)) := D27 (Or.inr (hw _ (List.mem_of_getElem? (i := 22) rfl))) (ty := .byte) (by decide)
          show Go p_ e_ below _ _ T27 (mkF m_ 204 #[.val (.int p0), .val (.int p1), .val (.int p2), .val (.int p3), .val (.int p4), .val (.int z), .val (.int c0), .val (.int c1), .val (.int c2), .val (.int c3), .val (.ref b22), .val (.int ex)] [(.ref b27)])
          refine Go.dup X27 hx (hb hby at_204) rfl ?_
          refine Go.aload X27 hx (hb hby at_205) rfl rfl ?_
          refine Go.callIB X27 hx hZ (StrChars.Road.backV (W := 1) hZ (own_hwords hw) (kI := 4) (hw _ (List.mem_of_getElem? (i := 7) rfl)) (cs := [c0, c1]) (bs := own_lo [c0, c1]) (n := 2) g_b27 Z27 A27 F_b27_value F_b27_coder V_27_b22 (Sco.ext O_27_.2) hzc rfl rfl (by decide) (by decide) (own_mem2 (P := fun c => ¬ c < 0 ∧ ¬ (255 : Int32) < c) (own_br r_c0) (own_br r_c1)) rfl (by decide) (by decide)) rfl hown (hw _ (List.mem_of_getElem? (i := 9) rfl)) (hw _ (List.mem_of_getElem? (i := 10) rfl)) (hw _ (List.mem_of_getElem? (i := 11) rfl)) (by decide) e27 (a := b27) (by rw [hml]; rfl) (argsL := [(.ref b22)]) (S := [(.ref b27)]) (Nat.le_of_ble_eq_true rfl) (by decide) (by decide) pd_oACcV rfl rfl (hb hby at_207) ?_
          rintro _ T28 L28 X28 ⟨rfl, N28q, K28, E28, C28, t28, kb28, g_t28, zs28, ne28, Fv28, V28⟩
          have N28 := Fr.app N26 N28q
          have ne_b22_t28 : b22 ≠ t28 := Nat.ne_of_lt (Nat.lt_of_lt_of_le V_27_b22.lt zs28)
          have ne_b27_t28 : b27 ≠ t28 := Nat.ne_of_lt (Nat.lt_of_lt_of_le A27.lt zs28)
          have O_28_ := O_27_.keep K28 (allS g_b27 all0)
          have V_28_b22 := V_27_b22.keep K28 (ninS ne_b22_b27 nin0)
          have Q28_b22 := Safe.keep K28 (sfS Q27_b27 sf0) HR27.1 Q27_b22
          have Q28_b27 := Safe.keep K28 (sfS Q27_b27 sf0) HR27.1 Q27_b27
          have HR28 := HR27.trans (CHr.keep K28 (sfS Q27_b27 sf0) HR27.1)
          have Z28 : n0 ≤ T28.heap.size := Nat.le_trans Z27 K28.1
          have hk28 : _ ≤ T28.heap.size := Nat.le_trans hk27 K28.1
          have S_b27 : StrAt Z T28.heap b27 t28 kb28 [c0, c1] := ⟨E28, C28, Fv28, V28⟩
          show Go p_ e_ below _ _ T28 (mkF m_ 210 #[.val (.int p0), .val (.int p1), .val (.int p2), .val (.int p3), .val (.int p4), .val (.int z), .val (.int c0), .val (.int c1), .val (.int c2), .val (.int c3), .val (.ref b22), .val (.int ex)] [(.ref b27)])
          refine Go.callS X28 hx hZ (rm5_2 l Z a0 hw [] b27 t28 kb28 c0 c1 zc T28.heap n0 Z28 O_28_ Sco hzc S_b27 (own_mem2 (P := fun c => ¬ c < 0 ∧ ¬ (255 : Int32) < c) (own_br r_c0) (own_br r_c1))) hown (hw _ (List.mem_of_getElem? (i := 27) rfl)) (hw _ (List.mem_of_getElem? (i := 28) rfl)) (hw _ (List.mem_of_getElem? (i := 29) rfl)) (hw _ (List.mem_of_getElem? (i := 30) rfl)) (by decide) rfl (W := 0) (by rw [hml]; rfl) (argsL := [(.ref b27)]) (S := []) (Nat.le_of_ble_eq_true rfl) (by decide) (by decide) (by decide) (by decide) pd_oLjava_lang_StringcZ rfl rfl (hb hby at_210) ?_
          rintro _ T29 L29 X29 ⟨rfl, N29q, e29⟩
          have N29 := Fr.app N28 N29q
          show Go p_ e_ below _ _ T29 (mkF m_ 213 #[.val (.int p0), .val (.int p1), .val (.int p2), .val (.int p3), .val (.int p4), .val (.int z), .val (.int c0), .val (.int c1), .val (.int c2), .val (.int c3), .val (.ref b22), .val (.int ex)] [(.int (own_f5_2 c0 c1))])
          refine Go.iload X29 hx (hb hby at_213) rfl ?_
          refine Go.icmpNo X29 hx (hb hby at_215) (teq (own_fin2 r_c0 r_c1 h_ex)).2 ?_
          show Go p_ e_ below _ _ T29 (mkF m_ 218 #[.val (.int p0), .val (.int p1), .val (.int p2), .val (.int p3), .val (.int p4), .val (.int z), .val (.int c0), .val (.int c1), .val (.int c2), .val (.int c3), .val (.ref b22), .val (.int ex)] [])
          refine Go.iconst X29 hx (1 : Int32) (hb hby at_218) rfl ?_
          refine Go.goto X29 hx (pc' := 223) (hb hby at_219) (by decide) (by decide) ?_
          refine Go.retNH X29 hx hS e29 hk28 hZ hEL h00 HR28 hret hlk (by simp) (hb hby at_223) (by decide) (by decide) ?_
          exact ⟨rfl, N29⟩
        refine Go.iload X24 hx (hb hby at_143) rfl ?_
        refine Go.ifNo X24 hx (hb hby at_145) ((if0 _ _).trans (tlt (by rw [hz]; decide)).2.2.2) ?_
        show Go p_ e_ below _ _ T24 (mkF m_ 148 #[.val (.int p0), .val (.int p1), .val (.int p2), .val (.int p3), .val (.int p4), .val (.int z), .val (.int c0), .val (.int c1), .val (.int c2), .val (.int c3), .val (.ref b22), .unset] [])
        refine Go.iload X24 hx (hb hby at_148) rfl ?_
        refine Go.bipush X24 hx (123 : Int32) (hb hby at_150) rfl ?_
        by_cases hc152_30 : c0 = (123 : Int32)
        · skip
          refine Go.icmpYes X24 hx (pc' := 194) (hb hby at_152) (teq hc152_30).1 (by decide) (by decide) ?_
          show Go p_ e_ below _ _ T24 (mkF m_ 194 #[.val (.int p0), .val (.int p1), .val (.int p2), .val (.int p3), .val (.int p4), .val (.int z), .val (.int c0), .val (.int c1), .val (.int c2), .val (.int c3), .val (.ref b22), .unset] [])
          refine Go.iconst X24 hx (1 : Int32) (hb hby at_194) rfl ?_
          refine Go.goto X24 hx (pc' := 199) (hb hby at_195) (by decide) (by decide) ?_
          show Go p_ e_ below _ _ T24 (mkF m_ 199 #[.val (.int p0), .val (.int p1), .val (.int p2), .val (.int p3), .val (.int p4), .val (.int z), .val (.int c0), .val (.int c1), .val (.int c2), .val (.int c3), .val (.ref b22), .unset] [(.int (1 : Int32))])
          exact j25 _ _ _ X24 N24 e24 (by rw [if_pos hc152_30])
        · skip
          refine Go.icmpNo X24 hx (hb hby at_152) (feq hc152_30).1 ?_
          show Go p_ e_ below _ _ T24 (mkF m_ 155 #[.val (.int p0), .val (.int p1), .val (.int p2), .val (.int p3), .val (.int p4), .val (.int z), .val (.int c0), .val (.int c1), .val (.int c2), .val (.int c3), .val (.ref b22), .unset] [])
          refine Go.iload X24 hx (hb hby at_155) rfl ?_
          refine Go.iconst X24 hx (1 : Int32) (hb hby at_157) rfl ?_
          refine Go.icmpNo X24 hx (hb hby at_158) (tlt (by rw [hz]; decide)).2.2.2 ?_
          show Go p_ e_ below _ _ T24 (mkF m_ 161 #[.val (.int p0), .val (.int p1), .val (.int p2), .val (.int p3), .val (.int p4), .val (.int z), .val (.int c0), .val (.int c1), .val (.int c2), .val (.int c3), .val (.ref b22), .unset] [])
          refine Go.iload X24 hx (hb hby at_161) rfl ?_
          refine Go.bipush X24 hx (123 : Int32) (hb hby at_163) rfl ?_
          by_cases hc165_31 : c1 = (123 : Int32)
          · skip
            refine Go.icmpYes X24 hx (pc' := 194) (hb hby at_165) (teq hc165_31).1 (by decide) (by decide) ?_
            show Go p_ e_ below _ _ T24 (mkF m_ 194 #[.val (.int p0), .val (.int p1), .val (.int p2), .val (.int p3), .val (.int p4), .val (.int z), .val (.int c0), .val (.int c1), .val (.int c2), .val (.int c3), .val (.ref b22), .unset] [])
            refine Go.iconst X24 hx (1 : Int32) (hb hby at_194) rfl ?_
            refine Go.goto X24 hx (pc' := 199) (hb hby at_195) (by decide) (by decide) ?_
            show Go p_ e_ below _ _ T24 (mkF m_ 199 #[.val (.int p0), .val (.int p1), .val (.int p2), .val (.int p3), .val (.int p4), .val (.int z), .val (.int c0), .val (.int c1), .val (.int c2), .val (.int c3), .val (.ref b22), .unset] [(.int (1 : Int32))])
            exact j25 _ _ _ X24 N24 e24 (by rw [if_neg hc152_30, if_pos hc165_31])
          · skip
            refine Go.icmpNo X24 hx (hb hby at_165) (feq hc165_31).1 ?_
            show Go p_ e_ below _ _ T24 (mkF m_ 168 #[.val (.int p0), .val (.int p1), .val (.int p2), .val (.int p3), .val (.int p4), .val (.int z), .val (.int c0), .val (.int c1), .val (.int c2), .val (.int c3), .val (.ref b22), .unset] [])
            refine Go.iload X24 hx (hb hby at_168) rfl ?_
            refine Go.iconst X24 hx (2 : Int32) (hb hby at_170) rfl ?_
            refine Go.icmpYes X24 hx (pc' := 181) (hb hby at_171) (flt (by rw [hz]; decide)).2.2.2 (by decide) (by decide) ?_
            show Go p_ e_ below _ _ T24 (mkF m_ 181 #[.val (.int p0), .val (.int p1), .val (.int p2), .val (.int p3), .val (.int p4), .val (.int z), .val (.int c0), .val (.int c1), .val (.int c2), .val (.int c3), .val (.ref b22), .unset] [])
            refine Go.iload X24 hx (hb hby at_181) rfl ?_
            refine Go.iconst X24 hx (3 : Int32) (hb hby at_183) rfl ?_
            refine Go.icmpYes X24 hx (pc' := 198) (hb hby at_184) (flt (by rw [hz]; decide)).2.2.2 (by decide) (by decide) ?_
            show Go p_ e_ below _ _ T24 (mkF m_ 198 #[.val (.int p0), .val (.int p1), .val (.int p2), .val (.int p3), .val (.int p4), .val (.int z), .val (.int c0), .val (.int c1), .val (.int c2), .val (.int c3), .val (.ref b22), .unset] [])
            refine Go.iconst X24 hx (0 : Int32) (hb hby at_198) rfl ?_
            show Go p_ e_ below _ _ T24 (mkF m_ 199 #[.val (.int p0), .val (.int p1), .val (.int p2), .val (.int p3), .val (.int p4), .val (.int z), .val (.int c0), .val (.int c1), .val (.int c2), .val (.int c3), .val (.ref b22), .unset] [(.int (0 : Int32))])
            exact j25 _ _ _ X24 N24 e24 (by rw [if_neg hc152_30, if_neg hc165_31])
      · skip
        refine Go.icmpYes X4 hx (pc' := 89) (hb hby at_68) (feq hc68_21).2 (by decide) (by decide) ?_
        show Go p_ e_ below _ _ T4 (mkF m_ 89 #[.val (.int p0), .val (.int p1), .val (.int p2), .val (.int p3), .val (.int p4), .val (.int z), .val (.int c0), .val (.int c1), .val (.int c2), .val (.int c3), .unset, .unset] [])
        refine Go.iload X4 hx (hb hby at_89) rfl ?_
        refine Go.iconst X4 hx (3 : Int32) (hb hby at_91) rfl ?_
        by_cases hc92_32 : z = (3 : Int32)
        · skip
          refine Go.icmpNo X4 hx (hb hby at_92) (teq hc92_32).2 ?_
          have hz : z = (3 : Int32) := hc92_32
          show Go p_ e_ below _ _ T4 (mkF m_ 95 #[.val (.int p0), .val (.int p1), .val (.int p2), .val (.int p3), .val (.int p4), .val (.int z), .val (.int c0), .val (.int c1), .val (.int c2), .val (.int c3), .unset, .unset] [])
          refine Go.iconst X4 hx (3 : Int32) (hb hby at_95) rfl ?_
          refine Go.newP X4 hx hZ (hw _ (List.mem_of_getElem? (i := 5) rfl)) e4 (hb hby at_96) (by decide) (cap := 3) (by decide) (by decide) (by decide) (by decide) ?_
          intro T33 h33 kc33 b33 zq33 X33 e33 E33 A33
          have g_b33 : n0 ≤ b33 := Nat.le_trans Z0 (Nat.le_of_eq zq33.symm)
          have Z33 : n0 ≤ h33.size := Nat.le_trans Z0 E33.1
          have hk33 : _ ≤ h33.size := Nat.le_trans hk E33.1
          have Q0_b33 : Safe Z own_EL (s_.setVm s_.vm).vm h0 b33 := Safe.new (Nat.le_of_eq zq33.symm)
          have O_33_ := O.ext E33
          have Q33_b33 := Safe.ext E33 HR.1 Q0_b33
          have HR33 := HR.trans (CHr.ext E33 HR.1)
          have V33 : Arv Z h33 b33 kc33 .char (3 : Int32) [(.int (0 : Int32)), (.int (0 : Int32)), (.int (0 : Int32))] (.int (0 : Int32)) := (Arv.new A33 (by decide)).pad (pad_rep [] (.int (0 : Int32)) 3)
          show Go p_ e_ below _ _ T33 (mkF m_ 98 #[.val (.int p0), .val (.int p1), .val (.int p2), .val (.int p3), .val (.int p4), .val (.int z), .val (.int c0), .val (.int c1), .val (.int c2), .val (.int c3), .unset, .unset] [(.ref b33)])
          refine Go.dup X33 hx (hb hby at_98) rfl ?_
          refine Go.iconst X33 hx (0 : Int32) (hb hby at_99) rfl ?_
          refine Go.iload X33 hx (hb hby at_100) rfl ?_
          obtain ⟨cl34, Ar34, q34, S34, M34, H34, G34⟩ := V33
          refine Go.stC X33 hx hZ e33 Ar34 (inb_of S34 ⟨by decide, by decide⟩) (hb hby at_102) ?_
          intro T34 h34 X34 e34 W34
          have N34 := Fr.snoc X34 N4 g_b33
          have V34 : Arv Z h34 b33 kc33 .char (3 : Int32) [(.int (nar .char c0)), (.int (0 : Int32)), (.int (0 : Int32))] (.int (0 : Int32)) := Arv.set Ar34 q34 S34 M34 H34 G34 (fits_nar_char _) W34 0 rfl (Nat.le_of_ble_eq_true rfl)
          rw [own_nar (own_br r_c0)] at V34
          have O_34_ := O_33_.wr W34 g_b33
          have Q34_b33 := Safe.wr W34 Q33_b33 HR33.1 Q33_b33
          have HR34 := HR33.trans (CHr.wr W34 Q33_b33 HR33.1)
          have Z34 : n0 ≤ h34.size := (by rw [W34.size]; exact Z33)
          have hk34 : _ ≤ h34.size := (by rw [W34.size]; exact hk33)
          show Go p_ e_ below _ _ T34 (mkF m_ 103 #[.val (.int p0), .val (.int p1), .val (.int p2), .val (.int p3), .val (.int p4), .val (.int z), .val (.int c0), .val (.int c1), .val (.int c2), .val (.int c3), .unset, .unset] [(.ref b33)])
          refine Go.dup X34 hx (hb hby at_103) rfl ?_
          refine Go.iconst X34 hx (1 : Int32) (hb hby at_104) rfl ?_
          refine Go.iload X34 hx (hb hby at_105) rfl ?_
          obtain ⟨cl35, Ar35, q35, S35, M35, H35, G35⟩ := V34
          refine Go.stC X34 hx hZ e34 Ar35 (inb_of S35 ⟨by decide, by decide⟩) (hb hby at_107) ?_
          intro T35 h35 X35 e35 W35
          have N35 := Fr.snoc X35 N34 g_b33
          have V35 : Arv Z h35 b33 kc33 .char (3 : Int32) [(.int c0), (.int (nar .char c1)), (.int (0 : Int32))] (.int (0 : Int32)) := Arv.set Ar35 q35 S35 M35 H35 G35 (fits_nar_char _) W35 1 rfl (Nat.le_of_ble_eq_true rfl)
          rw [own_nar (own_br r_c1)] at V35
          have O_35_ := O_34_.wr W35 g_b33
          have Q35_b33 := Safe.wr W35 Q34_b33 HR34.1 Q34_b33
          have HR35 := HR34.trans (CHr.wr W35 Q34_b33 HR34.1)
          have Z35 : n0 ≤ h35.size := (by rw [W35.size]; exact Z34)
          have hk35 : _ ≤ h35.size := (by rw [W35.size]; exact hk34)
          show Go p_ e_ below _ _ T35 (mkF m_ 108 #[.val (.int p0), .val (.int p1), .val (.int p2), .val (.int p3), .val (.int p4), .val (.int z), .val (.int c0), .val (.int c1), .val (.int c2), .val (.int c3), .unset, .unset] [(.ref b33)])
          refine Go.dup X35 hx (hb hby at_108) rfl ?_
          refine Go.iconst X35 hx (2 : Int32) (hb hby at_109) rfl ?_
          refine Go.iload X35 hx (hb hby at_110) rfl ?_
          obtain ⟨cl36, Ar36, q36, S36, M36, H36, G36⟩ := V35
          refine Go.stC X35 hx hZ e35 Ar36 (inb_of S36 ⟨by decide, by decide⟩) (hb hby at_112) ?_
          intro T36 h36 X36 e36 W36
          have N36 := Fr.snoc X36 N35 g_b33
          have V36 : Arv Z h36 b33 kc33 .char (3 : Int32) [(.int c0), (.int c1), (.int (nar .char c2))] (.int (0 : Int32)) := Arv.set Ar36 q36 S36 M36 H36 G36 (fits_nar_char _) W36 2 rfl (Nat.le_of_ble_eq_true rfl)
          rw [own_nar (own_br r_c2)] at V36
          have O_36_ := O_35_.wr W36 g_b33
          have Q36_b33 := Safe.wr W36 Q35_b33 HR35.1 Q35_b33
          have HR36 := HR35.trans (CHr.wr W36 Q35_b33 HR35.1)
          have Z36 : n0 ≤ h36.size := (by rw [W36.size]; exact Z35)
          have hk36 : _ ≤ h36.size := (by rw [W36.size]; exact hk35)
          show Go p_ e_ below _ _ T36 (mkF m_ 113 #[.val (.int p0), .val (.int p1), .val (.int p2), .val (.int p3), .val (.int p4), .val (.int z), .val (.int c0), .val (.int c1), .val (.int c2), .val (.int c3), .unset, .unset] [(.ref b33)])
          refine Go.astore X36 hx (l' := #[.val (.int p0), .val (.int p1), .val (.int p2), .val (.int p3), .val (.int p4), .val (.int z), .val (.int c0), .val (.int c1), .val (.int c2), .val (.int c3), .val (.ref b33), .unset]) (hb hby at_113) rfl rfl ?_
          refine Go.goto X36 hx (pc' := 143) (hb hby at_115) (by decide) (by decide) ?_
          have j37 : ∀ (T38 : State) (l38 : List Loc) (ex : Int32), Stand p_ l e_ room_1 (s_.setVm s_.vm) m_ #[(.int p0), (.int p1), (.int p2), (.int p3), (.int p4)] below meth c_ T38 l38 1 3 → Fr n0 l38 → T38.heap = h36 → (ex = (if c0 = (123 : Int32) then (1 : Int32) else (if c1 = (123 : Int32) then (1 : Int32) else (if c2 = (123 : Int32) then (1 : Int32) else (0 : Int32))))) → Go p_ e_ below (HE Z own_EL s_ room_1.cells room_1.slots) (Q0 Z p0 p1 p2 p3 p4 zc h0 n0) T38 (mkF m_ 199 #[.val (.int p0), .val (.int p1), .val (.int p2), .val (.int p3), .val (.int p4), .val (.int z), .val (.int c0), .val (.int c1), .val (.int c2), .val (.int c3), .val (.ref b33), .unset] [(.int ex)]) := by
            intro T38 l38 ex X38 N38 e38  h_ex
            show Go p_ e_ below _ _ T38 (mkF m_ 199 #[.val (.int p0), .val (.int p1), .val (.int p2), .val (.int p3), .val (.int p4), .val (.int z), .val (.int c0), .val (.int c1), .val (.int c2), .val (.int c3), .val (.ref b33), .unset] [(.int ex)])
            refine Go.istore X38 hx (l' := #[.val (.int p0), .val (.int p1), .val (.int p2), .val (.int p3), .val (.int p4), .val (.int z), .val (.int c0), .val (.int c1), .val (.int c2), .val (.int c3), .val (.ref b33), .val (.int ex)]) (hb hby at_199) rfl ?_
            refine Go.newO X38 hx hZ hown (hw _ (List.mem_of_getElem? (i := 6) rfl)) (hw _ (List.mem_of_getElem? (i := 7) rfl)) (hw _ (List.mem_of_getElem? (i := 8) rfl)) e38 (hb hby at_201) (by decide) (by decide) ?_
            intro T39 h39 b39 zq39 X39 e39 E39 A39 D39
            have ne_b33_b39 : b33 ≠ b39 := Nat.ne_of_lt (Nat.lt_of_lt_of_le V36.lt (Nat.le_of_eq zq39.symm))
            have g_b39 : n0 ≤ b39 := Nat.le_trans Z36 (Nat.le_of_eq zq39.symm)
            have Z39 : n0 ≤ h39.size := Nat.le_trans Z36 E39.1
            have hk39 : _ ≤ h39.size := Nat.le_trans hk36 E39.1
            have Q0_b39 : Safe Z own_EL (s_.setVm s_.vm).vm h36 b39 := Safe.new (Nat.le_of_eq zq39.symm)
            have O_39_ := O_36_.ext E39
            have V_39_b33 := V36.ext E39
            have Q39_b33 := Safe.ext E39 HR36.1 Q36_b33
            have Q39_b39 := Safe.ext E39 HR36.1 Q0_b39
            have HR39 := HR36.trans (CHr.ext E39 HR36.1)
            have F_b39_value : Fld Z h39 b39 "java/lang/String" "value" "[B" .null := D39 (Or.inr (hw _ (List.mem_of_getElem? (i := 21) rfl))) (ty := (.array .byte)) (by decide)
            have F_b39_coder : Fld Z h39 b39 "java/lang/String" "coder" "B" (.int (0 : Int32)) := D39 (Or.inr (hw _ (List.mem_of_getElem? (i := 22) rfl))) (ty := .byte) (by decide)
            show Go p_ e_ below _ _ T39 (mkF m_ 204 #[.val (.int p0), .val (.int p1), .val (.int p2), .val (.int p3), .val (.int p4), .val (.int z), .val (.int c0), .val (.int c1), .val (.int c2), .val (.int c3), .val (.ref b33), .val (.int ex)] [(.ref b39)])
            refine Go.dup X39 hx (hb hby at_204) rfl ?_
            refine Go.aload X39 hx (hb hby at_205) rfl rfl ?_
            refine Go.callIB X39 hx hZ (StrChars.Road.backV (W := 1) hZ (own_hwords hw) (kI := 4) (hw _ (List.mem_of_getElem? (i := 7) rfl)) (cs := [c0, c1, c2]) (bs := own_lo [c0, c1, c2]) (n := 3) g_b39 Z39 A39 F_b39_value F_b39_coder V_39_b33 (Sco.ext O_39_.2) hzc rfl rfl (by decide) (by decide) (own_mem3 (P := fun c => ¬ c < 0 ∧ ¬ (255 : Int32) < c) (own_br r_c0) (own_br r_c1) (own_br r_c2)) rfl (by decide) (by decide)) rfl hown (hw _ (List.mem_of_getElem? (i := 9) rfl)) (hw _ (List.mem_of_getElem? (i := 10) rfl)) (hw _ (List.mem_of_getElem? (i := 11) rfl)) (by decide) e39 (a := b39) (by rw [hml]; rfl) (argsL := [(.ref b33)]) (S := [(.ref b39)]) (Nat.le_of_ble_eq_true rfl) (by decide) (by decide) pd_oACcV rfl rfl (hb hby at_207) ?_
            rintro _ T40 L40 X40 ⟨rfl, N40q, K40, E40, C40, t40, kb40, g_t40, zs40, ne40, Fv40, V40⟩
            have N40 := Fr.app N38 N40q
            have ne_b33_t40 : b33 ≠ t40 := Nat.ne_of_lt (Nat.lt_of_lt_of_le V_39_b33.lt zs40)
            have ne_b39_t40 : b39 ≠ t40 := Nat.ne_of_lt (Nat.lt_of_lt_of_le A39.lt zs40)
            have O_40_ := O_39_.keep K40 (allS g_b39 all0)
            have V_40_b33 := V_39_b33.keep K40 (ninS ne_b33_b39 nin0)
            have Q40_b33 := Safe.keep K40 (sfS Q39_b39 sf0) HR39.1 Q39_b33
            have Q40_b39 := Safe.keep K40 (sfS Q39_b39 sf0) HR39.1 Q39_b39
            have HR40 := HR39.trans (CHr.keep K40 (sfS Q39_b39 sf0) HR39.1)
            have Z40 : n0 ≤ T40.heap.size := Nat.le_trans Z39 K40.1
            have hk40 : _ ≤ T40.heap.size := Nat.le_trans hk39 K40.1
            have S_b39 : StrAt Z T40.heap b39 t40 kb40 [c0, c1, c2] := ⟨E40, C40, Fv40, V40⟩
            show Go p_ e_ below _ _ T40 (mkF m_ 210 #[.val (.int p0), .val (.int p1), .val (.int p2), .val (.int p3), .val (.int p4), .val (.int z), .val (.int c0), .val (.int c1), .val (.int c2), .val (.int c3), .val (.ref b33), .val (.int ex)] [(.ref b39)])
            refine Go.callS X40 hx hZ (rm5_3 l Z a0 hw [] b39 t40 kb40 c0 c1 c2 zc T40.heap n0 Z40 O_40_ Sco hzc S_b39 (own_mem3 (P := fun c => ¬ c < 0 ∧ ¬ (255 : Int32) < c) (own_br r_c0) (own_br r_c1) (own_br r_c2))) hown (hw _ (List.mem_of_getElem? (i := 27) rfl)) (hw _ (List.mem_of_getElem? (i := 28) rfl)) (hw _ (List.mem_of_getElem? (i := 29) rfl)) (hw _ (List.mem_of_getElem? (i := 30) rfl)) (by decide) rfl (W := 0) (by rw [hml]; rfl) (argsL := [(.ref b39)]) (S := []) (Nat.le_of_ble_eq_true rfl) (by decide) (by decide) (by decide) (by decide) pd_oLjava_lang_StringcZ rfl rfl (hb hby at_210) ?_
            rintro _ T41 L41 X41 ⟨rfl, N41q, e41⟩
            have N41 := Fr.app N40 N41q
            show Go p_ e_ below _ _ T41 (mkF m_ 213 #[.val (.int p0), .val (.int p1), .val (.int p2), .val (.int p3), .val (.int p4), .val (.int z), .val (.int c0), .val (.int c1), .val (.int c2), .val (.int c3), .val (.ref b33), .val (.int ex)] [(.int (own_f5_3 c0 c1 c2))])
            refine Go.iload X41 hx (hb hby at_213) rfl ?_
            refine Go.icmpNo X41 hx (hb hby at_215) (teq (own_fin3 r_c0 r_c1 r_c2 h_ex)).2 ?_
            show Go p_ e_ below _ _ T41 (mkF m_ 218 #[.val (.int p0), .val (.int p1), .val (.int p2), .val (.int p3), .val (.int p4), .val (.int z), .val (.int c0), .val (.int c1), .val (.int c2), .val (.int c3), .val (.ref b33), .val (.int ex)] [])
            refine Go.iconst X41 hx (1 : Int32) (hb hby at_218) rfl ?_
            refine Go.goto X41 hx (pc' := 223) (hb hby at_219) (by decide) (by decide) ?_
            refine Go.retNH X41 hx hS e41 hk40 hZ hEL h00 HR40 hret hlk (by simp) (hb hby at_223) (by decide) (by decide) ?_
            exact ⟨rfl, N41⟩
          refine Go.iload X36 hx (hb hby at_143) rfl ?_
          refine Go.ifNo X36 hx (hb hby at_145) ((if0 _ _).trans (tlt (by rw [hz]; decide)).2.2.2) ?_
          show Go p_ e_ below _ _ T36 (mkF m_ 148 #[.val (.int p0), .val (.int p1), .val (.int p2), .val (.int p3), .val (.int p4), .val (.int z), .val (.int c0), .val (.int c1), .val (.int c2), .val (.int c3), .val (.ref b33), .unset] [])
          refine Go.iload X36 hx (hb hby at_148) rfl ?_
          refine Go.bipush X36 hx (123 : Int32) (hb hby at_150) rfl ?_
          by_cases hc152_42 : c0 = (123 : Int32)
          · skip
            refine Go.icmpYes X36 hx (pc' := 194) (hb hby at_152) (teq hc152_42).1 (by decide) (by decide) ?_
            show Go p_ e_ below _ _ T36 (mkF m_ 194 #[.val (.int p0), .val (.int p1), .val (.int p2), .val (.int p3), .val (.int p4), .val (.int z), .val (.int c0), .val (.int c1), .val (.int c2), .val (.int c3), .val (.ref b33), .unset] [])
            refine Go.iconst X36 hx (1 : Int32) (hb hby at_194) rfl ?_
            refine Go.goto X36 hx (pc' := 199) (hb hby at_195) (by decide) (by decide) ?_
            show Go p_ e_ below _ _ T36 (mkF m_ 199 #[.val (.int p0), .val (.int p1), .val (.int p2), .val (.int p3), .val (.int p4), .val (.int z), .val (.int c0), .val (.int c1), .val (.int c2), .val (.int c3), .val (.ref b33), .unset] [(.int (1 : Int32))])
            exact j37 _ _ _ X36 N36 e36 (by rw [if_pos hc152_42])
          · skip
            refine Go.icmpNo X36 hx (hb hby at_152) (feq hc152_42).1 ?_
            show Go p_ e_ below _ _ T36 (mkF m_ 155 #[.val (.int p0), .val (.int p1), .val (.int p2), .val (.int p3), .val (.int p4), .val (.int z), .val (.int c0), .val (.int c1), .val (.int c2), .val (.int c3), .val (.ref b33), .unset] [])
            refine Go.iload X36 hx (hb hby at_155) rfl ?_
            refine Go.iconst X36 hx (1 : Int32) (hb hby at_157) rfl ?_
            refine Go.icmpNo X36 hx (hb hby at_158) (tlt (by rw [hz]; decide)).2.2.2 ?_
            show Go p_ e_ below _ _ T36 (mkF m_ 161 #[.val (.int p0), .val (.int p1), .val (.int p2), .val (.int p3), .val (.int p4), .val (.int z), .val (.int c0), .val (.int c1), .val (.int c2), .val (.int c3), .val (.ref b33), .unset] [])
            refine Go.iload X36 hx (hb hby at_161) rfl ?_
            refine Go.bipush X36 hx (123 : Int32) (hb hby at_163) rfl ?_
            by_cases hc165_43 : c1 = (123 : Int32)
            · skip
              refine Go.icmpYes X36 hx (pc' := 194) (hb hby at_165) (teq hc165_43).1 (by decide) (by decide) ?_
              show Go p_ e_ below _ _ T36 (mkF m_ 194 #[.val (.int p0), .val (.int p1), .val (.int p2), .val (.int p3), .val (.int p4), .val (.int z), .val (.int c0), .val (.int c1), .val (.int c2), .val (.int c3), .val (.ref b33), .unset] [])
              refine Go.iconst X36 hx (1 : Int32) (hb hby at_194) rfl ?_
              refine Go.goto X36 hx (pc' := 199) (hb hby at_195) (by decide) (by decide) ?_
              show Go p_ e_ below _ _ T36 (mkF m_ 199 #[.val (.int p0), .val (.int p1), .val (.int p2), .val (.int p3), .val (.int p4), .val (.int z), .val (.int c0), .val (.int c1), .val (.int c2), .val (.int c3), .val (.ref b33), .unset] [(.int (1 : Int32))])
              exact j37 _ _ _ X36 N36 e36 (by rw [if_neg hc152_42, if_pos hc165_43])
            · skip
              refine Go.icmpNo X36 hx (hb hby at_165) (feq hc165_43).1 ?_
              show Go p_ e_ below _ _ T36 (mkF m_ 168 #[.val (.int p0), .val (.int p1), .val (.int p2), .val (.int p3), .val (.int p4), .val (.int z), .val (.int c0), .val (.int c1), .val (.int c2), .val (.int c3), .val (.ref b33), .unset] [])
              refine Go.iload X36 hx (hb hby at_168) rfl ?_
              refine Go.iconst X36 hx (2 : Int32) (hb hby at_170) rfl ?_
              refine Go.icmpNo X36 hx (hb hby at_171) (tlt (by rw [hz]; decide)).2.2.2 ?_
              show Go p_ e_ below _ _ T36 (mkF m_ 174 #[.val (.int p0), .val (.int p1), .val (.int p2), .val (.int p3), .val (.int p4), .val (.int z), .val (.int c0), .val (.int c1), .val (.int c2), .val (.int c3), .val (.ref b33), .unset] [])
              refine Go.iload X36 hx (hb hby at_174) rfl ?_
              refine Go.bipush X36 hx (123 : Int32) (hb hby at_176) rfl ?_
              by_cases hc178_44 : c2 = (123 : Int32)
              · skip
                refine Go.icmpYes X36 hx (pc' := 194) (hb hby at_178) (teq hc178_44).1 (by decide) (by decide) ?_
                show Go p_ e_ below _ _ T36 (mkF m_ 194 #[.val (.int p0), .val (.int p1), .val (.int p2), .val (.int p3), .val (.int p4), .val (.int z), .val (.int c0), .val (.int c1), .val (.int c2), .val (.int c3), .val (.ref b33), .unset] [])
                refine Go.iconst X36 hx (1 : Int32) (hb hby at_194) rfl ?_
                refine Go.goto X36 hx (pc' := 199) (hb hby at_195) (by decide) (by decide) ?_
                show Go p_ e_ below _ _ T36 (mkF m_ 199 #[.val (.int p0), .val (.int p1), .val (.int p2), .val (.int p3), .val (.int p4), .val (.int z), .val (.int c0), .val (.int c1), .val (.int c2), .val (.int c3), .val (.ref b33), .unset] [(.int (1 : Int32))])
                exact j37 _ _ _ X36 N36 e36 (by rw [if_neg hc152_42, if_neg hc165_43, if_pos hc178_44])
              · skip
                refine Go.icmpNo X36 hx (hb hby at_178) (feq hc178_44).1 ?_
                show Go p_ e_ below _ _ T36 (mkF m_ 181 #[.val (.int p0), .val (.int p1), .val (.int p2), .val (.int p3), .val (.int p4), .val (.int z), .val (.int c0), .val (.int c1), .val (.int c2), .val (.int c3), .val (.ref b33), .unset] [])
                refine Go.iload X36 hx (hb hby at_181) rfl ?_
                refine Go.iconst X36 hx (3 : Int32) (hb hby at_183) rfl ?_
                refine Go.icmpYes X36 hx (pc' := 198) (hb hby at_184) (flt (by rw [hz]; decide)).2.2.2 (by decide) (by decide) ?_
                show Go p_ e_ below _ _ T36 (mkF m_ 198 #[.val (.int p0), .val (.int p1), .val (.int p2), .val (.int p3), .val (.int p4), .val (.int z), .val (.int c0), .val (.int c1), .val (.int c2), .val (.int c3), .val (.ref b33), .unset] [])
                refine Go.iconst X36 hx (0 : Int32) (hb hby at_198) rfl ?_
                show Go p_ e_ below _ _ T36 (mkF m_ 199 #[.val (.int p0), .val (.int p1), .val (.int p2), .val (.int p3), .val (.int p4), .val (.int z), .val (.int c0), .val (.int c1), .val (.int c2), .val (.int c3), .val (.ref b33), .unset] [(.int (0 : Int32))])
                exact j37 _ _ _ X36 N36 e36 (by rw [if_neg hc152_42, if_neg hc165_43, if_neg hc178_44])
        · skip
          refine Go.icmpYes X4 hx (pc' := 118) (hb hby at_92) (feq hc92_32).2 (by decide) (by decide) ?_
          have hz : z = (4 : Int32) := own_z4 r_z hc35_5 hc49_12 hc68_21 hc92_32
          show Go p_ e_ below _ _ T4 (mkF m_ 118 #[.val (.int p0), .val (.int p1), .val (.int p2), .val (.int p3), .val (.int p4), .val (.int z), .val (.int c0), .val (.int c1), .val (.int c2), .val (.int c3), .unset, .unset] [])
          refine Go.iconst X4 hx (4 : Int32) (hb hby at_118) rfl ?_
          refine Go.newP X4 hx hZ (hw _ (List.mem_of_getElem? (i := 5) rfl)) e4 (hb hby at_119) (by decide) (cap := 4) (by decide) (by decide) (by decide) (by decide) ?_
          intro T45 h45 kc45 b45 zq45 X45 e45 E45 A45
          have g_b45 : n0 ≤ b45 := Nat.le_trans Z0 (Nat.le_of_eq zq45.symm)
          have Z45 : n0 ≤ h45.size := Nat.le_trans Z0 E45.1
          have hk45 : _ ≤ h45.size := Nat.le_trans hk E45.1
          have Q0_b45 : Safe Z own_EL (s_.setVm s_.vm).vm h0 b45 := Safe.new (Nat.le_of_eq zq45.symm)
          have O_45_ := O.ext E45
          have Q45_b45 := Safe.ext E45 HR.1 Q0_b45
          have HR45 := HR.trans (CHr.ext E45 HR.1)
          have V45 : Arv Z h45 b45 kc45 .char (4 : Int32) [(.int (0 : Int32)), (.int (0 : Int32)), (.int (0 : Int32)), (.int (0 : Int32))] (.int (0 : Int32)) := (Arv.new A45 (by decide)).pad (pad_rep [] (.int (0 : Int32)) 4)
          show Go p_ e_ below _ _ T45 (mkF m_ 121 #[.val (.int p0), .val (.int p1), .val (.int p2), .val (.int p3), .val (.int p4), .val (.int z), .val (.int c0), .val (.int c1), .val (.int c2), .val (.int c3), .unset, .unset] [(.ref b45)])
          refine Go.dup X45 hx (hb hby at_121) rfl ?_
          refine Go.iconst X45 hx (0 : Int32) (hb hby at_122) rfl ?_
          refine Go.iload X45 hx (hb hby at_123) rfl ?_
          obtain ⟨cl46, Ar46, q46, S46, M46, H46, G46⟩ := V45
          refine Go.stC X45 hx hZ e45 Ar46 (inb_of S46 ⟨by decide, by decide⟩) (hb hby at_125) ?_
          intro T46 h46 X46 e46 W46
          have N46 := Fr.snoc X46 N4 g_b45
          have V46 : Arv Z h46 b45 kc45 .char (4 : Int32) [(.int (nar .char c0)), (.int (0 : Int32)), (.int (0 : Int32)), (.int (0 : Int32))] (.int (0 : Int32)) := Arv.set Ar46 q46 S46 M46 H46 G46 (fits_nar_char _) W46 0 rfl (Nat.le_of_ble_eq_true rfl)
          rw [own_nar (own_br r_c0)] at V46
          have O_46_ := O_45_.wr W46 g_b45
          have Q46_b45 := Safe.wr W46 Q45_b45 HR45.1 Q45_b45
          have HR46 := HR45.trans (CHr.wr W46 Q45_b45 HR45.1)
          have Z46 : n0 ≤ h46.size := (by rw [W46.size]; exact Z45)
          have hk46 : _ ≤ h46.size := (by rw [W46.size]; exact hk45)
          show Go p_ e_ below _ _ T46 (mkF m_ 126 #[.val (.int p0), .val (.int p1), .val (.int p2), .val (.int p3), .val (.int p4), .val (.int z), .val (.int c0), .val (.int c1), .val (.int c2), .val (.int c3), .unset, .unset] [(.ref b45)])
          refine Go.dup X46 hx (hb hby at_126) rfl ?_
          refine Go.iconst X46 hx (1 : Int32) (hb hby at_127) rfl ?_
          refine Go.iload X46 hx (hb hby at_128) rfl ?_
          obtain ⟨cl47, Ar47, q47, S47, M47, H47, G47⟩ := V46
          refine Go.stC X46 hx hZ e46 Ar47 (inb_of S47 ⟨by decide, by decide⟩) (hb hby at_130) ?_
          intro T47 h47 X47 e47 W47
          have N47 := Fr.snoc X47 N46 g_b45
          have V47 : Arv Z h47 b45 kc45 .char (4 : Int32) [(.int c0), (.int (nar .char c1)), (.int (0 : Int32)), (.int (0 : Int32))] (.int (0 : Int32)) := Arv.set Ar47 q47 S47 M47 H47 G47 (fits_nar_char _) W47 1 rfl (Nat.le_of_ble_eq_true rfl)
          rw [own_nar (own_br r_c1)] at V47
          have O_47_ := O_46_.wr W47 g_b45
          have Q47_b45 := Safe.wr W47 Q46_b45 HR46.1 Q46_b45
          have HR47 := HR46.trans (CHr.wr W47 Q46_b45 HR46.1)
          have Z47 : n0 ≤ h47.size := (by rw [W47.size]; exact Z46)
          have hk47 : _ ≤ h47.size := (by rw [W47.size]; exact hk46)
          show Go p_ e_ below _ _ T47 (mkF m_ 131 #[.val (.int p0), .val (.int p1), .val (.int p2), .val (.int p3), .val (.int p4), .val (.int z), .val (.int c0), .val (.int c1), .val (.int c2), .val (.int c3), .unset, .unset] [(.ref b45)])
          refine Go.dup X47 hx (hb hby at_131) rfl ?_
          refine Go.iconst X47 hx (2 : Int32) (hb hby at_132) rfl ?_
          refine Go.iload X47 hx (hb hby at_133) rfl ?_
          obtain ⟨cl48, Ar48, q48, S48, M48, H48, G48⟩ := V47
          refine Go.stC X47 hx hZ e47 Ar48 (inb_of S48 ⟨by decide, by decide⟩) (hb hby at_135) ?_
          intro T48 h48 X48 e48 W48
          have N48 := Fr.snoc X48 N47 g_b45
          have V48 : Arv Z h48 b45 kc45 .char (4 : Int32) [(.int c0), (.int c1), (.int (nar .char c2)), (.int (0 : Int32))] (.int (0 : Int32)) := Arv.set Ar48 q48 S48 M48 H48 G48 (fits_nar_char _) W48 2 rfl (Nat.le_of_ble_eq_true rfl)
          rw [own_nar (own_br r_c2)] at V48
          have O_48_ := O_47_.wr W48 g_b45
          have Q48_b45 := Safe.wr W48 Q47_b45 HR47.1 Q47_b45
          have HR48 := HR47.trans (CHr.wr W48 Q47_b45 HR47.1)
          have Z48 : n0 ≤ h48.size := (by rw [W48.size]; exact Z47)
          have hk48 : _ ≤ h48.size := (by rw [W48.size]; exact hk47)
          show Go p_ e_ below _ _ T48 (mkF m_ 136 #[.val (.int p0), .val (.int p1), .val (.int p2), .val (.int p3), .val (.int p4), .val (.int z), .val (.int c0), .val (.int c1), .val (.int c2), .val (.int c3), .unset, .unset] [(.ref b45)])
          refine Go.dup X48 hx (hb hby at_136) rfl ?_
          refine Go.iconst X48 hx (3 : Int32) (hb hby at_137) rfl ?_
          refine Go.iload X48 hx (hb hby at_138) rfl ?_
          obtain ⟨cl49, Ar49, q49, S49, M49, H49, G49⟩ := V48
          refine Go.stC X48 hx hZ e48 Ar49 (inb_of S49 ⟨by decide, by decide⟩) (hb hby at_140) ?_
          intro T49 h49 X49 e49 W49
          have N49 := Fr.snoc X49 N48 g_b45
          have V49 : Arv Z h49 b45 kc45 .char (4 : Int32) [(.int c0), (.int c1), (.int c2), (.int (nar .char c3))] (.int (0 : Int32)) := Arv.set Ar49 q49 S49 M49 H49 G49 (fits_nar_char _) W49 3 rfl (Nat.le_of_ble_eq_true rfl)
          rw [own_nar (own_br r_c3)] at V49
          have O_49_ := O_48_.wr W49 g_b45
          have Q49_b45 := Safe.wr W49 Q48_b45 HR48.1 Q48_b45
          have HR49 := HR48.trans (CHr.wr W49 Q48_b45 HR48.1)
          have Z49 : n0 ≤ h49.size := (by rw [W49.size]; exact Z48)
          have hk49 : _ ≤ h49.size := (by rw [W49.size]; exact hk48)
          show Go p_ e_ below _ _ T49 (mkF m_ 141 #[.val (.int p0), .val (.int p1), .val (.int p2), .val (.int p3), .val (.int p4), .val (.int z), .val (.int c0), .val (.int c1), .val (.int c2), .val (.int c3), .unset, .unset] [(.ref b45)])
          refine Go.astore X49 hx (l' := #[.val (.int p0), .val (.int p1), .val (.int p2), .val (.int p3), .val (.int p4), .val (.int z), .val (.int c0), .val (.int c1), .val (.int c2), .val (.int c3), .val (.ref b45), .unset]) (hb hby at_141) rfl rfl ?_
          have j50 : ∀ (T51 : State) (l51 : List Loc) (ex : Int32), Stand p_ l e_ room_1 (s_.setVm s_.vm) m_ #[(.int p0), (.int p1), (.int p2), (.int p3), (.int p4)] below meth c_ T51 l51 1 4 → Fr n0 l51 → T51.heap = h49 → (ex = (if c0 = (123 : Int32) then (1 : Int32) else (if c1 = (123 : Int32) then (1 : Int32) else (if c2 = (123 : Int32) then (1 : Int32) else (if c3 = (123 : Int32) then (1 : Int32) else (0 : Int32)))))) → Go p_ e_ below (HE Z own_EL s_ room_1.cells room_1.slots) (Q0 Z p0 p1 p2 p3 p4 zc h0 n0) T51 (mkF m_ 199 #[.val (.int p0), .val (.int p1), .val (.int p2), .val (.int p3), .val (.int p4), .val (.int z), .val (.int c0), .val (.int c1), .val (.int c2), .val (.int c3), .val (.ref b45), .unset] [(.int ex)]) := by
            intro T51 l51 ex X51 N51 e51  h_ex
            show Go p_ e_ below _ _ T51 (mkF m_ 199 #[.val (.int p0), .val (.int p1), .val (.int p2), .val (.int p3), .val (.int p4), .val (.int z), .val (.int c0), .val (.int c1), .val (.int c2), .val (.int c3), .val (.ref b45), .unset] [(.int ex)])
            refine Go.istore X51 hx (l' := #[.val (.int p0), .val (.int p1), .val (.int p2), .val (.int p3), .val (.int p4), .val (.int z), .val (.int c0), .val (.int c1), .val (.int c2), .val (.int c3), .val (.ref b45), .val (.int ex)]) (hb hby at_199) rfl ?_
            refine Go.newO X51 hx hZ hown (hw _ (List.mem_of_getElem? (i := 6) rfl)) (hw _ (List.mem_of_getElem? (i := 7) rfl)) (hw _ (List.mem_of_getElem? (i := 8) rfl)) e51 (hb hby at_201) (by decide) (by decide) ?_
            intro T52 h52 b52 zq52 X52 e52 E52 A52 D52
            have ne_b45_b52 : b45 ≠ b52 := Nat.ne_of_lt (Nat.lt_of_lt_of_le V49.lt (Nat.le_of_eq zq52.symm))
            have g_b52 : n0 ≤ b52 := Nat.le_trans Z49 (Nat.le_of_eq zq52.symm)
            have Z52 : n0 ≤ h52.size := Nat.le_trans Z49 E52.1
            have hk52 : _ ≤ h52.size := Nat.le_trans hk49 E52.1
            have Q0_b52 : Safe Z own_EL (s_.setVm s_.vm).vm h49 b52 := Safe.new (Nat.le_of_eq zq52.symm)
            have O_52_ := O_49_.ext E52
            have V_52_b45 := V49.ext E52
            have Q52_b45 := Safe.ext E52 HR49.1 Q49_b45
            have Q52_b52 := Safe.ext E52 HR49.1 Q0_b52
            have HR52 := HR49.trans (CHr.ext E52 HR49.1)
            have F_b52_value : Fld Z h52 b52 "java/lang/String" "value" "[B" .null := D52 (Or.inr (hw _ (List.mem_of_getElem? (i := 21) rfl))) (ty := (.array .byte)) (by decide)
            have F_b52_coder : Fld Z h52 b52 "java/lang/String" "coder" "B" (.int (0 : Int32)) := D52 (Or.inr (hw _ (List.mem_of_getElem? (i := 22) rfl))) (ty := .byte) (by decide)
            show Go p_ e_ below _ _ T52 (mkF m_ 204 #[.val (.int p0), .val (.int p1), .val (.int p2), .val (.int p3), .val (.int p4), .val (.int z), .val (.int c0), .val (.int c1), .val (.int c2), .val (.int c3), .val (.ref b45), .val (.int ex)] [(.ref b52)])
            refine Go.dup X52 hx (hb hby at_204) rfl ?_
            refine Go.aload X52 hx (hb hby at_205) rfl rfl ?_
            refine Go.callIB X52 hx hZ (StrChars.Road.backV (W := 1) hZ (own_hwords hw) (kI := 4) (hw _ (List.mem_of_getElem? (i := 7) rfl)) (cs := [c0, c1, c2, c3]) (bs := own_lo [c0, c1, c2, c3]) (n := 4) g_b52 Z52 A52 F_b52_value F_b52_coder V_52_b45 (Sco.ext O_52_.2) hzc rfl rfl (by decide) (by decide) (own_mem4 (P := fun c => ¬ c < 0 ∧ ¬ (255 : Int32) < c) (own_br r_c0) (own_br r_c1) (own_br r_c2) (own_br r_c3)) rfl (by decide) (by decide)) rfl hown (hw _ (List.mem_of_getElem? (i := 9) rfl)) (hw _ (List.mem_of_getElem? (i := 10) rfl)) (hw _ (List.mem_of_getElem? (i := 11) rfl)) (by decide) e52 (a := b52) (by rw [hml]; rfl) (argsL := [(.ref b45)]) (S := [(.ref b52)]) (Nat.le_of_ble_eq_true rfl) (by decide) (by decide) pd_oACcV rfl rfl (hb hby at_207) ?_
            rintro _ T53 L53 X53 ⟨rfl, N53q, K53, E53, C53, t53, kb53, g_t53, zs53, ne53, Fv53, V53⟩
            have N53 := Fr.app N51 N53q
            have ne_b45_t53 : b45 ≠ t53 := Nat.ne_of_lt (Nat.lt_of_lt_of_le V_52_b45.lt zs53)
            have ne_b52_t53 : b52 ≠ t53 := Nat.ne_of_lt (Nat.lt_of_lt_of_le A52.lt zs53)
            have O_53_ := O_52_.keep K53 (allS g_b52 all0)
            have V_53_b45 := V_52_b45.keep K53 (ninS ne_b45_b52 nin0)
            have Q53_b45 := Safe.keep K53 (sfS Q52_b52 sf0) HR52.1 Q52_b45
            have Q53_b52 := Safe.keep K53 (sfS Q52_b52 sf0) HR52.1 Q52_b52
            have HR53 := HR52.trans (CHr.keep K53 (sfS Q52_b52 sf0) HR52.1)
            have Z53 : n0 ≤ T53.heap.size := Nat.le_trans Z52 K53.1
            have hk53 : _ ≤ T53.heap.size := Nat.le_trans hk52 K53.1
            have S_b52 : StrAt Z T53.heap b52 t53 kb53 [c0, c1, c2, c3] := ⟨E53, C53, Fv53, V53⟩
            show Go p_ e_ below _ _ T53 (mkF m_ 210 #[.val (.int p0), .val (.int p1), .val (.int p2), .val (.int p3), .val (.int p4), .val (.int z), .val (.int c0), .val (.int c1), .val (.int c2), .val (.int c3), .val (.ref b45), .val (.int ex)] [(.ref b52)])
            refine Go.callS X53 hx hZ (rm5_4 l Z a0 hw [] b52 t53 kb53 c0 c1 c2 c3 zc T53.heap n0 Z53 O_53_ Sco hzc S_b52 (own_mem4 (P := fun c => ¬ c < 0 ∧ ¬ (255 : Int32) < c) (own_br r_c0) (own_br r_c1) (own_br r_c2) (own_br r_c3))) hown (hw _ (List.mem_of_getElem? (i := 27) rfl)) (hw _ (List.mem_of_getElem? (i := 28) rfl)) (hw _ (List.mem_of_getElem? (i := 29) rfl)) (hw _ (List.mem_of_getElem? (i := 30) rfl)) (by decide) rfl (W := 0) (by rw [hml]; rfl) (argsL := [(.ref b52)]) (S := []) (Nat.le_of_ble_eq_true rfl) (by decide) (by decide) (by decide) (by decide) pd_oLjava_lang_StringcZ rfl rfl (hb hby at_210) ?_
            rintro _ T54 L54 X54 ⟨rfl, N54q, e54⟩
            have N54 := Fr.app N53 N54q
            show Go p_ e_ below _ _ T54 (mkF m_ 213 #[.val (.int p0), .val (.int p1), .val (.int p2), .val (.int p3), .val (.int p4), .val (.int z), .val (.int c0), .val (.int c1), .val (.int c2), .val (.int c3), .val (.ref b45), .val (.int ex)] [(.int (own_f5_4 c0 c1 c2 c3))])
            refine Go.iload X54 hx (hb hby at_213) rfl ?_
            refine Go.icmpNo X54 hx (hb hby at_215) (teq (own_fin4 r_c0 r_c1 r_c2 r_c3 h_ex)).2 ?_
            show Go p_ e_ below _ _ T54 (mkF m_ 218 #[.val (.int p0), .val (.int p1), .val (.int p2), .val (.int p3), .val (.int p4), .val (.int z), .val (.int c0), .val (.int c1), .val (.int c2), .val (.int c3), .val (.ref b45), .val (.int ex)] [])
            refine Go.iconst X54 hx (1 : Int32) (hb hby at_218) rfl ?_
            refine Go.goto X54 hx (pc' := 223) (hb hby at_219) (by decide) (by decide) ?_
            refine Go.retNH X54 hx hS e54 hk53 hZ hEL h00 HR53 hret hlk (by simp) (hb hby at_223) (by decide) (by decide) ?_
            exact ⟨rfl, N54⟩
          refine Go.iload X49 hx (hb hby at_143) rfl ?_
          refine Go.ifNo X49 hx (hb hby at_145) ((if0 _ _).trans (tlt (by rw [hz]; decide)).2.2.2) ?_
          show Go p_ e_ below _ _ T49 (mkF m_ 148 #[.val (.int p0), .val (.int p1), .val (.int p2), .val (.int p3), .val (.int p4), .val (.int z), .val (.int c0), .val (.int c1), .val (.int c2), .val (.int c3), .val (.ref b45), .unset] [])
          refine Go.iload X49 hx (hb hby at_148) rfl ?_
          refine Go.bipush X49 hx (123 : Int32) (hb hby at_150) rfl ?_
          by_cases hc152_55 : c0 = (123 : Int32)
          · skip
            refine Go.icmpYes X49 hx (pc' := 194) (hb hby at_152) (teq hc152_55).1 (by decide) (by decide) ?_
            show Go p_ e_ below _ _ T49 (mkF m_ 194 #[.val (.int p0), .val (.int p1), .val (.int p2), .val (.int p3), .val (.int p4), .val (.int z), .val (.int c0), .val (.int c1), .val (.int c2), .val (.int c3), .val (.ref b45), .unset] [])
            refine Go.iconst X49 hx (1 : Int32) (hb hby at_194) rfl ?_
            refine Go.goto X49 hx (pc' := 199) (hb hby at_195) (by decide) (by decide) ?_
            show Go p_ e_ below _ _ T49 (mkF m_ 199 #[.val (.int p0), .val (.int p1), .val (.int p2), .val (.int p3), .val (.int p4), .val (.int z), .val (.int c0), .val (.int c1), .val (.int c2), .val (.int c3), .val (.ref b45), .unset] [(.int (1 : Int32))])
            exact j50 _ _ _ X49 N49 e49 (by rw [if_pos hc152_55])
          · skip
            refine Go.icmpNo X49 hx (hb hby at_152) (feq hc152_55).1 ?_
            show Go p_ e_ below _ _ T49 (mkF m_ 155 #[.val (.int p0), .val (.int p1), .val (.int p2), .val (.int p3), .val (.int p4), .val (.int z), .val (.int c0), .val (.int c1), .val (.int c2), .val (.int c3), .val (.ref b45), .unset] [])
            refine Go.iload X49 hx (hb hby at_155) rfl ?_
            refine Go.iconst X49 hx (1 : Int32) (hb hby at_157) rfl ?_
            refine Go.icmpNo X49 hx (hb hby at_158) (tlt (by rw [hz]; decide)).2.2.2 ?_
            show Go p_ e_ below _ _ T49 (mkF m_ 161 #[.val (.int p0), .val (.int p1), .val (.int p2), .val (.int p3), .val (.int p4), .val (.int z), .val (.int c0), .val (.int c1), .val (.int c2), .val (.int c3), .val (.ref b45), .unset] [])
            refine Go.iload X49 hx (hb hby at_161) rfl ?_
            refine Go.bipush X49 hx (123 : Int32) (hb hby at_163) rfl ?_
            by_cases hc165_56 : c1 = (123 : Int32)
            · skip
              refine Go.icmpYes X49 hx (pc' := 194) (hb hby at_165) (teq hc165_56).1 (by decide) (by decide) ?_
              show Go p_ e_ below _ _ T49 (mkF m_ 194 #[.val (.int p0), .val (.int p1), .val (.int p2), .val (.int p3), .val (.int p4), .val (.int z), .val (.int c0), .val (.int c1), .val (.int c2), .val (.int c3), .val (.ref b45), .unset] [])
              refine Go.iconst X49 hx (1 : Int32) (hb hby at_194) rfl ?_
              refine Go.goto X49 hx (pc' := 199) (hb hby at_195) (by decide) (by decide) ?_
              show Go p_ e_ below _ _ T49 (mkF m_ 199 #[.val (.int p0), .val (.int p1), .val (.int p2), .val (.int p3), .val (.int p4), .val (.int z), .val (.int c0), .val (.int c1), .val (.int c2), .val (.int c3), .val (.ref b45), .unset] [(.int (1 : Int32))])
              exact j50 _ _ _ X49 N49 e49 (by rw [if_neg hc152_55, if_pos hc165_56])
            · skip
              refine Go.icmpNo X49 hx (hb hby at_165) (feq hc165_56).1 ?_
              show Go p_ e_ below _ _ T49 (mkF m_ 168 #[.val (.int p0), .val (.int p1), .val (.int p2), .val (.int p3), .val (.int p4), .val (.int z), .val (.int c0), .val (.int c1), .val (.int c2), .val (.int c3), .val (.ref b45), .unset] [])
              refine Go.iload X49 hx (hb hby at_168) rfl ?_
              refine Go.iconst X49 hx (2 : Int32) (hb hby at_170) rfl ?_
              refine Go.icmpNo X49 hx (hb hby at_171) (tlt (by rw [hz]; decide)).2.2.2 ?_
              show Go p_ e_ below _ _ T49 (mkF m_ 174 #[.val (.int p0), .val (.int p1), .val (.int p2), .val (.int p3), .val (.int p4), .val (.int z), .val (.int c0), .val (.int c1), .val (.int c2), .val (.int c3), .val (.ref b45), .unset] [])
              refine Go.iload X49 hx (hb hby at_174) rfl ?_
              refine Go.bipush X49 hx (123 : Int32) (hb hby at_176) rfl ?_
              by_cases hc178_57 : c2 = (123 : Int32)
              · skip
                refine Go.icmpYes X49 hx (pc' := 194) (hb hby at_178) (teq hc178_57).1 (by decide) (by decide) ?_
                show Go p_ e_ below _ _ T49 (mkF m_ 194 #[.val (.int p0), .val (.int p1), .val (.int p2), .val (.int p3), .val (.int p4), .val (.int z), .val (.int c0), .val (.int c1), .val (.int c2), .val (.int c3), .val (.ref b45), .unset] [])
                refine Go.iconst X49 hx (1 : Int32) (hb hby at_194) rfl ?_
                refine Go.goto X49 hx (pc' := 199) (hb hby at_195) (by decide) (by decide) ?_
                show Go p_ e_ below _ _ T49 (mkF m_ 199 #[.val (.int p0), .val (.int p1), .val (.int p2), .val (.int p3), .val (.int p4), .val (.int z), .val (.int c0), .val (.int c1), .val (.int c2), .val (.int c3), .val (.ref b45), .unset] [(.int (1 : Int32))])
                exact j50 _ _ _ X49 N49 e49 (by rw [if_neg hc152_55, if_neg hc165_56, if_pos hc178_57])
              · skip
                refine Go.icmpNo X49 hx (hb hby at_178) (feq hc178_57).1 ?_
                show Go p_ e_ below _ _ T49 (mkF m_ 181 #[.val (.int p0), .val (.int p1), .val (.int p2), .val (.int p3), .val (.int p4), .val (.int z), .val (.int c0), .val (.int c1), .val (.int c2), .val (.int c3), .val (.ref b45), .unset] [])
                refine Go.iload X49 hx (hb hby at_181) rfl ?_
                refine Go.iconst X49 hx (3 : Int32) (hb hby at_183) rfl ?_
                refine Go.icmpNo X49 hx (hb hby at_184) (tlt (by rw [hz]; decide)).2.2.2 ?_
                show Go p_ e_ below _ _ T49 (mkF m_ 187 #[.val (.int p0), .val (.int p1), .val (.int p2), .val (.int p3), .val (.int p4), .val (.int z), .val (.int c0), .val (.int c1), .val (.int c2), .val (.int c3), .val (.ref b45), .unset] [])
                refine Go.iload X49 hx (hb hby at_187) rfl ?_
                refine Go.bipush X49 hx (123 : Int32) (hb hby at_189) rfl ?_
                by_cases hc191_58 : c3 = (123 : Int32)
                · skip
                  refine Go.icmpNo X49 hx (hb hby at_191) (teq hc191_58).2 ?_
                  show Go p_ e_ below _ _ T49 (mkF m_ 194 #[.val (.int p0), .val (.int p1), .val (.int p2), .val (.int p3), .val (.int p4), .val (.int z), .val (.int c0), .val (.int c1), .val (.int c2), .val (.int c3), .val (.ref b45), .unset] [])
                  refine Go.iconst X49 hx (1 : Int32) (hb hby at_194) rfl ?_
                  refine Go.goto X49 hx (pc' := 199) (hb hby at_195) (by decide) (by decide) ?_
                  show Go p_ e_ below _ _ T49 (mkF m_ 199 #[.val (.int p0), .val (.int p1), .val (.int p2), .val (.int p3), .val (.int p4), .val (.int z), .val (.int c0), .val (.int c1), .val (.int c2), .val (.int c3), .val (.ref b45), .unset] [(.int (1 : Int32))])
                  exact j50 _ _ _ X49 N49 e49 (by rw [if_neg hc152_55, if_neg hc165_56, if_neg hc178_57, if_pos hc191_58])
                · skip
                  refine Go.icmpYes X49 hx (pc' := 198) (hb hby at_191) (feq hc191_58).2 (by decide) (by decide) ?_
                  show Go p_ e_ below _ _ T49 (mkF m_ 198 #[.val (.int p0), .val (.int p1), .val (.int p2), .val (.int p3), .val (.int p4), .val (.int z), .val (.int c0), .val (.int c1), .val (.int c2), .val (.int c3), .val (.ref b45), .unset] [])
                  refine Go.iconst X49 hx (0 : Int32) (hb hby at_198) rfl ?_
                  show Go p_ e_ below _ _ T49 (mkF m_ 199 #[.val (.int p0), .val (.int p1), .val (.int p2), .val (.int p3), .val (.int p4), .val (.int z), .val (.int c0), .val (.int c1), .val (.int c2), .val (.int c3), .val (.ref b45), .unset] [(.int (0 : Int32))])
                  exact j50 _ _ _ X49 N49 e49 (by rw [if_neg hc152_55, if_neg hc165_56, if_neg hc178_57, if_neg hc191_58])
set_option maxRecDepth 65536 in
set_option maxHeartbeats 40000000 in
theorem comes_1 {Post : Tables → Env → Array Value → State → Outcome → State → Prop} (hpost : ∀ tb e args s v u, (limb_1_1.after args s (.returned v) u = true ∧ limb_1_2.after args s (.returned v) u = true ∧ True) → ReturnedEndW s (.returned v) u (Jvm.fieldLocs frame_1_writes args s ++ Jvm.arrayLocs frame_1_arrays args s ++ Jvm.staticLocs frame_1_statics s) 16 1152 → Post tb e args s (.returned v) u) :
    ArmFor flags0 classFile x code maxLocals ret World_1 tables_1 room_1 Calls_1 rest_1 Pre_1 Post := by
  intro l hfl _ _ p e ha hc hk s m args below hf hA hF happ hP
  obtain ⟨hcalls, hrest, hpre⟩ := hP
  obtain ⟨-, -, -, hnamed, -, -, -, hat⟩ := (Spec.applies_iff hf).mp happ
  obtain ⟨hg, hn⟩ := and_e (Cond.before_iff.mp (show (Jvm.Cond.and given_1 narrow_1).before args s = true from hpre))
  obtain ⟨g1, g2⟩ := and_e hg
  obtain ⟨g3, g4⟩ := and_e g2
  obtain ⟨g5, g6⟩ := and_e g4
  obtain ⟨g7, g8⟩ := and_e g6
  obtain ⟨g9, g10⟩ := and_e g8
  obtain ⟨w0, w1, w2, w3, w4, rfl⟩ : ∃ w0 w1 w2 w3 w4 : Value, args = #[w0, w1, w2, w3, w4] := by
    have hs : args.size = 5 := by simpa [Cond.value, given_1] using g1
    obtain ⟨L⟩ := args
    match L, hs with
    | [w0, w1, w2, w3, w4], _ => exact ⟨w0, w1, w2, w3, w4, rfl⟩
  have hw := fun d (hd : d ∈ tables_1) => atoms_spec (ws := Jvm.Cond.code x code maxLocals ret :: tables_1) hat d (List.mem_cons_of_mem _ hd)
  have hfit : Fit s := fun {y c} hc i hi => by
    obtain ⟨ha, rfl⟩ := Array.getElem?_eq_some_iff.mp hc
    have q := List.all_eq_true.mp ((Array.all_eq_true_iff_forall_mem.mp hF) _ (Array.getElem_mem ha)) i (List.mem_range.mpr hi)
    simpa [Array.getElem?_eq_getElem hi] using q
  obtain ⟨i0, ei0⟩ := is_v g3
  obtain rfl : w0 = (.int i0) := Option.some.inj ei0
  obtain ⟨i1, ei1⟩ := is_v g5
  obtain rfl : w1 = (.int i1) := Option.some.inj ei1
  obtain ⟨i2, ei2⟩ := is_v g7
  obtain rfl : w2 = (.int i2) := Option.some.inj ei2
  obtain ⟨i3, ei3⟩ := is_v g9
  obtain rfl : w3 = (.int i3) := Option.some.inj ei3
  obtain ⟨i4, ei4⟩ := is_v g10
  obtain rfl : w4 = (.int i4) := Option.some.inj ei4
  obtain ⟨hsets, hown0⟩ := atoms_of _ (rest_1_c_eq ▸ (show rest_1_c.before _ s = true from hrest))
  obtain ⟨zc, ezc⟩ := is_v (Cond.before_iff.mp (hsets _ (List.mem_of_getElem? (i := 1) rfl)))
  have Sco := Sta.start ezc (Or.inl (hsets _ (List.mem_of_getElem? (i := 0) rfl)))
  have hzc : ¬ zc = 0 := gotF (Cond.eq_ints ezc (Term.int_eval (0))) (not_v (Cond.before_iff.mp (hsets _ (List.mem_of_getElem? (i := 2) rfl))))
  have CH0 : CHv s own_EL s.vm s.heap := CHv.start (own_hEL hw) (fun p hp => hcalls.1 p hp) (hsets _ (List.mem_of_getElem? (i := 2) rfl)) (hw _ (List.mem_of_getElem? (i := 20) rfl)) (hw _ (List.mem_of_getElem? (i := 7) rfl))
  obtain ⟨n, o, h1, h2, h3, _, L, rfl, ⟨rfl, N⟩, -, hq⟩ := rm0 l s _ hw tables_1 i0 i1 i2 i3 i4 zc s.heap s.heap.size (Nat.le_refl _) (Old.start s) Sco hzc p e ha hc hk s m _ below hf ((Spec.applies_iff_loose hf).mp happ).1 ⟨rfl, State.Warmed39.refl s, rfl, CH0⟩ trivial
  refine ⟨n, _, h1, h2, h3, hpost _ _ _ _ _ _ ⟨Cond.after_iff.mpr rfl, Cond.after_iff.mpr (eq_i res_at (Term.int_eval (1)) rfl), trivial⟩ ⟨hq.1, hq.2.1, hq.2.2.1, (hq.2.2.2.sift fun y hy => Or.inr (N y hy)).mono (by decide) (by decide)⟩⟩
theorem main_1_1 : Claimed_1_1 := comes_1 fun _ _ _ _ _ _ h hF => ⟨h.1, hF⟩
theorem main_1_2 : Claimed_1_2 := comes_1 fun _ _ _ _ _ _ h hF => ⟨h.2.1, hF⟩
end Jvm.Pilot.@@N@@
namespace Jvm.Pilot.@@N@@
open Jvm Jvm.ClassFile Sem Op Lib Jvm.Free Jvm.Stand Jvm.Pilot.@@N@@.Jvm.D
/-! MADE BY PROGRAM (witnessworld.py) out of the Statement's table words and the real class files: 21 classes; the members and pool entries that the words name. The judged class is class 1, her method 2. -/
namespace start1
open Jvm.ClassFile
def u (s : String) : CpInfo := .utf8 (stringToUtf16 s)
/-- a pool by its gaps: so many unusable entries, then the entry; so many at the end -/
def gap : Nat → List CpInfo → List CpInfo
  | 0, r => r
  | n + 1, r => .unusable :: gap n r
def poolList (es : List (Nat × CpInfo)) (last : Nat) : List CpInfo := es.foldr (fun e r => gap e.1 (e.2 :: r)) (gap last [])
def pool (es : List (Nat × CpInfo)) (last : Nat) : Array CpInfo := ⟨poolList es last⟩
def fileOf (pool : Array CpInfo) (this : Nat) (attrs : Array Attribute := #[]) (ms : Array MethodInfo := #[]) (fl : Nat := 33) (sup : Nat := 0) (ifs : Array Nat := #[]) (fds : Array FieldInfo := #[]) : ClassFile where
  minorVersion := 0
  majorVersion := 65
  constantPool := pool
  accessFlags := fl
  thisClass := this
  superClass := sup
  interfaces := ifs
  fields := fds
  methods := ms
  attributes := attrs
def plain (name : String) (sup : Option ClassId) : Class where
  name := name
  kind := .ordinary
  loader := none
  accessFlags := 33
  super := sup
  interfaces := #[]
  cf := none
  fields := #[]
  methods := #[]
  instanceTypes := #[]
  staticTypes := #[]
  resolved := #[]
  callSites := []
  init := .initialized
  statics := none
  mirror := none

def pool0 : Array CpInfo := pool [(5, u "<init>"), (0, u "()V"), (1, .class_ 10), (1, u "java/lang/Object")] 113

def k0c0 : Code := { maxStack := 0, maxLocals := 1, code := object_method_1_code, exceptionTable := #[], attributes := #[] }
def k0m0 : Method := { name := "<init>", desc := "()V", sig := { parameters := [], returnType := none }, accessFlags := 1, code := some k0c0 }
/-- java/lang/Object -/
def k0 : Class := { plain "java/lang/Object" none with
  accessFlags := 33
  interfaces := #[]
  cf := some (fileOf pool0 8 #[] #[{ accessFlags := 1, nameIndex := 5, descriptorIndex := 6, attributes := #[] }] 33 0 #[] #[])
  fields := #[]
  methods := #[k0m0]
  instanceTypes := #[]
  staticTypes := #[]
  resolved := Array.replicate 124 none
  statics := none }

def pool1 : Array CpInfo := pool [(2, .class_ 4), (1, u "java/lang/Object"), (0, u "<init>"), (0, u "()V"), (0, .integer 2147483647), (0, .methodref 9 10), (0, .class_ 11), (0, .nameAndType 12 13), (0, u "com/example/ordinance/ordinance/description/PathSegmentsIsTemplatePinLaw"), (0, u "pick"), (0, u "(I)C"), (0, .class_ 15), (0, u "java/lang/String"), (0, .methodref 14 17), (0, .nameAndType 5 18), (0, u "([C)V"), (0, .methodref 20 21), (0, .class_ 22), (0, .nameAndType 23 24), (0, u "com/example/ordinance/ordinance/description/PathSegments"), (0, u "isTemplate"), (0, u "(Ljava/lang/String;)Z"), (3, u "law"), (0, u "(IIIII)Z")] 4

def k1m0 : Method := { name := "<init>", desc := "()V", sig := { parameters := [], returnType := none }, accessFlags := 2, code := none }
def k1c1 : Code := { maxStack := 2, maxLocals := 1, code := method_2_code, exceptionTable := #[], attributes := #[] }
def k1m1 : Method := { name := "pick", desc := "(I)C", sig := { parameters := [.int], returnType := some .char }, accessFlags := 10, code := some k1c1 }
def k1c2 : Code := { maxStack := 4, maxLocals := 12, code := code, exceptionTable := #[], attributes := #[] }
def k1m2 : Method := { name := "law", desc := "(IIIII)Z", sig := { parameters := [.int, .int, .int, .int, .int], returnType := some .boolean }, accessFlags := 9, code := some k1c2 }
/-- com/example/ordinance/ordinance/description/PathSegmentsIsTemplatePinLaw -/
def k1 : Class := { plain "com/example/ordinance/ordinance/description/PathSegmentsIsTemplatePinLaw" (some 0) with
  accessFlags := 49
  interfaces := #[]
  cf := some (fileOf pool1 9 #[] #[{ accessFlags := 2, nameIndex := 5, descriptorIndex := 6, attributes := #[] }, { accessFlags := 10, nameIndex := 12, descriptorIndex := 13, attributes := #[] }, { accessFlags := 9, nameIndex := 28, descriptorIndex := 29, attributes := #[] }] 49 2 #[] #[])
  fields := #[]
  methods := #[k1m0, k1m1, k1m2]
  instanceTypes := #[]
  staticTypes := #[]
  resolved := Array.replicate 34 none
  statics := none }

def pool2 : Array CpInfo := pool [(1, .class_ 2), (0, u "java/io/Serializable"), (0, .class_ 4), (0, u "java/lang/Object")] 2

/-- java/io/Serializable -/
def k2 : Class := { plain "java/io/Serializable" (some 0) with
  accessFlags := 1537
  interfaces := #[]
  cf := some (fileOf pool2 1 #[] #[] 1537 3 #[] #[])
  fields := #[]
  methods := #[]
  instanceTypes := #[]
  staticTypes := #[]
  resolved := Array.replicate 7 none
  statics := none }

def pool3 : Array CpInfo := pool [(1, .class_ 2), (0, u "java/lang/Comparable"), (0, .class_ 4), (0, u "java/lang/Object")] 7

/-- java/lang/Comparable -/
def k3 : Class := { plain "java/lang/Comparable" (some 0) with
  accessFlags := 1537
  interfaces := #[]
  cf := some (fileOf pool3 1 #[] #[] 1537 3 #[] #[])
  fields := #[]
  methods := #[]
  instanceTypes := #[]
  staticTypes := #[]
  resolved := Array.replicate 12 none
  statics := none }

def pool4 : Array CpInfo := pool [(2, .class_ 4), (1, u "java/lang/CharSequence"), (42, .class_ 48), (0, u "java/lang/CharSequence$1CodePointIterator"), (10, .class_ 60), (0, u "java/lang/CharSequence$1CharIterator"), (5, .class_ 67), (0, u "java/lang/Object")] 63

/-- java/lang/CharSequence -/
def k4 : Class := { plain "java/lang/CharSequence" (some 0) with
  accessFlags := 1537
  interfaces := #[]
  cf := some (fileOf pool4 2 #[.nestMembers #[47, 59]] #[] 1537 66 #[] #[])
  fields := #[]
  methods := #[]
  instanceTypes := #[]
  staticTypes := #[]
  resolved := Array.replicate 131 none
  statics := none }

def pool5 : Array CpInfo := pool [(1, .class_ 2), (0, u "java/lang/constant/Constable"), (0, .class_ 4), (0, u "java/lang/Object")] 6

/-- java/lang/constant/Constable -/
def k5 : Class := { plain "java/lang/constant/Constable" (some 0) with
  accessFlags := 1537
  interfaces := #[]
  cf := some (fileOf pool5 1 #[] #[] 1537 3 #[] #[])
  fields := #[]
  methods := #[]
  instanceTypes := #[]
  staticTypes := #[]
  resolved := Array.replicate 11 none
  statics := none }

def pool6 : Array CpInfo := pool [(1, .class_ 2), (0, u "java/lang/constant/ConstantDesc"), (0, .class_ 4), (0, u "java/lang/Object")] 32

/-- java/lang/constant/ConstantDesc -/
def k6 : Class := { plain "java/lang/constant/ConstantDesc" (some 0) with
  accessFlags := 1537
  interfaces := #[]
  cf := some (fileOf pool6 1 #[] #[] 1537 3 #[] #[])
  fields := #[]
  methods := #[]
  instanceTypes := #[]
  staticTypes := #[]
  resolved := Array.replicate 37 none
  statics := none }

def pool7 : Array CpInfo := pool [(1, .methodref 2 3), (0, .class_ 4), (0, .nameAndType 5 6), (0, u "java/lang/Object"), (0, u "<init>"), (0, u "()V"), (0, .string 8), (0, u ""), (0, .fieldref 10 11), (0, .class_ 12), (0, .nameAndType 13 14), (0, u "java/lang/String"), (0, u "value"), (0, u "[B"), (0, .fieldref 10 16), (0, .nameAndType 17 18), (0, u "coder"), (0, u "B"), (2, u "hash"), (0, u "I"), (2, u "hashIsZero"), (0, u "Z"), (0, .methodref 10 28), (0, .nameAndType 5 29), (0, u "([CIILjava/lang/Void;)V"), (8, .fieldref 10 39), (0, .nameAndType 40 26), (0, u "COMPACT_STRINGS"), (1, .class_ 44), (1, u "java/lang/StringUTF16"), (0, u "compress"), (1, .methodref 42 48), (0, .nameAndType 49 50), (0, u "coderFromArrayLen"), (0, u "([BI)B"), (56, .class_ 109), (1, u "java/lang/StringLatin1"), (32, u "()Z"), (34, .methodref 42 178), (0, .nameAndType 45 179), (0, u "([CII)[B"), (154, u "()I"), (0, .methodref 10 336), (0, .nameAndType 17 337), (0, u "()B"), (154, .methodref 10 493), (0, .nameAndType 494 142), (0, u "isLatin1"), (10, .methodref 10 506), (0, .nameAndType 507 334), (0, u "length"), (67, .class_ 576), (0, u "java/lang/CharSequence"), (22, u "CASE_INSENSITIVE_ORDER"), (0, u "Ljava/util/Comparator;"), (32, .methodref 10 634), (0, .nameAndType 635 636), (0, u "indexOf"), (0, u "(II)I"), (0, .methodref 107 638), (0, .nameAndType 635 639), (0, u "([BIII)I"), (125, u "(I)I"), (244, u "([C)V"), (90, u "serialPersistentFields"), (0, u "[Ljava/io/ObjectStreamField;"), (0, .class_ 1104), (0, u "java/lang/String$CaseInsensitiveComparator"), (1, .class_ 1107), (0, u "java/io/Serializable"), (0, .class_ 1109), (0, u "java/lang/Comparable"), (0, .class_ 1111), (0, u "java/lang/constant/Constable"), (0, .class_ 1113), (0, u "java/lang/constant/ConstantDesc"), (2, u "serialVersionUID"), (0, u "J"), (3, u "REPL"), (0, u "C"), (2, u "LATIN1"), (1, u "UTF16")] 323

def k7m0 : Method := { name := "<init>", desc := "()V", sig := { parameters := [], returnType := none }, accessFlags := 1, code := none }
def k7c1 : Code := { maxStack := 5, maxLocals := 2, code := jdk_42_method_3_code, exceptionTable := #[], attributes := #[] }
def k7m1 : Method := { name := "<init>", desc := "([C)V", sig := { parameters := [(.array .char)], returnType := none }, accessFlags := 1, code := some k7c1 }
def k7c2 : Code := { maxStack := 2, maxLocals := 1, code := jdk_42_method_54_code, exceptionTable := #[], attributes := #[] }
def k7m2 : Method := { name := "length", desc := "()I", sig := { parameters := [], returnType := some .int }, accessFlags := 1, code := some k7c2 }
def k7c3 : Code := { maxStack := 3, maxLocals := 2, code := jdk_42_method_79_code, exceptionTable := #[], attributes := #[] }
def k7m3 : Method := { name := "indexOf", desc := "(I)I", sig := { parameters := [.int], returnType := some .int }, accessFlags := 1, code := some k7c3 }
def k7c4 : Code := { maxStack := 4, maxLocals := 3, code := jdk_42_method_80_code, exceptionTable := #[], attributes := #[] }
def k7m4 : Method := { name := "indexOf", desc := "(II)I", sig := { parameters := [.int, .int], returnType := some .int }, accessFlags := 1, code := some k7c4 }
def k7c5 : Code := { maxStack := 4, maxLocals := 6, code := jdk_42_method_149_code, exceptionTable := #[], attributes := #[] }
def k7m5 : Method := { name := "<init>", desc := "([CIILjava/lang/Void;)V", sig := { parameters := [(.array .char), .int, .int, (.object "java/lang/Void")], returnType := none }, accessFlags := 2, code := some k7c5 }
def k7c6 : Code := { maxStack := 1, maxLocals := 1, code := jdk_42_method_152_code, exceptionTable := #[], attributes := #[] }
def k7m6 : Method := { name := "coder", desc := "()B", sig := { parameters := [], returnType := some .byte }, accessFlags := 0, code := some k7c6 }
def k7c7 : Code := { maxStack := 1, maxLocals := 1, code := jdk_42_method_154_code, exceptionTable := #[], attributes := #[] }
def k7m7 : Method := { name := "isLatin1", desc := "()Z", sig := { parameters := [], returnType := some .boolean }, accessFlags := 0, code := some k7c7 }
/-- java/lang/String -/
def k7 : Class := { plain "java/lang/String" (some 0) with
  accessFlags := 49
  interfaces := #[2, 3, 4, 5, 6]
  cf := some (fileOf pool7 10 #[.nestMembers #[1103]] #[{ accessFlags := 1, nameIndex := 5, descriptorIndex := 6, attributes := #[] }, { accessFlags := 1, nameIndex := 5, descriptorIndex := 1010, attributes := #[] }, { accessFlags := 1, nameIndex := 507, descriptorIndex := 334, attributes := #[] }, { accessFlags := 1, nameIndex := 635, descriptorIndex := 765, attributes := #[] }, { accessFlags := 1, nameIndex := 635, descriptorIndex := 636, attributes := #[] }, { accessFlags := 2, nameIndex := 5, descriptorIndex := 29, attributes := #[] }, { accessFlags := 0, nameIndex := 17, descriptorIndex := 337, attributes := #[] }, { accessFlags := 0, nameIndex := 494, descriptorIndex := 142, attributes := #[] }] 49 2 #[1106, 1108, 575, 1110, 1112] #[{ accessFlags := 18, nameIndex := 13, descriptorIndex := 14, attributes := #[] }, { accessFlags := 18, nameIndex := 17, descriptorIndex := 18, attributes := #[] }, { accessFlags := 2, nameIndex := 21, descriptorIndex := 22, attributes := #[] }, { accessFlags := 2, nameIndex := 25, descriptorIndex := 26, attributes := #[] }, { accessFlags := 26, nameIndex := 1116, descriptorIndex := 1117, attributes := #[] }, { accessFlags := 24, nameIndex := 40, descriptorIndex := 26, attributes := #[] }, { accessFlags := 26, nameIndex := 1101, descriptorIndex := 1102, attributes := #[] }, { accessFlags := 26, nameIndex := 1121, descriptorIndex := 1122, attributes := #[] }, { accessFlags := 25, nameIndex := 599, descriptorIndex := 600, attributes := #[] }, { accessFlags := 24, nameIndex := 1125, descriptorIndex := 18, attributes := #[] }, { accessFlags := 24, nameIndex := 1127, descriptorIndex := 18, attributes := #[] }])
  fields := #[{ name := "value", type := (.array .byte), accessFlags := 18, slot := 0, constantValue := 0 }, { name := "coder", type := .byte, accessFlags := 18, slot := 1, constantValue := 0 }, { name := "hash", type := .int, accessFlags := 2, slot := 2, constantValue := 0 }, { name := "hashIsZero", type := .boolean, accessFlags := 2, slot := 3, constantValue := 0 }, { name := "serialVersionUID", type := .long, accessFlags := 26, slot := 0, constantValue := 0 }, { name := "COMPACT_STRINGS", type := .boolean, accessFlags := 24, slot := 1, constantValue := 0 }, { name := "serialPersistentFields", type := (.array (.object "java/io/ObjectStreamField")), accessFlags := 26, slot := 2, constantValue := 0 }, { name := "REPL", type := .char, accessFlags := 26, slot := 3, constantValue := 0 }, { name := "CASE_INSENSITIVE_ORDER", type := (.object "java/util/Comparator"), accessFlags := 25, slot := 4, constantValue := 0 }, { name := "LATIN1", type := .byte, accessFlags := 24, slot := 5, constantValue := 0 }, { name := "UTF16", type := .byte, accessFlags := 24, slot := 6, constantValue := 0 }]
  methods := #[k7m0, k7m1, k7m2, k7m3, k7m4, k7m5, k7m6, k7m7]
  instanceTypes := #[(.array .byte), .byte, .int, .boolean]
  staticTypes := #[.long, .boolean, (.array (.object "java/io/ObjectStreamField")), .char, (.object "java/util/Comparator"), .byte, .byte]
  resolved := Array.replicate 1451 none
  statics := some 0 }

def pool8 : Array CpInfo := pool [(2, .class_ 4), (1, u "java/lang/Object"), (0, u "<init>"), (0, u "()V"), (3, .class_ 12), (1, u "java/lang/String"), (8, .methodref 10 22), (0, .nameAndType 23 24), (0, u "indexOf"), (0, u "(I)I"), (10, .class_ 37), (1, u "com/example/ordinance/ordinance/description/PathSegments"), (16, .class_ 55), (0, u "com/example/ordinance/ordinance/description/PathSegments$Expression"), (38, u "isTemplate"), (0, u "(Ljava/lang/String;)Z")] 10

def k8m0 : Method := { name := "<init>", desc := "()V", sig := { parameters := [], returnType := none }, accessFlags := 2, code := none }
def k8c1 : Code := { maxStack := 2, maxLocals := 1, code := prog_8_method_3_code, exceptionTable := #[], attributes := #[] }
def k8m1 : Method := { name := "isTemplate", desc := "(Ljava/lang/String;)Z", sig := { parameters := [(.object "java/lang/String")], returnType := some .boolean }, accessFlags := 9, code := some k8c1 }
/-- com/example/ordinance/ordinance/description/PathSegments -/
def k8 : Class := { plain "com/example/ordinance/ordinance/description/PathSegments" (some 0) with
  accessFlags := 49
  interfaces := #[]
  cf := some (fileOf pool8 35 #[.nestMembers #[54]] #[{ accessFlags := 2, nameIndex := 5, descriptorIndex := 6, attributes := #[] }, { accessFlags := 9, nameIndex := 94, descriptorIndex := 95, attributes := #[] }] 49 2 #[] #[])
  fields := #[]
  methods := #[k8m0, k8m1]
  instanceTypes := #[]
  staticTypes := #[]
  resolved := Array.replicate 106 none
  statics := none }

def pool9 : Array CpInfo := pool [(4, .class_ 6), (1, u "java/lang/Object"), (0, u "<init>"), (0, u "()V"), (5, .class_ 16), (1, u "java/lang/StringLatin1"), (21, .methodref 39 40), (0, .class_ 41), (0, .nameAndType 42 43), (0, u "java/lang/Math"), (0, u "min"), (0, u "(II)I"), (44, .methodref 14 89), (0, .nameAndType 90 91), (0, u "canEncode"), (0, u "(I)Z"), (0, .methodref 39 93), (0, .nameAndType 94 43), (0, u "max"), (0, .methodref 14 96), (0, .nameAndType 97 98), (0, u "indexOfChar"), (0, u "([BIII)I"), (2, u "indexOf"), (19, u "$assertionsDisabled"), (0, u "Z"), (98, .class_ 223), (1, u "java/lang/StringLatin1$LinesSpliterator"), (166, .class_ 391), (0, u "java/lang/StringLatin1$CharsSpliterator")] 3

def k9m0 : Method := { name := "<init>", desc := "()V", sig := { parameters := [], returnType := none }, accessFlags := 0, code := none }
def k9c1 : Code := { maxStack := 2, maxLocals := 1, code := jdk_43_method_4_code, exceptionTable := #[], attributes := #[] }
def k9m1 : Method := { name := "canEncode", desc := "(I)Z", sig := { parameters := [.int], returnType := some .boolean }, accessFlags := 9, code := some k9c1 }
def k9c2 : Code := { maxStack := 4, maxLocals := 4, code := jdk_43_method_22_code, exceptionTable := #[], attributes := #[] }
def k9m2 : Method := { name := "indexOf", desc := "([BIII)I", sig := { parameters := [(.array .byte), .int, .int, .int], returnType := some .int }, accessFlags := 9, code := some k9c2 }
def k9c3 : Code := { maxStack := 2, maxLocals := 6, code := jdk_43_method_23_code, exceptionTable := #[], attributes := #[] }
def k9m3 : Method := { name := "indexOfChar", desc := "([BIII)I", sig := { parameters := [(.array .byte), .int, .int, .int], returnType := some .int }, accessFlags := 10, code := some k9c3 }
/-- java/lang/StringLatin1 -/
def k9 : Class := { plain "java/lang/StringLatin1" (some 0) with
  accessFlags := 48
  interfaces := #[]
  cf := some (fileOf pool9 14 #[.nestMembers #[390, 221]] #[{ accessFlags := 0, nameIndex := 7, descriptorIndex := 8, attributes := #[] }, { accessFlags := 9, nameIndex := 90, descriptorIndex := 91, attributes := #[] }, { accessFlags := 9, nameIndex := 101, descriptorIndex := 98, attributes := #[] }, { accessFlags := 10, nameIndex := 97, descriptorIndex := 98, attributes := #[] }] 48 4 #[] #[{ accessFlags := 4120, nameIndex := 121, descriptorIndex := 122, attributes := #[] }])
  fields := #[{ name := "$assertionsDisabled", type := .boolean, accessFlags := 4120, slot := 0, constantValue := 0 }]
  methods := #[k9m0, k9m1, k9m2, k9m3]
  instanceTypes := #[]
  staticTypes := #[.boolean]
  resolved := Array.replicate 395 none
  statics := none }

def pool10 : Array CpInfo := pool [(1, .class_ 2), (0, u "java/lang/Math"), (1, .class_ 6), (1, u "java/lang/Object"), (0, u "<init>"), (0, u "()V"), (89, .class_ 100), (1, u "java/lang/Math$RandomNumberGeneratorHolder"), (71, u "negativeZeroFloatBits"), (0, u "J"), (2, u "negativeZeroDoubleBits"), (21, u "max"), (2, u "min"), (43, u "$assertionsDisabled"), (0, u "Z"), (88, u "(II)I"), (2, u "twoToTheDoubleScaleDown"), (0, u "D"), (4, u "twoToTheDoubleScaleUp"), (9, u "E"), (3, u "PI"), (2, u "TAU"), (2, u "DEGREES_TO_RADIANS"), (0, u "RADIANS_TO_DEGREES")] 94

def k10m0 : Method := { name := "<init>", desc := "()V", sig := { parameters := [], returnType := none }, accessFlags := 2, code := none }
def k10c1 : Code := { maxStack := 2, maxLocals := 2, code := jdk_29_method_65_code, exceptionTable := #[], attributes := #[] }
def k10m1 : Method := { name := "max", desc := "(II)I", sig := { parameters := [.int, .int], returnType := some .int }, accessFlags := 9, code := some k10c1 }
def k10c2 : Code := { maxStack := 2, maxLocals := 2, code := jdk_29_method_69_code, exceptionTable := #[], attributes := #[] }
def k10m2 : Method := { name := "min", desc := "(II)I", sig := { parameters := [.int, .int], returnType := some .int }, accessFlags := 9, code := some k10c2 }
/-- java/lang/Math -/
def k10 : Class := { plain "java/lang/Math" (some 0) with
  accessFlags := 49
  interfaces := #[]
  cf := some (fileOf pool10 1 #[.nestMembers #[98]] #[{ accessFlags := 2, nameIndex := 7, descriptorIndex := 8, attributes := #[] }, { accessFlags := 9, nameIndex := 198, descriptorIndex := 335, attributes := #[] }, { accessFlags := 9, nameIndex := 201, descriptorIndex := 335, attributes := #[] }] 49 4 #[] #[{ accessFlags := 25, nameIndex := 354, descriptorIndex := 339, attributes := #[] }, { accessFlags := 25, nameIndex := 358, descriptorIndex := 339, attributes := #[] }, { accessFlags := 25, nameIndex := 361, descriptorIndex := 339, attributes := #[] }, { accessFlags := 26, nameIndex := 364, descriptorIndex := 339, attributes := #[] }, { accessFlags := 26, nameIndex := 365, descriptorIndex := 339, attributes := #[] }, { accessFlags := 26, nameIndex := 172, descriptorIndex := 173, attributes := #[] }, { accessFlags := 26, nameIndex := 176, descriptorIndex := 173, attributes := #[] }, { accessFlags := 8, nameIndex := 344, descriptorIndex := 339, attributes := #[] }, { accessFlags := 8, nameIndex := 338, descriptorIndex := 339, attributes := #[] }, { accessFlags := 4120, nameIndex := 245, descriptorIndex := 246, attributes := #[] }])
  fields := #[{ name := "E", type := .double, accessFlags := 25, slot := 0, constantValue := 0 }, { name := "PI", type := .double, accessFlags := 25, slot := 1, constantValue := 0 }, { name := "TAU", type := .double, accessFlags := 25, slot := 2, constantValue := 0 }, { name := "DEGREES_TO_RADIANS", type := .double, accessFlags := 26, slot := 3, constantValue := 0 }, { name := "RADIANS_TO_DEGREES", type := .double, accessFlags := 26, slot := 4, constantValue := 0 }, { name := "negativeZeroFloatBits", type := .long, accessFlags := 26, slot := 5, constantValue := 0 }, { name := "negativeZeroDoubleBits", type := .long, accessFlags := 26, slot := 6, constantValue := 0 }, { name := "twoToTheDoubleScaleUp", type := .double, accessFlags := 8, slot := 7, constantValue := 0 }, { name := "twoToTheDoubleScaleDown", type := .double, accessFlags := 8, slot := 8, constantValue := 0 }, { name := "$assertionsDisabled", type := .boolean, accessFlags := 4120, slot := 9, constantValue := 0 }]
  methods := #[k10m0, k10m1, k10m2]
  instanceTypes := #[]
  staticTypes := #[.double, .double, .double, .double, .double, .long, .long, .double, .double, .boolean]
  resolved := Array.replicate 460 none
  statics := none }

def pool11 : Array CpInfo := pool [(6, .class_ 8), (1, u "java/lang/Object"), (0, u "<init>"), (0, u "()V"), (1, .class_ 14), (1, u "java/lang/StringUTF16"), (31, u "$assertionsDisabled"), (0, u "Z"), (13, u "HI_BYTE_SHIFT"), (0, u "I"), (2, u "LO_BYTE_SHIFT"), (49, .methodref 12 116), (0, .nameAndType 117 118), (0, u "compress"), (0, u "([CI[BII)I"), (3, u "([CII)[B"), (138, u "coderFromArrayLen"), (0, u "([BI)B"), (106, .class_ 371), (1, u "java/lang/StringUTF16$LinesSpliterator"), (58, u "MAX_LENGTH"), (196, .class_ 628), (0, u "java/lang/StringUTF16$CodePointsSpliterator"), (0, .class_ 630), (0, u "java/lang/StringUTF16$CharsSpliterator")] 4

def k11m0 : Method := { name := "<init>", desc := "()V", sig := { parameters := [], returnType := none }, accessFlags := 0, code := none }
def k11c1 : Code := { maxStack := 2, maxLocals := 2, code := jdk_52_method_15_code, exceptionTable := #[], attributes := #[] }
def k11m1 : Method := { name := "coderFromArrayLen", desc := "([BI)B", sig := { parameters := [(.array .byte), .int], returnType := some .byte }, accessFlags := 8, code := some k11c1 }
def k11c2 : Code := { maxStack := 5, maxLocals := 6, code := jdk_52_method_16_code, exceptionTable := #[], attributes := #[] }
def k11m2 : Method := { name := "compress", desc := "([CII)[B", sig := { parameters := [(.array .char), .int, .int], returnType := some (.array .byte) }, accessFlags := 9, code := some k11c2 }
def k11c3 : Code := { maxStack := 3, maxLocals := 7, code := jdk_52_method_21_code, exceptionTable := #[], attributes := #[] }
def k11m3 : Method := { name := "compress", desc := "([CI[BII)I", sig := { parameters := [(.array .char), .int, (.array .byte), .int, .int], returnType := some .int }, accessFlags := 9, code := some k11c3 }
/-- java/lang/StringUTF16 -/
def k11 : Class := { plain "java/lang/StringUTF16" (some 0) with
  accessFlags := 48
  interfaces := #[]
  cf := some (fileOf pool11 12 #[.nestMembers #[627, 629, 369]] #[{ accessFlags := 0, nameIndex := 9, descriptorIndex := 10, attributes := #[] }, { accessFlags := 8, nameIndex := 261, descriptorIndex := 262, attributes := #[] }, { accessFlags := 9, nameIndex := 117, descriptorIndex := 122, attributes := #[] }, { accessFlags := 9, nameIndex := 117, descriptorIndex := 118, attributes := #[] }] 48 6 #[] #[{ accessFlags := 26, nameIndex := 61, descriptorIndex := 62, attributes := #[] }, { accessFlags := 26, nameIndex := 65, descriptorIndex := 62, attributes := #[] }, { accessFlags := 24, nameIndex := 430, descriptorIndex := 62, attributes := #[] }, { accessFlags := 4120, nameIndex := 46, descriptorIndex := 47, attributes := #[] }])
  fields := #[{ name := "HI_BYTE_SHIFT", type := .int, accessFlags := 26, slot := 0, constantValue := 0 }, { name := "LO_BYTE_SHIFT", type := .int, accessFlags := 26, slot := 1, constantValue := 0 }, { name := "MAX_LENGTH", type := .int, accessFlags := 24, slot := 2, constantValue := 0 }, { name := "$assertionsDisabled", type := .boolean, accessFlags := 4120, slot := 3, constantValue := 0 }]
  methods := #[k11m0, k11m1, k11m2, k11m3]
  instanceTypes := #[]
  staticTypes := #[.int, .int, .int, .boolean]
  resolved := Array.replicate 635 none
  statics := none }

def pool12 : Array CpInfo := pool [(2, .class_ 4), (1, u "java/lang/Object"), (0, u "<init>"), (0, u "()V"), (17, .class_ 26), (1, u "jdk/internal/util/Preconditions"), (28, .class_ 56), (0, u "jdk/internal/util/Preconditions$4"), (57, .class_ 115), (0, u "jdk/internal/util/Preconditions$1"), (7, u "SIOOBE_FORMATTER"), (0, u "Ljava/util/function/BiFunction;"), (0, .class_ 126), (0, u "jdk/internal/util/Preconditions$2"), (3, u "AIOOBE_FORMATTER"), (0, .class_ 132), (0, u "jdk/internal/util/Preconditions$3"), (3, u "IOOBE_FORMATTER")] 57

def k12m0 : Method := { name := "<init>", desc := "()V", sig := { parameters := [], returnType := none }, accessFlags := 1, code := none }
/-- jdk/internal/util/Preconditions -/
def k12 : Class := { plain "jdk/internal/util/Preconditions" (some 0) with
  accessFlags := 33
  interfaces := #[]
  cf := some (fileOf pool12 24 #[.nestMembers #[55, 131, 125, 114]] #[{ accessFlags := 1, nameIndex := 5, descriptorIndex := 6, attributes := #[] }] 33 2 #[] #[{ accessFlags := 25, nameIndex := 123, descriptorIndex := 124, attributes := #[] }, { accessFlags := 25, nameIndex := 130, descriptorIndex := 124, attributes := #[] }, { accessFlags := 25, nameIndex := 136, descriptorIndex := 124, attributes := #[] }])
  fields := #[{ name := "SIOOBE_FORMATTER", type := (.object "java/util/function/BiFunction"), accessFlags := 25, slot := 0, constantValue := 0 }, { name := "AIOOBE_FORMATTER", type := (.object "java/util/function/BiFunction"), accessFlags := 25, slot := 1, constantValue := 0 }, { name := "IOOBE_FORMATTER", type := (.object "java/util/function/BiFunction"), accessFlags := 25, slot := 2, constantValue := 0 }]
  methods := #[k12m0]
  instanceTypes := #[]
  staticTypes := #[(.object "java/util/function/BiFunction"), (.object "java/util/function/BiFunction"), (.object "java/util/function/BiFunction")]
  resolved := Array.replicate 194 none
  statics := some 1 }

def pool13 : Array CpInfo := pool [(9, u "<init>"), (6, .class_ 18), (1, u "java/lang/Object"), (0, u "()V"), (1, .class_ 23), (1, u "jdk/internal/util/ArraysSupport"), (0, u "LOG2_ARRAY_LONG_INDEX_SCALE"), (0, u "I"), (2, u "U"), (0, u "Ljdk/internal/misc/Unsafe;"), (8, u "BIG_ENDIAN"), (0, u "Z"), (8, u "LOG2_BYTE_BIT_SIZE"), (4, u "LOG2_ARRAY_INT_INDEX_SCALE"), (54, u "JLA"), (0, u "Ljdk/internal/access/JavaLangAccess;"), (11, u "LOG2_ARRAY_BOOLEAN_INDEX_SCALE"), (9, u "LOG2_ARRAY_BYTE_INDEX_SCALE"), (5, u "LOG2_ARRAY_CHAR_INDEX_SCALE"), (5, u "LOG2_ARRAY_SHORT_INDEX_SCALE"), (18, u "LOG2_ARRAY_FLOAT_INDEX_SCALE"), (24, u "LOG2_ARRAY_DOUBLE_INDEX_SCALE"), (89, u "T_BOOLEAN"), (2, u "T_CHAR"), (1, u "T_FLOAT"), (1, u "T_DOUBLE"), (1, u "T_BYTE"), (1, u "T_SHORT"), (1, u "T_INT"), (1, u "T_LONG"), (1, u "SOFT_MAX_ARRAY_LENGTH")] 83

def k13m0 : Method := { name := "<init>", desc := "()V", sig := { parameters := [], returnType := none }, accessFlags := 2, code := none }
/-- jdk/internal/util/ArraysSupport -/
def k13 : Class := { plain "jdk/internal/util/ArraysSupport" (some 0) with
  accessFlags := 33
  interfaces := #[]
  cf := some (fileOf pool13 21 #[] #[{ accessFlags := 2, nameIndex := 9, descriptorIndex := 19, attributes := #[] }] 33 16 #[] #[{ accessFlags := 24, nameIndex := 28, descriptorIndex := 29, attributes := #[] }, { accessFlags := 26, nameIndex := 38, descriptorIndex := 39, attributes := #[] }, { accessFlags := 25, nameIndex := 121, descriptorIndex := 25, attributes := #[] }, { accessFlags := 25, nameIndex := 131, descriptorIndex := 25, attributes := #[] }, { accessFlags := 25, nameIndex := 137, descriptorIndex := 25, attributes := #[] }, { accessFlags := 25, nameIndex := 143, descriptorIndex := 25, attributes := #[] }, { accessFlags := 25, nameIndex := 53, descriptorIndex := 25, attributes := #[] }, { accessFlags := 25, nameIndex := 24, descriptorIndex := 25, attributes := #[] }, { accessFlags := 25, nameIndex := 162, descriptorIndex := 25, attributes := #[] }, { accessFlags := 25, nameIndex := 187, descriptorIndex := 25, attributes := #[] }, { accessFlags := 26, nameIndex := 48, descriptorIndex := 25, attributes := #[] }, { accessFlags := 25, nameIndex := 277, descriptorIndex := 25, attributes := #[] }, { accessFlags := 25, nameIndex := 280, descriptorIndex := 25, attributes := #[] }, { accessFlags := 25, nameIndex := 282, descriptorIndex := 25, attributes := #[] }, { accessFlags := 25, nameIndex := 284, descriptorIndex := 25, attributes := #[] }, { accessFlags := 25, nameIndex := 286, descriptorIndex := 25, attributes := #[] }, { accessFlags := 25, nameIndex := 288, descriptorIndex := 25, attributes := #[] }, { accessFlags := 25, nameIndex := 290, descriptorIndex := 25, attributes := #[] }, { accessFlags := 25, nameIndex := 292, descriptorIndex := 25, attributes := #[] }, { accessFlags := 26, nameIndex := 108, descriptorIndex := 109, attributes := #[] }, { accessFlags := 25, nameIndex := 294, descriptorIndex := 25, attributes := #[] }])
  fields := #[{ name := "U", type := (.object "jdk/internal/misc/Unsafe"), accessFlags := 24, slot := 0, constantValue := 0 }, { name := "BIG_ENDIAN", type := .boolean, accessFlags := 26, slot := 1, constantValue := 0 }, { name := "LOG2_ARRAY_BOOLEAN_INDEX_SCALE", type := .int, accessFlags := 25, slot := 2, constantValue := 0 }, { name := "LOG2_ARRAY_BYTE_INDEX_SCALE", type := .int, accessFlags := 25, slot := 3, constantValue := 0 }, { name := "LOG2_ARRAY_CHAR_INDEX_SCALE", type := .int, accessFlags := 25, slot := 4, constantValue := 0 }, { name := "LOG2_ARRAY_SHORT_INDEX_SCALE", type := .int, accessFlags := 25, slot := 5, constantValue := 0 }, { name := "LOG2_ARRAY_INT_INDEX_SCALE", type := .int, accessFlags := 25, slot := 6, constantValue := 0 }, { name := "LOG2_ARRAY_LONG_INDEX_SCALE", type := .int, accessFlags := 25, slot := 7, constantValue := 0 }, { name := "LOG2_ARRAY_FLOAT_INDEX_SCALE", type := .int, accessFlags := 25, slot := 8, constantValue := 0 }, { name := "LOG2_ARRAY_DOUBLE_INDEX_SCALE", type := .int, accessFlags := 25, slot := 9, constantValue := 0 }, { name := "LOG2_BYTE_BIT_SIZE", type := .int, accessFlags := 26, slot := 10, constantValue := 0 }, { name := "T_BOOLEAN", type := .int, accessFlags := 25, slot := 11, constantValue := 0 }, { name := "T_CHAR", type := .int, accessFlags := 25, slot := 12, constantValue := 0 }, { name := "T_FLOAT", type := .int, accessFlags := 25, slot := 13, constantValue := 0 }, { name := "T_DOUBLE", type := .int, accessFlags := 25, slot := 14, constantValue := 0 }, { name := "T_BYTE", type := .int, accessFlags := 25, slot := 15, constantValue := 0 }, { name := "T_SHORT", type := .int, accessFlags := 25, slot := 16, constantValue := 0 }, { name := "T_INT", type := .int, accessFlags := 25, slot := 17, constantValue := 0 }, { name := "T_LONG", type := .int, accessFlags := 25, slot := 18, constantValue := 0 }, { name := "JLA", type := (.object "jdk/internal/access/JavaLangAccess"), accessFlags := 26, slot := 19, constantValue := 0 }, { name := "SOFT_MAX_ARRAY_LENGTH", type := .int, accessFlags := 25, slot := 20, constantValue := 0 }]
  methods := #[k13m0]
  instanceTypes := #[]
  staticTypes := #[(.object "jdk/internal/misc/Unsafe"), .boolean, .int, .int, .int, .int, .int, .int, .int, .int, .int, .int, .int, .int, .int, .int, .int, .int, .int, (.object "jdk/internal/access/JavaLangAccess"), .int]
  resolved := Array.replicate 378 none
  statics := none }

def pool14 : Array CpInfo := pool [(1, u "java/lang/Cloneable"), (0, .class_ 1), (0, u "java/lang/Object"), (0, .class_ 3)] 3

/-- java/lang/Cloneable -/
def k14 : Class := { plain "java/lang/Cloneable" (some 0) with
  accessFlags := 1537
  interfaces := #[]
  cf := some (fileOf pool14 2 #[] #[] 1537 4 #[] #[])
  fields := #[]
  methods := #[]
  instanceTypes := #[]
  staticTypes := #[]
  resolved := Array.replicate 8 none
  statics := none }

/-- the primitive byte -/
def k15 : Class := { plain "byte" none with kind := .primitive 'B', accessFlags := 0x411 }
/-- [B -/
def k16 : Class := { plain "[B" (some 0) with kind := .array 15 .byte, interfaces := #[14, 2], accessFlags := 1041 }

/-- the primitive char -/
def k17 : Class := { plain "char" none with kind := .primitive 'C', accessFlags := 0x411 }
/-- [C -/
def k18 : Class := { plain "[C" (some 0) with kind := .array 17 .char, interfaces := #[14, 2], accessFlags := 1041 }

/-- the primitive int -/
def k19 : Class := { plain "int" none with kind := .primitive 'I', accessFlags := 0x411 }
/-- [I -/
def k20 : Class := { plain "[I" (some 0) with kind := .array 19 .int, interfaces := #[14, 2], accessFlags := 1041 }

def heap : Heap := #[{ cls := 7, slots := #[.long 0, .int 1, .null, .int 0, .null, .int 0, .int 0], vm := .statics 7 },
  { cls := 12, slots := #[.null, .null, .null], vm := .statics 12 }]
def classes : Array Class := #[k0, k1, k2, k3, k4, k5, k6, k7, k8, k9, k10, k11, k12, k13, k14, k15, k16, k17, k18, k19, k20]
def interned : List (Array UInt16 × Addr) := []
def slotsUsed : Nat := 10
def theMethod : MethodId := ⟨1, 2⟩
def args0 : Array Value := #[.int 3, .int 65, .int 300, .int 7, .int 9]
def aboutOver (below : List Frame) : State where
  vm := { classes := classes, interned := interned.toArray }
  heap := heap
  slotsUsed := slotsUsed
  threads := #[{ frames := .invoking theMethod args0 :: below }]
def below0 : List Frame := [.native { method := ⟨0, 0⟩, args := #[] }]
def about1 : State := aboutOver below0
def p0 : Program := .bare "" "" ""
def e0 : Env := launch0.env 0 0 0
theorem w_frames : about1.frames = Frame.invoking theMethod args0 :: below0 := rfl
set_option maxRecDepth 65536 in
theorem w_args : argsFit about1.vm theMethod args0 = true := by decide +kernel
set_option maxRecDepth 65536 in
theorem w_heap : heapFits about1 = true := by decide +kernel
set_option maxRecDepth 65536 in
theorem w_runnable : about1.curStatus? = some .runnable := by decide +kernel
set_option maxRecDepth 65536 in
theorem w_alone : about1.alone = true := by decide +kernel
set_option maxRecDepth 65536 in
theorem w_named : about1.methodNamed? x = some theMethod := by decide +kernel
set_option maxRecDepth 65536 in
theorem w_hears : about1.hears theMethod below0 = true := by decide +kernel
set_option maxRecDepth 65536 in
theorem w_ripe : about1.ripe theMethod args0 below0 = true := by decide +kernel
theorem w_running : about1.status = .running := rfl
set_option maxRecDepth 65536 in
theorem w_room : about1.hasRoom e0.platform room_1 = true :=
  launch0.hasRoom_least _ room_1 (by decide +kernel) (by decide +kernel) (by decide +kernel) (by decide +kernel) (by decide +kernel) (by decide +kernel)
theorem allAtoms_all (ts : List Jvm.Cond) (a : Array Jvm.Value) (st : Jvm.State) : (allAtoms ts).before a st = ts.all (fun c => c.before a st) := by
  induction ts with
  | nil => rfl
  | cons c t ih =>
    show (Jvm.Cond.and c (allAtoms t)).before a st = _
    rw [Jvm.Cond.before_and, ih, List.all_cons]
def words1 : List Jvm.Cond := Jvm.Cond.code x code maxLocals ret :: tables_1
/-- a 'code' word, met by the world's own term for the bytes: nothing is compared byte by byte -/
theorem code_word {y : MethodName} {bytes : ByteArray} {mx : Nat} {rt : Option FieldType} {a : Array Value} {s : State} {m : MethodId} {meth : Method} {c : Code} (h1 : s.methodNamed? y = some m) (h2 : s.vm.method? m = some meth) (h3 : meth.code = some c) (h4 : c.code = bytes)
    (h5 : (c.maxLocals == mx && c.exceptionTable.isEmpty && decide (c.maxStack ≤ mostOperands) && decide (meth.sig.returnType = rt) && !meth.locks && decide (parseMethodDescriptor y.desc = some meth.sig)) = true) : (Jvm.Cond.code y bytes mx rt).before a s = true := by
  simp only [Bool.and_eq_true, beq_iff_eq, Bool.not_eq_true', decide_eq_true_eq] at h5
  obtain ⟨⟨⟨⟨⟨g1, g2⟩, g3⟩, g4⟩, g5⟩, g6⟩ := h5
  simp [Cond.before, Cond.holds, Cond.value, h1, h2, h3, h4, g1, g2, g3, g4, g5, g6]
def isCode : Jvm.Cond → Bool
  | .code _ _ _ _ => true
  | _ => false
theorem all_split {L : List Jvm.Cond} {P : Jvm.Cond → Bool} (h1 : L.all (fun c => isCode c || P c) = true) (h2 : ∀ c ∈ L.filter isCode, P c = true) : L.all P = true := by
  refine List.all_eq_true.mpr fun c hc => ?_
  have h := List.all_eq_true.mp h1 c hc
  rcases Bool.eq_false_or_eq_true (isCode c) with hi | hi
  · exact h2 c (List.mem_filter.mpr ⟨hc, hi⟩)
  · simpa [hi] using h
set_option maxRecDepth 65536 in
theorem w_c0 : (Jvm.Cond.code x code maxLocals ret).before args0 about1 = true := code_word (m := ⟨1, 2⟩) (meth := k1m2) (c := k1c2) (by decide +kernel) rfl rfl rfl (by decide +kernel)
set_option maxRecDepth 65536 in
theorem w_c1 : (Jvm.Cond.code ({ cls := "com/example/ordinance/ordinance/description/PathSegmentsIsTemplatePinLaw", name := "pick", desc := "(I)C" } : Jvm.MethodName) method_2_code (1 : Nat) (Option.some Jvm.ClassFile.FieldType.char)).before args0 about1 = true := code_word (m := ⟨1, 1⟩) (meth := k1m1) (c := k1c1) (by decide +kernel) rfl rfl rfl (by decide +kernel)
set_option maxRecDepth 65536 in
theorem w_c2 : (Jvm.Cond.code ({ cls := "java/lang/String", name := "<init>", desc := "([C)V" } : Jvm.MethodName) jdk_42_method_3_code (2 : Nat) (Option.none : Option Jvm.ClassFile.FieldType)).before args0 about1 = true := code_word (m := ⟨7, 1⟩) (meth := k7m1) (c := k7c1) (by decide +kernel) rfl rfl rfl (by decide +kernel)
set_option maxRecDepth 65536 in
theorem w_c3 : (Jvm.Cond.code ({ cls := "java/lang/String", name := "<init>", desc := "([CIILjava/lang/Void;)V" } : Jvm.MethodName) jdk_42_method_149_code (6 : Nat) (Option.none : Option Jvm.ClassFile.FieldType)).before args0 about1 = true := code_word (m := ⟨7, 5⟩) (meth := k7m5) (c := k7c5) (by decide +kernel) rfl rfl rfl (by decide +kernel)
set_option maxRecDepth 65536 in
theorem w_c4 : (Jvm.Cond.code ({ cls := "java/lang/Object", name := "<init>", desc := "()V" } : Jvm.MethodName) object_method_1_code (1 : Nat) (Option.none : Option Jvm.ClassFile.FieldType)).before args0 about1 = true := code_word (m := ⟨0, 0⟩) (meth := k0m0) (c := k0c0) (by decide +kernel) rfl rfl rfl (by decide +kernel)
set_option maxRecDepth 65536 in
theorem w_c5 : (Jvm.Cond.code ({ cls := "com/example/ordinance/ordinance/description/PathSegments", name := "isTemplate", desc := "(Ljava/lang/String;)Z" } : Jvm.MethodName) prog_8_method_3_code (1 : Nat) (Option.some Jvm.ClassFile.FieldType.boolean)).before args0 about1 = true := code_word (m := ⟨8, 1⟩) (meth := k8m1) (c := k8c1) (by decide +kernel) rfl rfl rfl (by decide +kernel)
set_option maxRecDepth 65536 in
theorem w_c6 : (Jvm.Cond.code ({ cls := "java/lang/String", name := "indexOf", desc := "(I)I" } : Jvm.MethodName) jdk_42_method_79_code (2 : Nat) (Option.some Jvm.ClassFile.FieldType.int)).before args0 about1 = true := code_word (m := ⟨7, 3⟩) (meth := k7m3) (c := k7c3) (by decide +kernel) rfl rfl rfl (by decide +kernel)
set_option maxRecDepth 65536 in
theorem w_c7 : (Jvm.Cond.code ({ cls := "java/lang/String", name := "indexOf", desc := "(II)I" } : Jvm.MethodName) jdk_42_method_80_code (3 : Nat) (Option.some Jvm.ClassFile.FieldType.int)).before args0 about1 = true := code_word (m := ⟨7, 4⟩) (meth := k7m4) (c := k7c4) (by decide +kernel) rfl rfl rfl (by decide +kernel)
set_option maxRecDepth 65536 in
theorem w_c8 : (Jvm.Cond.code ({ cls := "java/lang/String", name := "isLatin1", desc := "()Z" } : Jvm.MethodName) jdk_42_method_154_code (1 : Nat) (Option.some Jvm.ClassFile.FieldType.boolean)).before args0 about1 = true := code_word (m := ⟨7, 7⟩) (meth := k7m7) (c := k7c7) (by decide +kernel) rfl rfl rfl (by decide +kernel)
set_option maxRecDepth 65536 in
theorem w_c9 : (Jvm.Cond.code ({ cls := "java/lang/String", name := "length", desc := "()I" } : Jvm.MethodName) jdk_42_method_54_code (1 : Nat) (Option.some Jvm.ClassFile.FieldType.int)).before args0 about1 = true := code_word (m := ⟨7, 2⟩) (meth := k7m2) (c := k7c2) (by decide +kernel) rfl rfl rfl (by decide +kernel)
set_option maxRecDepth 65536 in
theorem w_c10 : (Jvm.Cond.code ({ cls := "java/lang/String", name := "coder", desc := "()B" } : Jvm.MethodName) jdk_42_method_152_code (1 : Nat) (Option.some Jvm.ClassFile.FieldType.byte)).before args0 about1 = true := code_word (m := ⟨7, 6⟩) (meth := k7m6) (c := k7c6) (by decide +kernel) rfl rfl rfl (by decide +kernel)
set_option maxRecDepth 65536 in
theorem w_c11 : (Jvm.Cond.code ({ cls := "java/lang/StringLatin1", name := "indexOf", desc := "([BIII)I" } : Jvm.MethodName) jdk_43_method_22_code (4 : Nat) (Option.some Jvm.ClassFile.FieldType.int)).before args0 about1 = true := code_word (m := ⟨9, 2⟩) (meth := k9m2) (c := k9c2) (by decide +kernel) rfl rfl rfl (by decide +kernel)
set_option maxRecDepth 65536 in
theorem w_c12 : (Jvm.Cond.code ({ cls := "java/lang/StringLatin1", name := "canEncode", desc := "(I)Z" } : Jvm.MethodName) jdk_43_method_4_code (1 : Nat) (Option.some Jvm.ClassFile.FieldType.boolean)).before args0 about1 = true := code_word (m := ⟨9, 1⟩) (meth := k9m1) (c := k9c1) (by decide +kernel) rfl rfl rfl (by decide +kernel)
set_option maxRecDepth 65536 in
theorem w_c13 : (Jvm.Cond.code ({ cls := "java/lang/Math", name := "max", desc := "(II)I" } : Jvm.MethodName) jdk_29_method_65_code (2 : Nat) (Option.some Jvm.ClassFile.FieldType.int)).before args0 about1 = true := code_word (m := ⟨10, 1⟩) (meth := k10m1) (c := k10c1) (by decide +kernel) rfl rfl rfl (by decide +kernel)
set_option maxRecDepth 65536 in
theorem w_c14 : (Jvm.Cond.code ({ cls := "java/lang/Math", name := "min", desc := "(II)I" } : Jvm.MethodName) jdk_29_method_69_code (2 : Nat) (Option.some Jvm.ClassFile.FieldType.int)).before args0 about1 = true := code_word (m := ⟨10, 2⟩) (meth := k10m2) (c := k10c2) (by decide +kernel) rfl rfl rfl (by decide +kernel)
set_option maxRecDepth 65536 in
theorem w_c15 : (Jvm.Cond.code ({ cls := "java/lang/StringUTF16", name := "compress", desc := "([CII)[B" } : Jvm.MethodName) jdk_52_method_16_code (6 : Nat) (Option.some (Jvm.ClassFile.FieldType.array Jvm.ClassFile.FieldType.byte))).before args0 about1 = true := code_word (m := ⟨11, 2⟩) (meth := k11m2) (c := k11c2) (by decide +kernel) rfl rfl rfl (by decide +kernel)
set_option maxRecDepth 65536 in
theorem w_c16 : (Jvm.Cond.code ({ cls := "java/lang/StringUTF16", name := "compress", desc := "([CI[BII)I" } : Jvm.MethodName) jdk_52_method_21_code (7 : Nat) (Option.some Jvm.ClassFile.FieldType.int)).before args0 about1 = true := code_word (m := ⟨11, 3⟩) (meth := k11m3) (c := k11c3) (by decide +kernel) rfl rfl rfl (by decide +kernel)
set_option maxRecDepth 65536 in
theorem w_c17 : (Jvm.Cond.code ({ cls := "java/lang/StringUTF16", name := "coderFromArrayLen", desc := "([BI)B" } : Jvm.MethodName) jdk_52_method_15_code (2 : Nat) (Option.some Jvm.ClassFile.FieldType.byte)).before args0 about1 = true := code_word (m := ⟨11, 1⟩) (meth := k11m1) (c := k11c1) (by decide +kernel) rfl rfl rfl (by decide +kernel)
set_option maxRecDepth 65536 in
theorem w_c18 : (Jvm.Cond.code ({ cls := "java/lang/StringLatin1", name := "indexOfChar", desc := "([BIII)I" } : Jvm.MethodName) jdk_43_method_23_code (6 : Nat) (Option.some Jvm.ClassFile.FieldType.int)).before args0 about1 = true := code_word (m := ⟨9, 3⟩) (meth := k9m3) (c := k9c3) (by decide +kernel) rfl rfl rfl (by decide +kernel)
def codes1 : List Jvm.Cond := [Jvm.Cond.code x code maxLocals ret, Jvm.Cond.code ({ cls := "com/example/ordinance/ordinance/description/PathSegmentsIsTemplatePinLaw", name := "pick", desc := "(I)C" } : Jvm.MethodName) method_2_code (1 : Nat) (Option.some Jvm.ClassFile.FieldType.char), Jvm.Cond.code ({ cls := "java/lang/String", name := "<init>", desc := "([C)V" } : Jvm.MethodName) jdk_42_method_3_code (2 : Nat) (Option.none : Option Jvm.ClassFile.FieldType), Jvm.Cond.code ({ cls := "java/lang/String", name := "<init>", desc := "([CIILjava/lang/Void;)V" } : Jvm.MethodName) jdk_42_method_149_code (6 : Nat) (Option.none : Option Jvm.ClassFile.FieldType), Jvm.Cond.code ({ cls := "java/lang/Object", name := "<init>", desc := "()V" } : Jvm.MethodName) object_method_1_code (1 : Nat) (Option.none : Option Jvm.ClassFile.FieldType), Jvm.Cond.code ({ cls := "com/example/ordinance/ordinance/description/PathSegments", name := "isTemplate", desc := "(Ljava/lang/String;)Z" } : Jvm.MethodName) prog_8_method_3_code (1 : Nat) (Option.some Jvm.ClassFile.FieldType.boolean), Jvm.Cond.code ({ cls := "java/lang/String", name := "indexOf", desc := "(I)I" } : Jvm.MethodName) jdk_42_method_79_code (2 : Nat) (Option.some Jvm.ClassFile.FieldType.int), Jvm.Cond.code ({ cls := "java/lang/String", name := "indexOf", desc := "(II)I" } : Jvm.MethodName) jdk_42_method_80_code (3 : Nat) (Option.some Jvm.ClassFile.FieldType.int), Jvm.Cond.code ({ cls := "java/lang/String", name := "isLatin1", desc := "()Z" } : Jvm.MethodName) jdk_42_method_154_code (1 : Nat) (Option.some Jvm.ClassFile.FieldType.boolean), Jvm.Cond.code ({ cls := "java/lang/String", name := "length", desc := "()I" } : Jvm.MethodName) jdk_42_method_54_code (1 : Nat) (Option.some Jvm.ClassFile.FieldType.int), Jvm.Cond.code ({ cls := "java/lang/String", name := "coder", desc := "()B" } : Jvm.MethodName) jdk_42_method_152_code (1 : Nat) (Option.some Jvm.ClassFile.FieldType.byte), Jvm.Cond.code ({ cls := "java/lang/StringLatin1", name := "indexOf", desc := "([BIII)I" } : Jvm.MethodName) jdk_43_method_22_code (4 : Nat) (Option.some Jvm.ClassFile.FieldType.int), Jvm.Cond.code ({ cls := "java/lang/StringLatin1", name := "canEncode", desc := "(I)Z" } : Jvm.MethodName) jdk_43_method_4_code (1 : Nat) (Option.some Jvm.ClassFile.FieldType.boolean), Jvm.Cond.code ({ cls := "java/lang/Math", name := "max", desc := "(II)I" } : Jvm.MethodName) jdk_29_method_65_code (2 : Nat) (Option.some Jvm.ClassFile.FieldType.int), Jvm.Cond.code ({ cls := "java/lang/Math", name := "min", desc := "(II)I" } : Jvm.MethodName) jdk_29_method_69_code (2 : Nat) (Option.some Jvm.ClassFile.FieldType.int), Jvm.Cond.code ({ cls := "java/lang/StringUTF16", name := "compress", desc := "([CII)[B" } : Jvm.MethodName) jdk_52_method_16_code (6 : Nat) (Option.some (Jvm.ClassFile.FieldType.array Jvm.ClassFile.FieldType.byte)), Jvm.Cond.code ({ cls := "java/lang/StringUTF16", name := "compress", desc := "([CI[BII)I" } : Jvm.MethodName) jdk_52_method_21_code (7 : Nat) (Option.some Jvm.ClassFile.FieldType.int), Jvm.Cond.code ({ cls := "java/lang/StringUTF16", name := "coderFromArrayLen", desc := "([BI)B" } : Jvm.MethodName) jdk_52_method_15_code (2 : Nat) (Option.some Jvm.ClassFile.FieldType.byte), Jvm.Cond.code ({ cls := "java/lang/StringLatin1", name := "indexOfChar", desc := "([BIII)I" } : Jvm.MethodName) jdk_43_method_23_code (6 : Nat) (Option.some Jvm.ClassFile.FieldType.int)]
set_option maxRecDepth 65536 in
theorem codes_eq : words1.filter isCode = codes1 := rfl
theorem w_codes : ∀ c ∈ words1.filter isCode, c.before args0 about1 = true := by
  rw [codes_eq]
  intro c hc
  simp only [codes1, List.mem_cons, List.not_mem_nil, or_false] at hc
  rcases hc with rfl | rfl | rfl | rfl | rfl | rfl | rfl | rfl | rfl | rfl | rfl | rfl | rfl | rfl | rfl | rfl | rfl | rfl | rfl
  · exact w_c0
  · exact w_c1
  · exact w_c2
  · exact w_c3
  · exact w_c4
  · exact w_c5
  · exact w_c6
  · exact w_c7
  · exact w_c8
  · exact w_c9
  · exact w_c10
  · exact w_c11
  · exact w_c12
  · exact w_c13
  · exact w_c14
  · exact w_c15
  · exact w_c16
  · exact w_c17
  · exact w_c18
set_option maxRecDepth 65536 in
theorem w_t1 : (words1.take 24).all (fun c => isCode c || c.before args0 about1) = true := by decide +kernel
set_option maxRecDepth 65536 in
theorem w_t2 : ((words1.drop 24).take 24).all (fun c => isCode c || c.before args0 about1) = true := by decide +kernel
set_option maxRecDepth 65536 in
theorem w_t3 : (((words1.drop 24).drop 24).take 24).all (fun c => isCode c || c.before args0 about1) = true := by decide +kernel
set_option maxRecDepth 65536 in
theorem w_t4 : (((words1.drop 24).drop 24).drop 24).all (fun c => isCode c || c.before args0 about1) = true := by decide +kernel
theorem w_tables : (allAtoms (Jvm.Cond.code x code maxLocals ret :: tables_1)).before args0 about1 = true := by
  rw [allAtoms_all]
  show words1.all (fun c => c.before args0 about1) = true
  refine all_split ?_ w_codes
  rw [← List.take_append_drop 24 words1, List.all_append, w_t1, ← List.take_append_drop 24 (words1.drop 24), List.all_append, w_t2, ← List.take_append_drop 24 ((words1.drop 24).drop 24), List.all_append, w_t3, w_t4]
  rfl
set_option maxRecDepth 65536 in
theorem w_rest : rest_1_c.before args0 about1 = true := by decide +kernel
set_option maxRecDepth 65536 in
theorem w_case : (Jvm.Cond.and given_1 narrow_1).before args0 about1 = true := by decide +kernel
set_option maxRecDepth 65536 in
theorem w_consts : constsHeld consts_1 about1 := Jvm.Lit.constsHeldB_iff.mp (by decide +kernel)
theorem w_applies : (headSpec (Jvm.Cond.code x code maxLocals ret :: tables_1) room_1).applies x e0.platform about1 = true :=
  (Spec.applies_iff w_frames).mpr ⟨w_running, w_runnable, w_alone, w_named, w_hears, w_ripe, w_room, w_tables⟩
theorem atStart : AtStart classFile x code maxLocals ret World_1 tables_1 room_1 Calls_1 rest_1 Pre_1 launch0 p0 e0 about1 theMethod args0 below0 :=
  ⟨lists_1, trivial, launch0.admits_env _ _ _, launch0.least_env, fairChoices_fair.cas, fairChoices_fair.clock, w_frames, w_args, w_heap, w_applies, ⟨w_consts, trivial⟩, w_rest, w_case⟩
end start1
theorem witness_1 : WitnessClaimed_1 := ⟨start1.p0, start1.e0, start1.about1, start1.theMethod, start1.args0, start1.below0, start1.atStart⟩
end Jvm.Pilot.@@N@@
