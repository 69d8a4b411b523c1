import JvmDerived
import JvmDerived.Pilot.@@N@@Statement
import JvmDerived.Pilot.@@N@@Code
set_option linter.unusedVariables false
set_option linter.unusedSimpArgs false
/- laws to paste: Road.backV, Road.lenW, Road.chN, Road.eqW, Road.empW, Road.codOf (cut by pick.py; bodies as the Statement names them) -/
namespace Jvm.Pilot.@@N@@
namespace StrChars
open Jvm Sem ClassFile Op Lib Jvm.Stand Jvm.Free.XT Jvm.Free.ALB Jvm.Free.JM Jvm.Free
open Jvm.Lib.Cold (StaticIs)
/-- a char array whose places are chars -/
def Ch (a : Addr) (A : Cell) (U : State) : Prop := Arr .char a A U ∧ Typed .char A
theorem Ch.mv {a : Addr} {A : Cell} {U U' : State} (h : Ch a A U) (hal : U.vm.Alike U'.vm) (hh : U'.heap = U.heap) : Ch a A U' := ⟨h.1.mv hal hh, h.2⟩
theorem Ch.keep {a : Addr} {A : Cell} {U U' : State} (h : Ch a A U) (hal : U.vm.Alike U'.vm) (hk : U'.heap[a]? = some A) : Ch a A U' := ⟨h.1.keep hal hk, h.2⟩
/-- what place i of a char[]'s cell holds -/
def cv (A : Cell) (i : Nat) : Int32 := match A.slots[i]? with | some (.int x) => x | _ => 0
theorem Ch.get {a : Addr} {A : Cell} {U : State} (h : Ch a A U) {i : Nat} (hi : i < A.slots.size) : A.slots[i]? = some (.int (cv A i)) := by
  have e := Array.getElem?_eq_getElem hi
  have f := h.2 i _ e
  unfold cv; rw [e]
  generalize A.slots[i] = v at f
  cases v <;> simp [fits] at f ⊢
/-- the byte that i2b leaves of a char -/
def lo8 (x : Int32) : Int32 := x.toInt8.toInt32
theorem fits_lo8 (y : Int32) : fits .byte (.int (lo8 y)) = true := by
  have h1 := y.toInt8.le_toInt
  have h2 := y.toInt8.toInt_lt
  simp only [lo8, fits, Bool.and_eq_true, decide_eq_true_eq, Int32.le_iff_toInt_le, Int8.toInt_toInt32, show (-128 : Int32).toInt = -128 from by decide, show (127 : Int32).toInt = 127 from by decide]
  omega
/-- A' is A but that each place j of lo .. hi - 1 holds f j -/
def Laid (A A' : Cell) (lo hi : Nat) (f : Nat → Value) : Prop := A'.cls = A.cls ∧ A'.vm = A.vm ∧ A'.slots.size = A.slots.size ∧ ∀ i, A'.slots[i]? = if lo ≤ i ∧ i < hi then some (f i) else A.slots[i]?
theorem Laid.zero (A : Cell) (lo : Nat) (f : Nat → Value) : Laid A A lo (lo + 0) f := ⟨rfl, rfl, rfl, fun i => by rw [if_neg (by omega)]⟩
theorem Laid.step {A Ak : Cell} {lo k : Nat} {f : Nat → Value} {v : Value} (h : Laid A Ak lo k f) (hlo : lo ≤ k) (hk : k < Ak.slots.size) (hv : v = f k) : Laid A (Ak.setSlot k v) lo (k + 1) f := by
  refine ⟨h.1, h.2.1, by simpa [Cell.setSlot] using h.2.2.1, fun i => ?_⟩
  by_cases e : k = i
  · subst e; rw [Cell.slots_setSlot_self v hk, if_pos (by omega), hv]
  · rw [Cell.slots_setSlot_ne v e, h.2.2.2 i]
    by_cases q : lo ≤ i ∧ i < k
    · rw [if_pos q, if_pos (by omega)]
    · rw [if_neg q, if_neg (by omega)]
def U16 : String := "java/lang/StringUTF16"
namespace Cmp5
def yN : MethodName := ⟨"java/lang/StringUTF16", "compress", "([CI[BII)I"⟩
abbrev yB : ByteArray := jdk_52_method_21_code
theorem d0 : decode yB 0 = .ok (.iconst 0, 1) := by decide +kernel
theorem d1 : decode yB 1 = .ok (.istore 5, 2) := by decide +kernel
theorem d3 : decode yB 3 = .ok (.iload 5, 2) := by decide +kernel
theorem d5 : decode yB 5 = .ok (.iload 4, 2) := by decide +kernel
theorem d7 : decode yB 7 = .ok (.if_icmp (.ge) 37, 3) := by decide +kernel
theorem d10 : decode yB 10 = .ok (.aload_n 0, 1) := by decide +kernel
theorem d11 : decode yB 11 = .ok (.iload_n 1, 1) := by decide +kernel
theorem d12 : decode yB 12 = .ok (.caload, 1) := by decide +kernel
theorem d13 : decode yB 13 = .ok (.istore 6, 2) := by decide +kernel
theorem d15 : decode yB 15 = .ok (.iload 6, 2) := by decide +kernel
theorem d17 : decode yB 17 = .ok (.sipush 255, 3) := by decide +kernel
theorem d20 : decode yB 20 = .ok (.if_icmp (.le) 6, 3) := by decide +kernel
theorem d26 : decode yB 26 = .ok (.aload_n 2, 1) := by decide +kernel
theorem d27 : decode yB 27 = .ok (.iload_n 3, 1) := by decide +kernel
theorem d28 : decode yB 28 = .ok (.iload 6, 2) := by decide +kernel
theorem d30 : decode yB 30 = .ok (.i2b, 1) := by decide +kernel
theorem d31 : decode yB 31 = .ok (.bastore, 1) := by decide +kernel
theorem d32 : decode yB 32 = .ok (.iinc 1 1, 3) := by decide +kernel
theorem d35 : decode yB 35 = .ok (.iinc 3 1, 3) := by decide +kernel
theorem d38 : decode yB 38 = .ok (.iinc 5 1, 3) := by decide +kernel
theorem d41 : decode yB 41 = .ok (.goto (-38), 3) := by decide +kernel
theorem d44 : decode yB 44 = .ok (.iload 4, 2) := by decide +kernel
theorem d46 : decode yB 46 = .ok (.ireturn, 1) := by decide +kernel
def site : List Cond := []
def tab : Cond := tabOf yN yB 7 (some .int) site
def P (b : Addr) (A : Cell) (d : Addr) (B : Cell) (o q len : Nat) (args : Array Value) (s : State) : Prop := args = #[.ref b, .int (Int32.ofNat o), .ref d, .int (Int32.ofNat q), .int (Int32.ofNat len)] ∧ Ch b A s ∧ Arr .byte d B s ∧ b ≠ d ∧ o + len ≤ A.slots.size ∧ q + len ≤ B.slots.size ∧ ∀ i, i < len → ¬ 255 < cv A (o + i)
def E (b : Addr) (A : Cell) (d : Addr) (B : Cell) (o q len : Nat) (r : Option Value) (s u : State) : Prop := r = some (.int (Int32.ofNat len)) ∧ ∃ B', Put d B' s u ∧ Laid B B' q (q + len) (fun j => Value.int (lo8 (cv A (o + (j - q)))))
/-- no char of the range above 255: len; the places written hold each char's low byte -/
theorem law (l : Launch) (b : Addr) (A : Cell) (d : Addr) (B : Cell) (o q len : Nat) : Law l yN 5 5 0 0 yB 7 (some .int) site (P b A d B o q len) (E b A d B o q len) (copyLocs d q len) 0 0 := by
  refine Law.of_walk (plainFor_of_name (by decide +kernel)) (by decide +kernel) (by decide +kernel) (by decide) (fun _ _ h => by rw [h.1]; rfl) (fun _ U U' hal hh h => ⟨h.1, h.2.1.mv hal hh, h.2.2.1.mv hal hh, h.2.2.2⟩) (fun r U U' V V' h1 hal h2 h => ⟨h.1, h.2.elim fun B' q => ⟨B', q.1.mv h1 h2, q.2⟩⟩) ?_
  intro p e s m args below meth c s₁ X0 hexec hbytes hml hret hlk hnm hown hh0 W hP
  obtain ⟨rfl, hA, hB, hne, l1, l2, hp⟩ := hP
  have c1 : Steps p.tables e below (s₁.setTop (entryFrame m #[.ref b, .int (Int32.ofNat o), .ref d, .int (Int32.ofNat q), .int (Int32.ofNat len)] 7)) (s₁.setTop (mkF m 0 #[.val (.ref b), .val (.int (Int32.ofNat o)), .val (.ref d), .val (.int (Int32.ofNat q)), .val (.int (Int32.ofNat len)), .unset, .unset] [])) := entry rfl
  have hA0 := hA.1.mv X0.warmed.alike hh0
  have hB0 := hB.mv X0.warmed.alike hh0
  have a31 := hA.1.2.2.2
  have c2 : Steps p.tables e below (s₁.setTop (entryFrame m #[.ref b, .int (Int32.ofNat o), .ref d, .int (Int32.ofNat q), .int (Int32.ofNat len)] 7)) (s₁.setTop (mkF m 3 #[.val (.ref b), .val (.int (Int32.ofNat o)), .val (.ref d), .val (.int (Int32.ofNat q)), .val (.int (Int32.ofNat len)), .val (.int 0), .unset] [])) := c1.trans (by
    refine iconstV X0.here hexec rfl 0 (hb hbytes d0) (by decide) ?_
    refine XS.istore X0.here hexec rfl (hb hbytes d1) rfl rfl ?_
    exact Steps.refl _)
  have loop : ∀ (r i : Nat), i + r = len → ∀ (z : Slot), (z = .unset ∨ ∃ w, z = .val w ∧ w.category = 1) → ∀ (Tl : State) (Bk : Cell), Stand p l e { frames := 0, locals := 0, cells := 0, slots := 0 } s m #[.ref b, .int (Int32.ofNat o), .ref d, .int (Int32.ofNat q), .int (Int32.ofNat len)] below meth c Tl ([] ++ copyLocs d q i) 0 0 → Put d Bk s₁ Tl → Laid B Bk q (q + i) (fun j => Value.int (lo8 (cv A (o + (j - q))))) →
      Steps p.tables e below (s₁.setTop (entryFrame m #[.ref b, .int (Int32.ofNat o), .ref d, .int (Int32.ofNat q), .int (Int32.ofNat len)] 7)) (Tl.setTop (mkF m 3 #[.val (.ref b), .val (.int (Int32.ofNat (o + i))), .val (.ref d), .val (.int (Int32.ofNat (q + i))), .val (.int (Int32.ofNat len)), .val (.int (Int32.ofNat i)), z] [])) → ∃ (T' : State) (B' : Cell) (z' : Slot), Stand p l e { frames := 0, locals := 0, cells := 0, slots := 0 } s m #[.ref b, .int (Int32.ofNat o), .ref d, .int (Int32.ofNat q), .int (Int32.ofNat len)] below meth c T' ([] ++ copyLocs d q len) 0 0 ∧ Put d B' s₁ T' ∧ Laid B B' q (q + len) (fun j => Value.int (lo8 (cv A (o + (j - q))))) ∧
      Steps p.tables e below (s₁.setTop (entryFrame m #[.ref b, .int (Int32.ofNat o), .ref d, .int (Int32.ofNat q), .int (Int32.ofNat len)] 7)) (T'.setTop (mkF m 3 #[.val (.ref b), .val (.int (Int32.ofNat (o + len))), .val (.ref d), .val (.int (Int32.ofNat (q + len))), .val (.int (Int32.ofNat len)), .val (.int (Int32.ofNat len)), z'] [])) := by
    intro r
    induction r with
    | zero =>
      intro i hi z hz Tl Bk Xl pl fl cl
      have hil : i = len := by omega
      rw [hil] at Xl fl cl
      exact ⟨Tl, Bk, z, Xl, pl, fl, cl⟩
    | succ r ih =>
      intro i hi z hz Tl Bk Xl pl fl cl
      have all := X0.warmed.alike.symm.trans Xl.warmed.alike
      have hAl := hA0.keep all (pl.other hne hA0.1)
      have hBk := hB0.like all pl.1 fl.1 fl.2.1 fl.2.2.1
      have hlt : q + i < Bk.slots.size := by rw [fl.2.2.1]; omega
      have c3 : Steps p.tables e below (s₁.setTop (entryFrame m #[.ref b, .int (Int32.ofNat o), .ref d, .int (Int32.ofNat q), .int (Int32.ofNat len)] 7)) (Tl.setTop (mkF m 12 #[.val (.ref b), .val (.int (Int32.ofNat (o + i))), .val (.ref d), .val (.int (Int32.ofNat (q + i))), .val (.int (Int32.ofNat len)), .val (.int (Int32.ofNat i)), z] [.int (Int32.ofNat (o + i)), .ref b])) := cl.trans (by
        refine XS.iload Xl.here hexec rfl (hb hbytes d3) rfl ?_
        refine XS.iload Xl.here hexec rfl (hb hbytes d5) rfl ?_
        refine XS.icmpNo Xl.here hexec rfl (hb hbytes d7) rfl (ii_ge_f (lt32 (by omega) (by omega))) ?_
        refine XS.aloadN Xl.here hexec rfl (hb hbytes d10) rfl rfl ?_
        refine XS.iloadN Xl.here hexec rfl (hb hbytes d11) rfl ?_
        exact Steps.refl _)
      have c4 : Steps p.tables e below (s₁.setTop (entryFrame m #[.ref b, .int (Int32.ofNat o), .ref d, .int (Int32.ofNat q), .int (Int32.ofNat len)] 7)) (Tl.setTop (mkF m 13 #[.val (.ref b), .val (.int (Int32.ofNat (o + i))), .val (.ref d), .val (.int (Int32.ofNat (q + i))), .val (.int (Int32.ofNat len)), .val (.int (Int32.ofNat i)), z] [.int (cv A (o + i))])) := c3.trans (by
        refine Xl.aget hexec hAl rfl (hA.get (i := o + i) (by omega)) rfl rfl (hb hbytes d12) ?_
        exact Steps.refl _)
      have c5 : Steps p.tables e below (s₁.setTop (entryFrame m #[.ref b, .int (Int32.ofNat o), .ref d, .int (Int32.ofNat q), .int (Int32.ofNat len)] 7)) (Tl.setTop (mkF m 15 #[.val (.ref b), .val (.int (Int32.ofNat (o + i))), .val (.ref d), .val (.int (Int32.ofNat (q + i))), .val (.int (Int32.ofNat len)), .val (.int (Int32.ofNat i)), .val (.int (cv A (o + i)))] [])) := c4.trans (by
        refine XS.istoreS Xl.here hexec rfl (hb hbytes d13) rfl rfl hz ?_
        exact Steps.refl _)
      have c6 : Steps p.tables e below (s₁.setTop (entryFrame m #[.ref b, .int (Int32.ofNat o), .ref d, .int (Int32.ofNat q), .int (Int32.ofNat len)] 7)) (Tl.setTop (mkF m 31 #[.val (.ref b), .val (.int (Int32.ofNat (o + i))), .val (.ref d), .val (.int (Int32.ofNat (q + i))), .val (.int (Int32.ofNat len)), .val (.int (Int32.ofNat i)), .val (.int (cv A (o + i)))] [.int (lo8 (cv A (o + i))), .int (Int32.ofNat (q + i)), .ref d])) := c5.trans (by
        refine XS.iload Xl.here hexec rfl (hb hbytes d15) rfl ?_
        refine sipushV Xl.here hexec rfl 255 (hb hbytes d17) (by decide) ?_
        refine XS.icmpYes Xl.here hexec rfl (pc0 := 20) rfl (hb hbytes d20) rfl (ii_le_t (hp i (by omega))) (by decide) rfl ?_
        refine XS.aloadN Xl.here hexec rfl (hb hbytes d26) rfl rfl ?_
        refine XS.iloadN Xl.here hexec rfl (hb hbytes d27) rfl ?_
        refine XS.iload Xl.here hexec rfl (hb hbytes d28) rfl ?_
        refine i2b Xl.here hexec rfl (hb hbytes d30) rfl ?_
        exact Steps.refl _)
      obtain ⟨T7, X7, p7, st7⟩ := Xl.aput hexec hBk rfl hlt rfl (fits_lo8 (cv A (o + i))) (g := (mkF m 31 #[.val (.ref b), .val (.int (Int32.ofNat (o + i))), .val (.ref d), .val (.int (Int32.ofNat (q + i))), .val (.int (Int32.ofNat len)), .val (.int (Int32.ofNat i)), .val (.int (cv A (o + i)))] [.int (lo8 (cv A (o + i))), .int (Int32.ofNat (q + i)), .ref d])) rfl (rest := []) rfl (hb hbytes d31)
      have c8 : Steps p.tables e below (s₁.setTop (entryFrame m #[.ref b, .int (Int32.ofNat o), .ref d, .int (Int32.ofNat q), .int (Int32.ofNat len)] 7)) (T7.setTop (mkF m 32 #[.val (.ref b), .val (.int (Int32.ofNat (o + i))), .val (.ref d), .val (.int (Int32.ofNat (q + i))), .val (.int (Int32.ofNat len)), .val (.int (Int32.ofNat i)), .val (.int (cv A (o + i)))] [])) := c6.trans (st7 _ (Steps.refl _))
      have c9 : Steps p.tables e below (s₁.setTop (entryFrame m #[.ref b, .int (Int32.ofNat o), .ref d, .int (Int32.ofNat q), .int (Int32.ofNat len)] 7)) (T7.setTop (mkF m 3 #[.val (.ref b), .val (.int (Int32.ofNat (o + i) + 1)), .val (.ref d), .val (.int (Int32.ofNat (q + i) + 1)), .val (.int (Int32.ofNat len)), .val (.int (Int32.ofNat i + 1)), .val (.int (cv A (o + i)))] [])) := c8.trans (by
        refine iincV X7.here hexec rfl 1 (hb hbytes d32) (by decide) rfl rfl ?_
        refine iincV X7.here hexec rfl 1 (hb hbytes d35) (by decide) rfl rfl ?_
        refine iincV X7.here hexec rfl 1 (hb hbytes d38) (by decide) rfl rfl ?_
        refine XS.goto X7.here hexec rfl (pc0 := 41) rfl (hb hbytes d41) (by decide) rfl ?_
        exact Steps.refl _)
      have c10 : Steps p.tables e below (s₁.setTop (entryFrame m #[.ref b, .int (Int32.ofNat o), .ref d, .int (Int32.ofNat q), .int (Int32.ofNat len)] 7)) (T7.setTop (mkF m 3 #[.val (.ref b), .val (.int (Int32.ofNat (o + (i + 1)))), .val (.ref d), .val (.int (Int32.ofNat (q + (i + 1)))), .val (.int (Int32.ofNat len)), .val (.int (Int32.ofNat (i + 1))), .val (.int (cv A (o + i)))] [])) := by
        have := c9
        rw [succ32, succ32, succ32] at this
        exact this
      exact ih (i + 1) (by omega) _ (Or.inr ⟨_, rfl, rfl⟩) T7 _ (by rw [copyLocs_step, ← List.append_assoc]; exact X7) (pl.trans p7) (fl.step (by omega) hlt (by simp)) c10
  obtain ⟨T9, B9, z9, X9, p9, f9, g9⟩ := loop len 0 (by omega) .unset (Or.inl rfl) s₁ B (by simpa [copyLocs] using X0) ⟨hB0.1, fun _ _ => rfl, rfl⟩ (Laid.zero _ _ _) c2
  have c11 : Steps p.tables e below (s₁.setTop (entryFrame m #[.ref b, .int (Int32.ofNat o), .ref d, .int (Int32.ofNat q), .int (Int32.ofNat len)] 7)) (T9.setTop (mkF m 46 #[.val (.ref b), .val (.int (Int32.ofNat (o + len))), .val (.ref d), .val (.int (Int32.ofNat (q + len))), .val (.int (Int32.ofNat len)), .val (.int (Int32.ofNat len)), z9] [.int (Int32.ofNat len)])) := g9.trans (by
    refine XS.iload X9.here hexec rfl (hb hbytes d3) rfl ?_
    refine XS.iload X9.here hexec rfl (hb hbytes d5) rfl ?_
    refine XS.icmpYes X9.here hexec rfl (pc0 := 7) rfl (hb hbytes d7) rfl (ii_ge_t (nlt32 (by omega) (Nat.le_refl _))) (by decide) rfl ?_
    refine XS.iload X9.here hexec rfl (hb hbytes d44) rfl ?_
    exact Steps.refl _)
  exact ⟨T9, some (.int (Int32.ofNat len)), _, _, _, X9, by simp, rfl, rfl, (fun h => by cases h), ⟨rfl, B9, p9.from hh0, f9⟩, fun fs hl => c11.trans (X9.ireturnOut hexec hret rfl (Or.inl rfl) (hb hbytes d46) hl)⟩
end Cmp5
namespace Cmp3
def yN : MethodName := ⟨"java/lang/StringUTF16", "compress", "([CII)[B"⟩
abbrev yB : ByteArray := jdk_52_method_16_code
theorem d0 : decode yB 0 = .ok (.iload_n 2, 1) := by decide +kernel
theorem d1 : decode yB 1 = .ok (.newarray .byte, 2) := by decide +kernel
theorem d3 : decode yB 3 = .ok (.astore_n 3, 1) := by decide +kernel
theorem d4 : decode yB 4 = .ok (.aload_n 0, 1) := by decide +kernel
theorem d5 : decode yB 5 = .ok (.iload_n 1, 1) := by decide +kernel
theorem d6 : decode yB 6 = .ok (.aload_n 3, 1) := by decide +kernel
theorem d7 : decode yB 7 = .ok (.iconst 0, 1) := by decide +kernel
theorem d8 : decode yB 8 = .ok (.iload_n 2, 1) := by decide +kernel
theorem d9 : decode yB 9 = .ok (.invokestatic 115, 3) := by decide +kernel
theorem d12 : decode yB 12 = .ok (.istore 4, 2) := by decide +kernel
theorem d14 : decode yB 14 = .ok (.iload 4, 2) := by decide +kernel
theorem d16 : decode yB 16 = .ok (.iload_n 2, 1) := by decide +kernel
theorem d17 : decode yB 17 = .ok (.if_icmp (.eq) 40, 3) := by decide +kernel
theorem d57 : decode yB 57 = .ok (.aload_n 3, 1) := by decide +kernel
theorem d58 : decode yB 58 = .ok (.areturn, 1) := by decide +kernel
def site : List Cond := [.arrayClass .byte, Cmp5.tab] ++ staticW U16 115 Cmp5.yN
def tab : Cond := tabOf yN yB 6 (some (.array .byte)) site
def P (b : Addr) (A : Cell) (o len : Nat) (args : Array Value) (s : State) : Prop := args = #[.ref b, .int (Int32.ofNat o), .int (Int32.ofNat len)] ∧ Ch b A s ∧ o + len ≤ A.slots.size ∧ len ≤ 536870912 ∧ ∀ i, i < len → ¬ 255 < cv A (o + i)
def E (b : Addr) (A : Cell) (o len : Nat) (r : Option Value) (s u : State) : Prop := NewArr .byte "[B" len (fun j => .int (lo8 (cv A (o + j)))) r s u ∧ u.heap.size = s.heap.size + 1
/-- no char of the range above 255: a new byte[] of their low bytes -/
theorem law (l : Launch) (b : Addr) (A : Cell) (o len : Nat) : Law l yN 3 3 1 18 yB 6 (some (.array .byte)) site (P b A o len) (E b A o len) [] 1 len := by
  refine Law.of_walk (plainFor_of_name (by decide +kernel)) (by decide +kernel) (by decide +kernel) (by decide) (fun _ _ h => by rw [h.1]; rfl) (fun _ U U' hal hh h => ⟨h.1, h.2.1.mv hal hh, h.2.2⟩) (fun r U U' V V' h1 hal h2 h => ⟨NewArr.mv r U U' V V' h1 hal h2 h.1, by rw [h1, h2]; exact h.2⟩) ?_
  intro p e s m args below meth c s₁ X0 hexec hbytes hml hret hlk hnm hown hh0 W hP
  obtain ⟨rfl, hA, l1, l2, hp⟩ := hP
  have a31 := hA.1.2.2.2
  have c1 : Steps p.tables e below (s₁.setTop (entryFrame m #[.ref b, .int (Int32.ofNat o), .int (Int32.ofNat len)] 6)) (s₁.setTop (mkF m 0 #[.val (.ref b), .val (.int (Int32.ofNat o)), .val (.int (Int32.ofNat len)), .unset, .unset, .unset] [])) := entry rfl
  have c2 : Steps p.tables e below (s₁.setTop (entryFrame m #[.ref b, .int (Int32.ofNat o), .int (Int32.ofNat len)] 6)) (s₁.setTop (mkF m 1 #[.val (.ref b), .val (.int (Int32.ofNat o)), .val (.int (Int32.ofNat len)), .unset, .unset, .unset] [.int (Int32.ofNat len)])) := c1.trans (by
    refine XS.iloadN X0.here hexec rfl (hb hbytes d0) rfl ?_
    exact Steps.refl _)
  obtain ⟨T3, B3, X3, ba3, bs3, bv3, bh3, bf3, st3⟩ := X0.anew hexec (atype := .byte) (wk W (.arrayClass .byte)) rfl (by show len * 1 ≤ _; omega) (by omega) (g := (mkF m 1 #[.val (.ref b), .val (.int (Int32.ofNat o)), .val (.int (Int32.ofNat len)), .unset, .unset, .unset] [.int (Int32.ofNat len)])) rfl (hb hbytes d1) (rest := []) rfl (Nat.le_refl _) (by show 0 + len ≤ len; omega)
  rw [hh0] at ba3 st3
  have kp3 : XT.Kept s T3 := (XT.Kept.of_eq hh0).push bh3
  have hA3 := hA.keep X3.warmed.alike (kp3 _ _ hA.1.1)
  have hne : b ≠ s.heap.size := hA.1.ne
  have c4 : Steps p.tables e below (s₁.setTop (entryFrame m #[.ref b, .int (Int32.ofNat o), .int (Int32.ofNat len)] 6)) (T3.setTop (mkF m 3 #[.val (.ref b), .val (.int (Int32.ofNat o)), .val (.int (Int32.ofNat len)), .unset, .unset, .unset] [.ref s.heap.size])) := c2.trans (st3 _ (Steps.refl _))
  have c5 : Steps p.tables e below (s₁.setTop (entryFrame m #[.ref b, .int (Int32.ofNat o), .int (Int32.ofNat len)] 6)) (T3.setTop (mkF m 9 #[.val (.ref b), .val (.int (Int32.ofNat o)), .val (.int (Int32.ofNat len)), .val (.ref s.heap.size), .unset, .unset] [.int (Int32.ofNat len), .int 0, .ref s.heap.size, .int (Int32.ofNat o), .ref b])) := c4.trans (by
    refine XS.astoreN X3.here hexec rfl (hb hbytes d3) rfl rfl rfl ?_
    refine XS.aloadN X3.here hexec rfl (hb hbytes d4) rfl rfl ?_
    refine XS.iloadN X3.here hexec rfl (hb hbytes d5) rfl ?_
    refine XS.aloadN X3.here hexec rfl (hb hbytes d6) rfl rfl ?_
    refine iconstV X3.here hexec rfl 0 (hb hbytes d7) (by decide) ?_
    refine XS.iloadN X3.here hexec rfl (hb hbytes d8) rfl ?_
    exact Steps.refl _)
  obtain ⟨v6, T6, X6, E6, g6⟩ := X3.callS hexec (Cmp5.law l b A s.heap.size B3 o 0 len) hown (wks W (staticW U16 115 Cmp5.yN)) (wk W Cmp5.tab) (W := 0) (Nat.le_of_ble_eq_true rfl) (Nat.le_of_ble_eq_true rfl) (Nat.le_refl _) (by show 0 + len + 0 ≤ len; omega) (g := (mkF m 9 #[.val (.ref b), .val (.int (Int32.ofNat o)), .val (.int (Int32.ofNat len)), .val (.ref s.heap.size), .unset, .unset] [.int (Int32.ofNat len), .int (Int32.ofNat 0), .ref s.heap.size, .int (Int32.ofNat o), .ref b])) rfl (by rw [hml]; rfl) c5 (argsL := [.ref b, .int (Int32.ofNat o), .ref s.heap.size, .int (Int32.ofNat 0), .int (Int32.ofNat len)]) (rest := []) rfl rfl (by show 2 * 0 + 0 ≤ _; decide) (hb hbytes d9) (⟨rfl, hA3, ba3, hne, l1, by rw [bs3]; simp, hp⟩)
  obtain ⟨rfl, B6, p6, f6⟩ := E6
  have c7 : Steps p.tables e below (s₁.setTop (entryFrame m #[.ref b, .int (Int32.ofNat o), .int (Int32.ofNat len)] 6)) (T6.setTop (mkF m 12 #[.val (.ref b), .val (.int (Int32.ofNat o)), .val (.int (Int32.ofNat len)), .val (.ref s.heap.size), .unset, .unset] [.int (Int32.ofNat len)])) := g6
  have c8 : Steps p.tables e below (s₁.setTop (entryFrame m #[.ref b, .int (Int32.ofNat o), .int (Int32.ofNat len)] 6)) (T6.setTop (mkF m 58 #[.val (.ref b), .val (.int (Int32.ofNat o)), .val (.int (Int32.ofNat len)), .val (.ref s.heap.size), .val (.int (Int32.ofNat len)), .unset] [.ref s.heap.size])) := c7.trans (by
    refine XS.istore X6.here hexec rfl (hb hbytes d12) rfl rfl ?_
    refine XS.iload X6.here hexec rfl (hb hbytes d14) rfl ?_
    refine XS.iloadN X6.here hexec rfl (hb hbytes d16) rfl ?_
    refine XS.icmpYes X6.here hexec rfl (pc0 := 17) rfl (hb hbytes d17) rfl (ii_eq_t rfl) (by decide) rfl ?_
    refine XS.aloadN X6.here hexec rfl (hb hbytes d57) rfl rfl ?_
    exact Steps.refl _)
  have X8 := X6.wide (L' := []) (cells' := 1) (slots' := len) (fun x hx hlt => by
    simp only [List.nil_append, copyLocs, List.mem_map, List.mem_range] at hx
    obtain ⟨i, -, rfl⟩ := hx
    exact absurd hlt (Nat.lt_irrefl _)) (Nat.le_refl _) (by omega)
  exact ⟨T6, some (.ref s.heap.size), _, _, _, X8, rfl, rfl, rfl, (fun h => by cases h), ⟨⟨rfl, B6, ba3.like (X3.warmed.alike.symm.trans X6.warmed.alike) p6.1 f6.1 f6.2.1 f6.2.2.1, f6.2.1.trans bv3, by rw [X6.warmed.alike.findClass, f6.1]; exact bf3, by rw [f6.2.2.1, bs3]; simp, fun j hj => by rw [f6.2.2.2 j, if_pos (by omega)]; rfl, kp3.put p6 (Nat.le_refl _)⟩, by rw [p6.2.2, bh3, hh0]; simp⟩, fun fs hl => c8.trans (X8.areturnOut hexec rfl hret rfl (hb hbytes d58) hl)⟩
end Cmp3
namespace CodL
def yN : MethodName := ⟨"java/lang/StringUTF16", "coderFromArrayLen", "([BI)B"⟩
abbrev yB : ByteArray := jdk_52_method_15_code
theorem d0 : decode yB 0 = .ok (.iload_n 1, 1) := by decide +kernel
theorem d1 : decode yB 1 = .ok (.aload_n 0, 1) := by decide +kernel
theorem d2 : decode yB 2 = .ok (.arraylength, 1) := by decide +kernel
theorem d3 : decode yB 3 = .ok (.isub, 1) := by decide +kernel
theorem d4 : decode yB 4 = .ok (.bipush 31, 2) := by decide +kernel
theorem d6 : decode yB 6 = .ok (.iushr, 1) := by decide +kernel
theorem d7 : decode yB 7 = .ok (.i2b, 1) := by decide +kernel
theorem d8 : decode yB 8 = .ok (.ireturn, 1) := by decide +kernel
def site : List Cond := []
def tab : Cond := tabOf yN yB 2 (some .byte) site
def P (d : Addr) (B : Cell) (args : Array Value) (s : State) : Prop := args = #[.ref d, .int (Int32.ofNat B.slots.size)] ∧ Arr .byte d B s
def E (r : Option Value) (s u : State) : Prop := XT.PureE (some (.int 0)) r s u
/-- an array as long as the number of chars: LATIN1 -/
theorem law (l : Launch) (d : Addr) (B : Cell) : Law l yN 2 2 0 0 yB 2 (some .byte) site (P d B) E [] 0 0 := by
  refine Law.of_walk (plainFor_of_name (by decide +kernel)) (by decide +kernel) (by decide +kernel) (by decide) (fun _ _ h => by rw [h.1]; rfl) (fun _ U U' hal hh h => ⟨h.1, h.2.mv hal hh⟩) (fun r U U' V V' h1 hal h2 h => XT.PureE.mv r U U' V V' h1 hal h2 h) ?_
  intro p e s m args below meth c s₁ X0 hexec hbytes hml hret hlk hnm hown hh0 W hP
  obtain ⟨rfl, hB⟩ := hP
  have hB0 := hB.mv X0.warmed.alike hh0
  have c1 : Steps p.tables e below (s₁.setTop (entryFrame m #[.ref d, .int (Int32.ofNat B.slots.size)] 2)) (s₁.setTop (mkF m 0 #[.val (.ref d), .val (.int (Int32.ofNat B.slots.size))] [])) := entry rfl
  have c2 : Steps p.tables e below (s₁.setTop (entryFrame m #[.ref d, .int (Int32.ofNat B.slots.size)] 2)) (s₁.setTop (mkF m 2 #[.val (.ref d), .val (.int (Int32.ofNat B.slots.size))] [.ref d, .int (Int32.ofNat B.slots.size)])) := c1.trans (by
    refine XS.iloadN X0.here hexec rfl (hb hbytes d0) rfl ?_
    refine XS.aloadN X0.here hexec rfl (hb hbytes d1) rfl rfl ?_
    exact Steps.refl _)
  have c3 : Steps p.tables e below (s₁.setTop (entryFrame m #[.ref d, .int (Int32.ofNat B.slots.size)] 2)) (s₁.setTop (mkF m 8 #[.val (.ref d), .val (.int (Int32.ofNat B.slots.size))] [.int (lo8 (ushr (Int32.ofNat B.slots.size - Int32.ofNat B.slots.size) 31))])) := c2.trans (by
    refine X0.alen hexec hB0 rfl rfl (hb hbytes d2) ?_
    refine XS.isub X0.here hexec rfl (hb hbytes d3) rfl ?_
    refine bipushV X0.here hexec rfl 31 (hb hbytes d4) (by decide) ?_
    refine iushr X0.here hexec rfl (hb hbytes d6) rfl ?_
    refine i2b X0.here hexec rfl (hb hbytes d7) rfl ?_
    exact Steps.refl _)
  have e0 : lo8 (ushr (Int32.ofNat B.slots.size - Int32.ofNat B.slots.size) 31) = 0 := by rw [Int32.sub_self]; decide
  rw [e0] at c3
  exact ⟨s₁, some (.int 0), _, _, _, X0, rfl, rfl, rfl, (fun h => by cases h), ⟨rfl, hh0⟩, fun fs hl => c3.trans (X0.ireturnOut hexec hret rfl (Or.inr (Or.inr (Or.inl rfl))) (hb hbytes d8) hl)⟩
end CodL
/-- the String at a is Latin-1 over a new byte[] (the heap's one new cell): the low bytes of the len chars of A from o on; every cell but a is kept -/
def Got (a : Addr) (D : Cell) (fV fC : Field) (A : Cell) (o len : Nat) (r : Option Value) (s u : State) : Prop := r = none ∧ ∃ D' V : Cell, Blank "java/lang/String" a D' u ∧ Same D D' [fV.slot, fC.slot] ∧ D'.slots[fV.slot]? = some (.ref s.heap.size) ∧ D'.slots[fC.slot]? = some (.int 0) ∧ Arr .byte s.heap.size V u ∧ V.vm = .none ∧ u.vm.findClass "[B" = some V.cls ∧ V.slots.size = len ∧ (∀ j, j < len → V.slots[j]? = some (.int (lo8 (cv A (o + j))))) ∧ (∀ (y : Addr) (c : Cell), y ≠ a → s.heap[y]? = some c → u.heap[y]? = some c) ∧ u.heap.size = s.heap.size + 1
theorem Got.mv {a : Addr} {D A : Cell} {fV fC : Field} {o len : Nat} : ∀ r (U U' V V' : State), U'.heap = U.heap → V.vm.Alike V'.vm → V'.heap = V.heap → Got a D fV fC A o len r U V → Got a D fV fC A o len r U' V' :=
  fun r U U' V V' h1 hal h2 ⟨e0, D', X, a1, a2, a3, a4, a5, a6, a7, a8, a9, a10, a11⟩ => ⟨e0, D', X, a1.mv hal h2, a2, by rw [h1]; exact a3, a4, by rw [h1]; exact a5.mv hal h2, a6, by rw [hal.findClass]; exact a7, a8, a9, by rw [h1, h2]; exact a10, by rw [h1, h2]; exact a11⟩
namespace New4
def yN : MethodName := ⟨"java/lang/String", "<init>", "([CIILjava/lang/Void;)V"⟩
abbrev yB : ByteArray := jdk_42_method_149_code
theorem d0 : decode yB 0 = .ok (.aload_n 0, 1) := by decide +kernel
theorem d1 : decode yB 1 = .ok (.invokespecial 1, 3) := by decide +kernel
theorem d4 : decode yB 4 = .ok (.iload_n 3, 1) := by decide +kernel
theorem d5 : decode yB 5 = .ok (.ifCond (.ne) 22, 3) := by decide +kernel
theorem d27 : decode yB 27 = .ok (.getstatic 38, 3) := by decide +kernel
theorem d30 : decode yB 30 = .ok (.ifCond (.eq) 28, 3) := by decide +kernel
theorem d33 : decode yB 33 = .ok (.aload_n 1, 1) := by decide +kernel
theorem d34 : decode yB 34 = .ok (.iload_n 2, 1) := by decide +kernel
theorem d35 : decode yB 35 = .ok (.iload_n 3, 1) := by decide +kernel
theorem d36 : decode yB 36 = .ok (.invokestatic 177, 3) := by decide +kernel
theorem d39 : decode yB 39 = .ok (.astore 5, 2) := by decide +kernel
theorem d41 : decode yB 41 = .ok (.aload_n 0, 1) := by decide +kernel
theorem d42 : decode yB 42 = .ok (.aload 5, 2) := by decide +kernel
theorem d44 : decode yB 44 = .ok (.iload_n 3, 1) := by decide +kernel
theorem d45 : decode yB 45 = .ok (.invokestatic 47, 3) := by decide +kernel
theorem d48 : decode yB 48 = .ok (.putfield 15, 3) := by decide +kernel
theorem d51 : decode yB 51 = .ok (.aload_n 0, 1) := by decide +kernel
theorem d52 : decode yB 52 = .ok (.aload 5, 2) := by decide +kernel
theorem d54 : decode yB 54 = .ok (.putfield 9, 3) := by decide +kernel
theorem d57 : decode yB 57 = .ok (.return_, 1) := by decide +kernel
def site : List Cond := [.fieldLink "java/lang/String" 38 "java/lang/String" "COMPACT_STRINGS" "Z", Cmp3.tab, CodL.tab, .laysFinal "java/lang/String" "java/lang/String" "value" "[B", .fieldLink "java/lang/String" 9 "java/lang/String" "value" "[B", .laysFinal "java/lang/String" "java/lang/String" "coder" "B", .fieldLink "java/lang/String" 15 "java/lang/String" "coder" "B"] ++ objW "java/lang/String" 1 ++ staticW "java/lang/String" 177 Cmp3.yN ++ staticW "java/lang/String" 47 CodL.yN
def tab : Cond := tabOf yN yB 6 none site
def P (a : Addr) (D : Cell) (fV fC : Field) (b : Addr) (A : Cell) (z : Int32) (o len : Nat) (args : Array Value) (s : State) : Prop := args = #[.ref a, .ref b, .int (Int32.ofNat o), .int (Int32.ofNat len), .null] ∧ Blank "java/lang/String" a D s ∧ Found "java/lang/String" "value" "[B" fV s ∧ Found "java/lang/String" "coder" "B" fC s ∧ Ch b A s ∧ StaticIs s "java/lang/String" "COMPACT_STRINGS" "Z" (.int z) ∧ ¬ z = 0 ∧ 0 < len ∧ o + len ≤ A.slots.size ∧ len ≤ 536870912 ∧ ∀ i, i < len → ¬ 255 < cv A (o + i)
def E (a : Addr) (D : Cell) (fV fC : Field) (A : Cell) (o len : Nat) (r : Option Value) (s u : State) : Prop := Got a D fV fC A o len r s u
/-- len > 0, no char of the range above 255: a Latin-1 String of their low bytes -/
theorem law (l : Launch) (a : Addr) (D : Cell) (fV fC : Field) (b : Addr) (A : Cell) (z : Int32) (o len : Nat) : Law l yN 5 4 2 35 yB 6 none site (P a D fV fC b A z o len) (E a D fV fC A o len) [⟨a, fC.slot⟩, ⟨a, fV.slot⟩] 1 len := by
  refine Law.of_walk (plainFor_of_name (by decide +kernel)) (by decide +kernel) (by decide +kernel) (by decide) (fun _ _ h => by rw [h.1]; rfl) (fun _ U U' hal hh h => ⟨h.1, h.2.1.mv hal hh, h.2.2.1.al hal, h.2.2.2.1.al hal, h.2.2.2.2.1.mv hal hh, h.2.2.2.2.2.1.there hal hh, h.2.2.2.2.2.2⟩) (fun r U U' V V' h1 hal h2 h => Got.mv r U U' V V' h1 hal h2 h) ?_
  intro p e s m args below meth c s₁ X0 hexec hbytes hml hret hlk hnm hown hh0 W hP
  obtain ⟨rfl, hB, f1, f2, hA, s1, hz, l0, l1, l2, hp⟩ := hP
  have a31 := hA.1.2.2.2
  have c1 : Steps p.tables e below (s₁.setTop (entryFrame m #[.ref a, .ref b, .int (Int32.ofNat o), .int (Int32.ofNat len), .null] 6)) (s₁.setTop (mkF m 0 #[.val (.ref a), .val (.ref b), .val (.int (Int32.ofNat o)), .val (.int (Int32.ofNat len)), .val .null, .unset] [])) := entry rfl
  have c2 : Steps p.tables e below (s₁.setTop (entryFrame m #[.ref a, .ref b, .int (Int32.ofNat o), .int (Int32.ofNat len), .null] 6)) (s₁.setTop (mkF m 1 #[.val (.ref a), .val (.ref b), .val (.int (Int32.ofNat o)), .val (.int (Int32.ofNat len)), .val .null, .unset] [.ref a])) := c1.trans (by
    refine XS.aloadN X0.here hexec rfl (hb hbytes d0) rfl rfl ?_
    exact Steps.refl _)
  obtain ⟨T3, X3, q3, st3⟩ := X0.oinit hexec hown (wks W (objW "java/lang/String" 1)) (g := (mkF m 1 #[.val (.ref a), .val (.ref b), .val (.int (Int32.ofNat o)), .val (.int (Int32.ofNat len)), .val .null, .unset] [.ref a])) rfl (by rw [hml]; rfl) (rest := []) rfl (hb hbytes d1) (W := 0) (by show 2 * 0 + 0 ≤ _; decide) (Nat.le_of_ble_eq_true rfl) (Nat.le_of_ble_eq_true rfl)
  have hh3 := q3.trans hh0
  have c4 : Steps p.tables e below (s₁.setTop (entryFrame m #[.ref a, .ref b, .int (Int32.ofNat o), .int (Int32.ofNat len), .null] 6)) (T3.setTop (mkF m 27 #[.val (.ref a), .val (.ref b), .val (.int (Int32.ofNat o)), .val (.int (Int32.ofNat len)), .val .null, .unset] [])) := (c2.trans (st3 _ (Steps.refl _))).trans (by
    refine XS.iloadN X3.here hexec rfl (hb hbytes d4) rfl ?_
    refine XS.ifYes X3.here hexec rfl (pc0 := 5) rfl (hb hbytes d5) rfl (i0_ne_t (nz32 (by omega) l0)) (by decide) rfl ?_
    exact Steps.refl _)
  obtain ⟨T5, X5, q5, st5⟩ := X3.sget hexec hown (wk W (.fieldLink "java/lang/String" 38 "java/lang/String" "COMPACT_STRINGS" "Z")) s1 (fun _ _ h => by rw [hh3]; exact h) (g := (mkF m 27 #[.val (.ref a), .val (.ref b), .val (.int (Int32.ofNat o)), .val (.int (Int32.ofNat len)), .val .null, .unset] [])) rfl (hb hbytes d27)
  have hh5 := q5.trans hh3
  have c6 : Steps p.tables e below (s₁.setTop (entryFrame m #[.ref a, .ref b, .int (Int32.ofNat o), .int (Int32.ofNat len), .null] 6)) (T5.setTop (mkF m 30 #[.val (.ref a), .val (.ref b), .val (.int (Int32.ofNat o)), .val (.int (Int32.ofNat len)), .val .null, .unset] [.int z])) := c4.trans (st5 _ (Steps.refl _))
  have c7 : Steps p.tables e below (s₁.setTop (entryFrame m #[.ref a, .ref b, .int (Int32.ofNat o), .int (Int32.ofNat len), .null] 6)) (T5.setTop (mkF m 36 #[.val (.ref a), .val (.ref b), .val (.int (Int32.ofNat o)), .val (.int (Int32.ofNat len)), .val .null, .unset] [.int (Int32.ofNat len), .int (Int32.ofNat o), .ref b])) := c6.trans (by
    refine XS.ifNo X5.here hexec rfl (hb hbytes d30) rfl (i0_eq_f hz) ?_
    refine XS.aloadN X5.here hexec rfl (hb hbytes d33) rfl rfl ?_
    refine XS.iloadN X5.here hexec rfl (hb hbytes d34) rfl ?_
    refine XS.iloadN X5.here hexec rfl (hb hbytes d35) rfl ?_
    exact Steps.refl _)
  obtain ⟨v8, T8, X8, E8, g8⟩ := X5.callS hexec (Cmp3.law l b A o len) hown (wks W (staticW "java/lang/String" 177 Cmp3.yN)) (wk W Cmp3.tab) (W := 0) (Nat.le_of_ble_eq_true rfl) (Nat.le_of_ble_eq_true rfl) (Nat.le_refl _) (by show 0 + len ≤ len; omega) (g := (mkF m 36 #[.val (.ref a), .val (.ref b), .val (.int (Int32.ofNat o)), .val (.int (Int32.ofNat len)), .val .null, .unset] [.int (Int32.ofNat len), .int (Int32.ofNat o), .ref b])) rfl (by rw [hml]; rfl) c7 (argsL := [.ref b, .int (Int32.ofNat o), .int (Int32.ofNat len)]) (rest := []) rfl rfl (by show 2 * 0 + 0 ≤ _; decide) (hb hbytes d36) (⟨rfl, hA.mv X5.warmed.alike hh5, l1, l2, hp⟩)
  obtain ⟨e8, z8⟩ := E8
  obtain ⟨rfl, N, n1, n2, n3, n4, n5, n6⟩ := NewArr.mv _ T5 s _ _ hh5.symm (Vm.Alike.refl _) rfl e8
  rw [hh5] at z8
  have hB1 := hB.keep X8.warmed.alike (n6 _ _ hB.1)
  have hne : s.heap.size ≠ a := (Nat.ne_of_lt (Array.getElem?_eq_some_iff.mp hB.1).1).symm
  have c9 : Steps p.tables e below (s₁.setTop (entryFrame m #[.ref a, .ref b, .int (Int32.ofNat o), .int (Int32.ofNat len), .null] 6)) (T8.setTop (mkF m 39 #[.val (.ref a), .val (.ref b), .val (.int (Int32.ofNat o)), .val (.int (Int32.ofNat len)), .val .null, .unset] [.ref s.heap.size])) := g8
  have c10 : Steps p.tables e below (s₁.setTop (entryFrame m #[.ref a, .ref b, .int (Int32.ofNat o), .int (Int32.ofNat len), .null] 6)) (T8.setTop (mkF m 45 #[.val (.ref a), .val (.ref b), .val (.int (Int32.ofNat o)), .val (.int (Int32.ofNat len)), .val .null, .val (.ref s.heap.size)] [.int (Int32.ofNat N.slots.size), .ref s.heap.size, .ref a])) := by
    have hc : Steps p.tables e below (s₁.setTop (entryFrame m #[.ref a, .ref b, .int (Int32.ofNat o), .int (Int32.ofNat len), .null] 6)) (T8.setTop (mkF m 45 #[.val (.ref a), .val (.ref b), .val (.int (Int32.ofNat o)), .val (.int (Int32.ofNat len)), .val .null, .val (.ref s.heap.size)] [.int (Int32.ofNat len), .ref s.heap.size, .ref a])) := c9.trans (by
      refine XS.astore X8.here hexec rfl (hb hbytes d39) rfl rfl rfl ?_
      refine XS.aloadN X8.here hexec rfl (hb hbytes d41) rfl rfl ?_
      refine XS.aload X8.here hexec rfl (hb hbytes d42) rfl rfl ?_
      refine XS.iloadN X8.here hexec rfl (hb hbytes d44) rfl ?_
      exact Steps.refl _)
    rw [n4]; exact hc
  obtain ⟨v11, T11, X11, E11, g11⟩ := X8.callS hexec (CodL.law l s.heap.size N) hown (wks W (staticW "java/lang/String" 47 CodL.yN)) (wk W CodL.tab) (W := 1) (Nat.le_of_ble_eq_true rfl) (Nat.le_of_ble_eq_true rfl) (Nat.le_refl _) (by show 0 + len + 0 ≤ len; omega) (g := (mkF m 45 #[.val (.ref a), .val (.ref b), .val (.int (Int32.ofNat o)), .val (.int (Int32.ofNat len)), .val .null, .val (.ref s.heap.size)] [.int (Int32.ofNat N.slots.size), .ref s.heap.size, .ref a])) rfl (by rw [hml]; rfl) c10 (argsL := [.ref s.heap.size, .int (Int32.ofNat N.slots.size)]) (rest := [.ref a]) rfl rfl (by show 2 * 0 + (1 + 0) ≤ _; decide) (hb hbytes d45) (⟨rfl, n1⟩)
  obtain ⟨rfl, q11⟩ := E11
  have hB11 := hB1.mv (X8.warmed.alike.symm.trans X11.warmed.alike) q11
  have c12 : Steps p.tables e below (s₁.setTop (entryFrame m #[.ref a, .ref b, .int (Int32.ofNat o), .int (Int32.ofNat len), .null] 6)) (T11.setTop (mkF m 48 #[.val (.ref a), .val (.ref b), .val (.int (Int32.ofNat o)), .val (.int (Int32.ofNat len)), .val .null, .val (.ref s.heap.size)] [.int 0, .ref a])) := g11
  obtain ⟨T13, X13, p13, bl13, sl13, st13⟩ := X11.finit hexec hown (wk W (.fieldLink "java/lang/String" 15 "java/lang/String" "coder" "B")) (Or.inr ⟨_, (wk W (.laysFinal "java/lang/String" "java/lang/String" "coder" "B"))⟩) (Or.inl ⟨rfl, hnm⟩) f2 (Or.inl rfl) hB11 (t := .byte) (by decide +kernel) rfl (g := (mkF m 48 #[.val (.ref a), .val (.ref b), .val (.int (Int32.ofNat o)), .val (.int (Int32.ofNat len)), .val .null, .val (.ref s.heap.size)] [.int 0, .ref a])) rfl (rest := []) rfl (hb hbytes d48)
  have c14 : Steps p.tables e below (s₁.setTop (entryFrame m #[.ref a, .ref b, .int (Int32.ofNat o), .int (Int32.ofNat len), .null] 6)) (T13.setTop (mkF m 54 #[.val (.ref a), .val (.ref b), .val (.int (Int32.ofNat o)), .val (.int (Int32.ofNat len)), .val .null, .val (.ref s.heap.size)] [.ref s.heap.size, .ref a])) := (c12.trans (st13 _ (Steps.refl _))).trans (by
    refine XS.aloadN X13.here hexec rfl (hb hbytes d51) rfl rfl ?_
    refine XS.aload X13.here hexec rfl (hb hbytes d52) rfl rfl ?_
    exact Steps.refl _)
  obtain ⟨T15, X15, p15, bl15, sl15, st15⟩ := X13.finit hexec hown (wk W (.fieldLink "java/lang/String" 9 "java/lang/String" "value" "[B")) (Or.inr ⟨_, (wk W (.laysFinal "java/lang/String" "java/lang/String" "value" "[B"))⟩) (Or.inl ⟨rfl, hnm⟩) f1 (Or.inl rfl) bl13 (t := (.array .byte)) (by decide +kernel) rfl (g := (mkF m 54 #[.val (.ref a), .val (.ref b), .val (.int (Int32.ofNat o)), .val (.int (Int32.ofNat len)), .val .null, .val (.ref s.heap.size)] [.ref s.heap.size, .ref a])) rfl (rest := []) rfl (hb hbytes d54)
  have c16 : Steps p.tables e below (s₁.setTop (entryFrame m #[.ref a, .ref b, .int (Int32.ofNat o), .int (Int32.ofNat len), .null] 6)) (T15.setTop (mkF m 57 #[.val (.ref a), .val (.ref b), .val (.int (Int32.ofNat o)), .val (.int (Int32.ofNat len)), .val .null, .val (.ref s.heap.size)] [])) := c14.trans (st15 _ (Steps.refl _))
  have ap := apart (Or.inr ⟨_, (wk W (.laysFinal "java/lang/String" "java/lang/String" "value" "[B"))⟩) (Or.inr ⟨_, (wk W (.laysFinal "java/lang/String" "java/lang/String" "coder" "B"))⟩) f1 f2 (t₁ := .array .byte) (t₂ := .byte) (by decide +kernel) (by decide +kernel) (by decide)
  have al := X8.warmed.alike.symm.trans X15.warmed.alike
  have n7 : T11.heap[s.heap.size]? = some N := by rw [q11]; exact n1.1
  exact ⟨T15, none, _, _, _, X15, by simp, rfl, by omega, (fun _ => rfl), ⟨rfl, _, N, bl15, ((Same.refl D _).set _ (by simp)).set _ (by simp), sl15, (Cell.slots_setSlot_ne _ ap).trans sl13, n1.keep al (p15.other hne (p13.other hne n7)), n2, by rw [al.findClass]; exact n3, n4, n5, fun y c h1 h2 => p15.other h1 (p13.other h1 (by rw [q11]; exact n6 y c h2)), by rw [p15.2.2, p13.2.2, q11]; exact z8⟩, fun fs hl => c16.trans (X15.returnOut hexec hret (hb hbytes d57) hl)⟩
end New4
namespace New1
def yN : MethodName := ⟨"java/lang/String", "<init>", "([C)V"⟩
abbrev yB : ByteArray := jdk_42_method_3_code
theorem d0 : decode yB 0 = .ok (.aload_n 0, 1) := by decide +kernel
theorem d1 : decode yB 1 = .ok (.aload_n 1, 1) := by decide +kernel
theorem d2 : decode yB 2 = .ok (.iconst 0, 1) := by decide +kernel
theorem d3 : decode yB 3 = .ok (.aload_n 1, 1) := by decide +kernel
theorem d4 : decode yB 4 = .ok (.arraylength, 1) := by decide +kernel
theorem d5 : decode yB 5 = .ok (.aconst_null, 1) := by decide +kernel
theorem d6 : decode yB 6 = .ok (.invokespecial 27, 3) := by decide +kernel
theorem d9 : decode yB 9 = .ok (.return_, 1) := by decide +kernel
def site : List Cond := [New4.tab] ++ initW "java/lang/String" 27 New4.yN
def tab : Cond := tabOf yN yB 2 none site
def P (a : Addr) (D : Cell) (fV fC : Field) (b : Addr) (A : Cell) (z : Int32) (args : Array Value) (s : State) : Prop := args = #[.ref a, .ref b] ∧ Blank "java/lang/String" a D s ∧ Found "java/lang/String" "value" "[B" fV s ∧ Found "java/lang/String" "coder" "B" fC s ∧ Ch b A s ∧ StaticIs s "java/lang/String" "COMPACT_STRINGS" "Z" (.int z) ∧ ¬ z = 0 ∧ 0 < A.slots.size ∧ A.slots.size ≤ 536870912 ∧ ∀ i, i < A.slots.size → ¬ 255 < cv A i
def E (a : Addr) (D : Cell) (fV fC : Field) (A : Cell) (r : Option Value) (s u : State) : Prop := Got a D fV fC A 0 A.slots.size r s u
/-- new String(chars), not empty, no char above 255: a Latin-1 String of their low bytes -/
theorem law (l : Launch) (a : Addr) (D : Cell) (fV fC : Field) (b : Addr) (A : Cell) (z : Int32) : Law l yN 2 1 3 52 yB 2 none site (P a D fV fC b A z) (E a D fV fC A) [⟨a, fC.slot⟩, ⟨a, fV.slot⟩] 1 A.slots.size := by
  refine Law.of_walk (plainFor_of_name (by decide +kernel)) (by decide +kernel) (by decide +kernel) (by decide) (fun _ _ h => by rw [h.1]; rfl) (fun _ U U' hal hh h => ⟨h.1, h.2.1.mv hal hh, h.2.2.1.al hal, h.2.2.2.1.al hal, h.2.2.2.2.1.mv hal hh, h.2.2.2.2.2.1.there hal hh, h.2.2.2.2.2.2⟩) (fun r U U' V V' h1 hal h2 h => Got.mv r U U' V V' h1 hal h2 h) ?_
  intro p e s m args below meth c s₁ X0 hexec hbytes hml hret hlk hnm hown hh0 W hP
  obtain ⟨rfl, hB, f1, f2, hA, s1, hz, l0, l2, hp⟩ := hP
  have c1 : Steps p.tables e below (s₁.setTop (entryFrame m #[.ref a, .ref b] 2)) (s₁.setTop (mkF m 0 #[.val (.ref a), .val (.ref b)] [])) := entry rfl
  have c2 : Steps p.tables e below (s₁.setTop (entryFrame m #[.ref a, .ref b] 2)) (s₁.setTop (mkF m 6 #[.val (.ref a), .val (.ref b)] [.null, .int (Int32.ofNat A.slots.size), .int 0, .ref b, .ref a])) := c1.trans (by
    refine XS.aloadN X0.here hexec rfl (hb hbytes d0) rfl rfl ?_
    refine XS.aloadN X0.here hexec rfl (hb hbytes d1) rfl rfl ?_
    refine iconstV X0.here hexec rfl 0 (hb hbytes d2) (by decide) ?_
    refine XS.aloadN X0.here hexec rfl (hb hbytes d3) rfl rfl ?_
    refine X0.alen hexec (hA.1.mv X0.warmed.alike hh0) rfl rfl (hb hbytes d4) ?_
    refine XS.aconstNull X0.here hexec rfl (hb hbytes d5) ?_
    exact Steps.refl _)
  obtain ⟨v3, T3, X3, E3, g3⟩ := X0.callN hexec (New4.law l a D fV fC b A z 0 A.slots.size) rfl hown (wks W (initW "java/lang/String" 27 New4.yN)) (W New4.tab (by simp only [site, List.mem_cons, List.mem_append, true_or, or_true])) (W := 0) (Nat.le_of_ble_eq_true rfl) (Nat.le_of_ble_eq_true rfl) (Nat.le_refl _) (by show 0 + A.slots.size ≤ A.slots.size; omega) (g := (mkF m 6 #[.val (.ref a), .val (.ref b)] [.null, .int (Int32.ofNat A.slots.size), .int (Int32.ofNat 0), .ref b, .ref a])) rfl (by rw [hml]; rfl) c2 (argsL := [.ref b, .int (Int32.ofNat 0), .int (Int32.ofNat A.slots.size), .null]) (rest := []) rfl rfl (by show 2 * 0 + 0 ≤ _; decide) (hb hbytes d6) (⟨rfl, hB.mv X0.warmed.alike hh0, f1.al X0.warmed.alike, f2.al X0.warmed.alike, hA.mv X0.warmed.alike hh0, s1.there X0.warmed.alike hh0, hz, l0, by omega, l2, fun i hi => by rw [Nat.zero_add]; exact hp i hi⟩)
  have e0 := Got.mv _ s₁ s _ _ hh0.symm (Vm.Alike.refl _) rfl E3
  obtain rfl := e0.1
  have c4 : Steps p.tables e below (s₁.setTop (entryFrame m #[.ref a, .ref b] 2)) (T3.setTop (mkF m 9 #[.val (.ref a), .val (.ref b)] [])) := g3
  exact ⟨T3, none, _, _, _, X3, by simp, rfl, by omega, (fun _ => rfl), e0, fun fs hl => c4.trans (X3.returnOut hexec hret (hb hbytes d9) hl)⟩
theorem pays {l : Launch} {R : Room} {p : Program} {e : Env} {below : List Frame} {s : State} {sargs : Array Value} {len W : Nat} (a : Addr) (D : Cell) (fV fC : Field) (b : Addr) (A : Cell) (z : Int32) (htab : tab.before sargs s = true) (hfr : 4 ≤ R.frames) (hlo : W + 65 ≤ R.locals) :
    Back l R p e below s sargs yN len W (fun A₁ a₁ => A₁.cells + 1 ≤ R.cells ∧ A₁.slots + A.slots.size ≤ R.slots ∧ P a D fV fC b A z a₁ A₁.U) (fun A₁ _ v₁ B₁ => E a D fV fC A v₁ A₁.U B₁.U ∧ B₁.locs = A₁.locs ++ [⟨a, fC.slot⟩, ⟨a, fV.slot⟩] ∧ B₁.cells = A₁.cells + 1 ∧ B₁.slots = A₁.slots + A.slots.size) :=
  (law l a D fV fC b A z).pays htab hfr (by omega)
end New1
/-- the byte, read back as charAt reads it, is the char -/
theorem lo8_mask {x : Int32} (h0 : ¬ x < 0) (h1 : ¬ 255 < x) : lo8 x &&& 255 = x := by
  have t : ∀ k : Fin 256, lo8 (Int32.ofNat k.val) &&& 255 = Int32.ofNat k.val := by decide +kernel
  rw [Int32.lt_iff_toInt_lt] at h0 h1
  have e0 : (0 : Int32).toInt = 0 := rfl
  have e1 : (255 : Int32).toInt = 255 := rfl
  obtain ⟨k, hk⟩ : ∃ k : Nat, x.toInt = k := ⟨x.toInt.toNat, by omega⟩
  have hx : x = Int32.ofNat k := Int32.toInt_inj.mp (by rw [hk, Int32.toInt_ofNat_small (by omega)])
  rw [hx]
  exact t ⟨k, by omega⟩
end StrChars
namespace StrChars.Road
open Jvm Sem ClassFile Op Lib Jvm.Stand Jvm.Free Jvm.Free.XT
open Jvm.Lib.Cold (StaticIs)
abbrev ST : String := "java/lang/String"
/-- every table word that New1's law asks, flat -/
abbrev words : List Jvm.Cond := [.code New1.yN New1.yB 2 none, .initialized ST, .methodLink ST 27 New4.yN, .instanceMethod New4.yN,
  .code New4.yN New4.yB 6 none, .fieldLink ST 38 ST "COMPACT_STRINGS" "Z", .laysFinal ST ST "value" "[B", .fieldLink ST 9 ST "value" "[B", .laysFinal ST ST "coder" "B", .fieldLink ST 15 ST "coder" "B",
  .methodLink ST 1 Lib.objectInit, .instanceMethod Lib.objectInit, .code Lib.objectInit ⟨#[0xb1]⟩ 1 none, .methodLink ST 177 Cmp3.yN, .static Cmp3.yN, .methodLink ST 47 CodL.yN, .static CodL.yN,
  .code Cmp3.yN Cmp3.yB 6 (some (.array .byte)), .initialized U16, .arrayClass .byte, .methodLink U16 115 Cmp5.yN, .static Cmp5.yN, .code Cmp5.yN Cmp5.yB 7 (some .int), .code CodL.yN CodL.yB 2 (some .byte)]
theorem tab_of {a : Array Value} {s : State} (h : ∀ w ∈ words, w.before a s = true) : New1.tab.before a s = true := by
  have h5 : Cmp5.tab.before a s = true := unparts (wk h (.code Cmp5.yN Cmp5.yB 7 (some .int))) (wks h (.initialized Cmp5.yN.cls :: Cmp5.site))
  have hc : CodL.tab.before a s = true := unparts (wk h (.code CodL.yN CodL.yB 2 (some .byte))) (wks h (.initialized CodL.yN.cls :: CodL.site))
  have q5 : ∀ w ∈ Cmp5.tab :: words, w.before a s = true := fun w hw => (List.mem_cons.mp hw).elim (fun e => e ▸ h5) (h w)
  have h3 : Cmp3.tab.before a s = true := unparts (wk q5 (.code Cmp3.yN Cmp3.yB 6 (some (.array .byte)))) (wks q5 (.initialized Cmp3.yN.cls :: Cmp3.site))
  have q3 : ∀ w ∈ Cmp3.tab :: CodL.tab :: words, w.before a s = true := fun w hw => (List.mem_cons.mp hw).elim (fun e => e ▸ h3) fun hw => (List.mem_cons.mp hw).elim (fun e => e ▸ hc) (h w)
  have h4 : New4.tab.before a s = true := unparts (wk q3 (.code New4.yN New4.yB 6 none)) (wks q3 (.initialized New4.yN.cls :: New4.site))
  have q4 : ∀ w ∈ New4.tab :: words, w.before a s = true := fun w hw => (List.mem_cons.mp hw).elim (fun e => e ▸ h4) (h w)
  exact unparts (wk q4 (.code New1.yN New1.yB 2 none)) (wks q4 (.initialized New1.yN.cls :: New1.site))
/-- the words ride from the start Z to the walk's own state -/
theorem moved {Z s : State} {a0 args : Array Value} (hZ : Z.Warmed39 s.vm) (hw : ∀ d ∈ words, d.before a0 Z = true) : ∀ d ∈ words, d.before args s = true := fun d hd => by
  have q := hw d hd
  have t : ∀ d ∈ words, d = .arrayClass .byte ∨ (d.onTables && d.keepsFace) = true := by decide +kernel
  rcases t d hd with rfl | t
  · exact RoadKit.mvA hZ q
  · exact RoadKit.mv hZ q t
/-- WHAT COMES BACK, over the tables of the start Z: h the heap at the call, h' behind it -/
def Q (Z : State) (x : Addr) (A : Cell) (h : Heap) (v : Option Value) (h' : Heap) (L : List Loc) : Prop := v = none ∧ (∀ y ∈ L, y.base = x) ∧ RoadKit.Keep h h' [x] ∧ h'.size = h.size + 1 ∧ RoadKit.Exa Z h' x ST ∧ RoadKit.Fld Z h' x ST "value" "[B" (.ref h.size) ∧ RoadKit.Fld Z h' x ST "coder" "B" (.int 0) ∧
  (∃ V : Cell, RoadKit.Arr Z h' h.size V .byte ∧ V.vm = .none ∧ Z.vm.findClass "[B" = some V.cls ∧ V.slots.size = A.slots.size ∧ ∀ j, j < A.slots.size → V.slots[j]? = some (.int (lo8 (cv A j)))) ∧
  ∀ (O n d : String) (w : Value), RoadKit.Fld Z h x O n d w → RoadKit.slotOf Z O n d ≠ RoadKit.slotOf Z ST "value" "[B" → RoadKit.slotOf Z O n d ≠ RoadKit.slotOf Z ST "coder" "B" → RoadKit.Fld Z h' x O n d w
/-- **new String(chars) AT A CALL, IN THE ROAD'S FORM**: for specialBack behind newO: x the fresh String, b the char[] with the cell A -/
theorem back {p : Program} {l : Launch} {e : Env} {R : Room} {s : State} {args : Array Value} {below : List Frame} {len W : Nat} {Z : State} {a0 : Array Value} {h : Heap} (hZ : Z.Warmed39 s.vm) (hw : ∀ d ∈ words, d.before a0 Z = true) {kI : Nat} (wi : (Jvm.Cond.instantiable ST kI).before a0 Z = true)
    {x b : Addr} {A : Cell} {z : Int32} {v0 c0 : Value} (E : RoadKit.Exa Z h x ST) (V : RoadKit.Fld Z h x ST "value" "[B" v0) (C : RoadKit.Fld Z h x ST "coder" "B" c0) (K : RoadKit.Arr Z h b A .char) (hty : Typed .char A) (S : RoadKit.Sta Z h ST "COMPACT_STRINGS" "Z" (.int z)) (hz : ¬ z = 0)
    (l0 : 0 < A.slots.size) (l2 : A.slots.size ≤ 536870912) (hp : ∀ i, i < A.slots.size → ¬ 255 < cv A i) (hfr : 4 ≤ R.frames) (hlo : W + 65 ≤ R.locals) :
    Back l R p e below s args New1.yN len W (fun P a => a = #[.ref x, .ref b] ∧ P.U.heap = h ∧ P.cells + 1 ≤ R.cells ∧ P.slots + A.slots.size ≤ R.slots)
      (fun P _ v B => ∃ L, Q Z x A h v B.U.heap L ∧ B.locs = P.locs ++ L ∧ B.cells = P.cells + 1 ∧ B.slots = P.slots + A.slots.size) := by
  intro m meth c P g ig mk a X hg hsize hdg hW hn hp'
  obtain ⟨rfl, rfl, r1, r2⟩ := hp'
  have al : Z.vm.Alike P.U.vm := hZ.alike.trans X.warmed.alike
  obtain ⟨D, cfV, kV, iV, fV, hD, gV, stV, knV, obV, asV, slV⟩ := id V
  obtain ⟨D', cfC, kC, iC, fC, hD', gC, stC, -, -, asC, slC⟩ := id C
  cases hD.symm.trans hD'
  obtain ⟨D2, kD, e1, e2, e3, e4, e5⟩ := id E
  cases hD.symm.trans e1
  obtain ⟨c2, k2, i1, i2, i3, -⟩ := Cond.instantiable_spec wi
  cases e2.symm.trans i1
  cases e3.symm.trans i2
  obtain ⟨kU, u1, u2⟩ := al.2.2 _ _ e3
  have hB : Blank ST x D P.U := ⟨hD, ⟨knV, fun q hq => by rw [hq] at obV; cases obV⟩, by rw [al.findClass]; exact e2, kU, u1, by rw [u2]; exact i3, by rw [u2]; exact e5 i3⟩
  have F1 : Found ST "value" "[B" fV P.U := ⟨SBG.found_only al ⟨cfV, kV, iV, gV⟩, stV⟩
  have F2 : Found ST "coder" "B" fC P.U := ⟨SBG.found_only al ⟨cfC, kC, iC, gC⟩, stC⟩
  have hA : Ch b A P.U := ⟨⟨K.1, State.isArrayOf_alike al K.2.1, K.2.2, by omega⟩, hty⟩
  have hS : StaticIs P.U ST "COMPACT_STRINGS" "Z" (.int z) := by
    obtain ⟨cfS, iS, kS, fS, st, cS, t1, t2, t3, t4, t5, t6, t7⟩ := S
    exact StaticIs.there (s := { Z with heap := P.U.heap }) ⟨cfS, iS, kS, fS, st, cS, t1, t2, t3, t4, t5, (fun q => by rw [q] at t6; cases t6), t7⟩ al rfl
  obtain ⟨v, B, X', ⟨⟨hv, E', V', q1, q2, q3, q4, q5, q6, q7, q8, q9, q10, q11⟩, hl, hc, hs⟩, st⟩ := New1.pays x D fV fC b A z (tab_of (moved hZ hw)) hfr hlo m meth c P g ig mk _ X hg hsize hdg hW hn ⟨r1, r2, rfl, hB, F1, F2, hA, hS, hz, l0, l2, hp⟩
  have al' : Z.vm.Alike B.U.vm := hZ.alike.trans X'.warmed.alike
  have hsz : E'.slots.size = D.slots.size := by
    obtain ⟨-, -, -, kB, w1, w2, w3⟩ := q1
    obtain ⟨kB', y1, y2⟩ := al'.2.2 _ _ e3
    rw [q2.2.1] at w1
    cases w1.symm.trans y1
    rw [w3, e5 i3, y2]
  refine ⟨v, B, X', ⟨_, ⟨hv, ?_, ⟨by omega, fun y cy hy hn' => q10 y cy (by simpa using hn') hy, fun y cy hy => ?_⟩, q11, ⟨E', _, q1.1, by rw [q2.2.1]; exact e2, by rw [q2.2.1]; exact e3, by rw [q2.1]; exact obV, fun _ => by rw [hsz]; exact e5 i3⟩,
    ⟨E', cfV, kV, iV, fV, q1.1, gV, stV, by rw [q2.1]; exact knV, by rw [q2.1]; exact obV, by rw [q2.2.1]; exact asV, q3⟩, ⟨E', cfC, kC, iC, fC, q1.1, gC, stC, by rw [q2.1]; exact knV, by rw [q2.1]; exact obV, by rw [q2.2.1]; exact asC, q4⟩,
    ⟨V', ⟨q5.1, State.isArrayOf_alike al'.symm q5.2.1, q5.2.2.1⟩, q6, by rw [← al'.findClass]; exact q7, q8, fun j hj => by have := q9 j hj; rwa [Nat.zero_add] at this⟩, fun O n d w F n1 n2 => ?_⟩, hl, hc, hs⟩, st⟩
  · intro y hy
    simp only [List.mem_cons, List.not_mem_nil, or_false] at hy
    rcases hy with rfl | rfl <;> rfl
  · by_cases q : y = x
    · subst q
      cases hD.symm.trans hy
      exact ⟨E', q1.1, q2.2.1, q2.1, hsz⟩
    · exact ⟨cy, q10 y cy q hy, rfl, rfl, rfl⟩
  · obtain ⟨D3, cf, k, i, f, g1, g2, g3, g4, g5, g6, g7⟩ := F
    cases hD.symm.trans g1
    simp only [RoadKit.slotOf, g2, gV, gC, Option.map_some, Option.getD_some] at n1 n2
    exact ⟨E', cf, k, i, f, q1.1, g2, g3, by rw [q2.1]; exact g4, by rw [q2.1]; exact g5, by rw [q2.2.1]; exact g6, by rw [q2.2.2 f.slot (by simp [n1, n2])]; exact g7⟩
end StrChars.Road
namespace StrChars.Road
open Jvm Sem ClassFile Op Lib Jvm.Stand Jvm.Free Jvm.Free.XT
/-- WHAT COMES BACK, the byte[] as a list of values -/
def QA (Z : State) (x : Addr) (zn : Int32) (cs : List Int32) (h : Heap) (v : Option Value) (h' : Heap) (L : List Loc) : Prop := v = none ∧ (∀ y ∈ L, y.base = x) ∧ RoadKit.Keep h h' [x] ∧ h'.size = h.size + 1 ∧ RoadKit.Exa Z h' x ST ∧ RoadKit.Fld Z h' x ST "value" "[B" (.ref h.size) ∧ RoadKit.Fld Z h' x ST "coder" "B" (.int 0) ∧
  (∃ kb, Z.vm.findClass "[B" = some kb ∧ RoadKit.Arv Z h' h.size kb .byte zn (cs.map fun c => .int (lo8 c)) (.int 0)) ∧
  ∀ (O n d : String) (w : Value), RoadKit.Fld Z h x O n d w → RoadKit.slotOf Z O n d ≠ RoadKit.slotOf Z ST "value" "[B" → RoadKit.slotOf Z O n d ≠ RoadKit.slotOf Z ST "coder" "B" → RoadKit.Fld Z h' x O n d w
/-- **new String(chars) AT A CALL, THE ARRAYS AS LISTS**: the char[] at b holds cs, not empty, no char above 255 -/
theorem backArv {p : Program} {l : Launch} {e : Env} {R : Room} {s : State} {args : Array Value} {below : List Frame} {len W : Nat} {Z : State} {a0 : Array Value} {h : Heap} (hZ : Z.Warmed39 s.vm) (hw : ∀ d ∈ words, d.before a0 Z = true) {kI : Nat} (wi : (Jvm.Cond.instantiable ST kI).before a0 Z = true)
    {x b : Addr} {k : ClassId} {zn z : Int32} {cs : List Int32} {dv v0 c0 : Value} (E : RoadKit.Exa Z h x ST) (V : RoadKit.Fld Z h x ST "value" "[B" v0) (C : RoadKit.Fld Z h x ST "coder" "B" c0) (K : RoadKit.Arv Z h b k .char zn (cs.map Value.int) dv) (S : RoadKit.Sta Z h ST "COMPACT_STRINGS" "Z" (.int z)) (hz : ¬ z = 0)
    (hlen : zn.toNatClampNeg = cs.length) (h0 : 0 < cs.length) (hbig : cs.length ≤ 536870912) (hall : ∀ c ∈ cs, ¬ 255 < c) (hfr : 4 ≤ R.frames) (hlo : W + 65 ≤ R.locals) :
    Back l R p e below s args New1.yN len W (fun P a => a = #[.ref x, .ref b] ∧ P.U.heap = h ∧ P.cells + 1 ≤ R.cells ∧ P.slots + cs.length ≤ R.slots)
      (fun P _ v B => ∃ L, QA Z x zn cs h v B.U.heap L ∧ B.locs = P.locs ++ L ∧ B.cells = P.cells + 1 ∧ B.slots = P.slots + cs.length) := by
  obtain ⟨A, K1, K2, K3, K4, K5, K6⟩ := K
  have e : A.slots.size = cs.length := K3.trans hlen
  have hat : ∀ (i : Nat) (hi : i < cs.length), A.slots[i]? = some (.int cs[i]) := fun i hi => by rw [K5 i (by omega)]; simp [List.getD_eq_getElem?_getD, hi]
  have hcv : ∀ (i : Nat) (hi : i < cs.length), cv A i = cs[i] := fun i hi => by unfold cv; rw [hat i hi]
  have hty : Typed .char A := fun i v hv => by
    have hi : i < A.slots.size := (Array.getElem?_eq_some_iff.mp hv).1
    have q := K5 i hi
    rw [hv] at q
    rw [Option.some.inj q]
    exact K6 i hi
  refine Back.mono (back hZ hw wi E V C K1 hty S hz (by omega) (by omega) (fun i hi => by rw [hcv i (by omega)]; exact hall _ (List.getElem_mem _)) hfr hlo) (fun P a hp => ⟨hp.1, hp.2.1, hp.2.2.1, by rw [e]; exact hp.2.2.2⟩) (fun P a v B hp hq => ?_)
  obtain ⟨L, ⟨q1, q2, q3, q4, q5, q6, q7, ⟨V', v1, v2, v3, v4, v5⟩, q9⟩, hl, hc, hs⟩ := hq
  refine ⟨L, ⟨q1, q2, q3, q4, q5, q6, q7, ⟨V'.cls, v3, V', v1, rfl, by rw [v4, e, hlen], K4, fun i hi => ?_, fun i hi => ?_⟩, q9⟩, hl, hc, by rw [hs, e]⟩
  · have hi' : i < cs.length := by omega
    rw [v5 i (by omega), hcv i hi']; simp [List.getD_eq_getElem?_getD, hi']
  · have hi' : i < cs.length := by omega
    simp only [List.getD_eq_getElem?_getD, List.getElem?_map, List.getElem?_eq_getElem hi', Option.map_some, Option.getD_some]
    exact fits_lo8 _
end StrChars.Road
namespace StrChars.Road
open Jvm Sem ClassFile Op Lib Jvm.Stand Jvm.Free Jvm.Free.XT
/-- WHAT COMES BACK, in the writer's own shape -/
def QV (Z : State) (x : Addr) (N : Int32) (bs : List Int32) (h : Heap) (n0 : Nat) (v : Option Value) (h' : Heap) (L : List Loc) : Prop := v = none ∧ RoadKit.Fr n0 L ∧ RoadKit.Keep h h' [x] ∧ RoadKit.Exa Z h' x ST ∧ RoadKit.Fld Z h' x ST "coder" "B" (.int 0) ∧
  ∃ (t : Addr) (kb : ClassId), n0 ≤ t ∧ h.size ≤ t ∧ ¬ t = x ∧ RoadKit.Fld Z h' x ST "value" "[B" (.ref t) ∧ RoadKit.Arv Z h' t kb .byte N (bs.map Value.int) (.int 0)
/-- **new String(chars) AT A CALL, FOR THE WRITER**: a char[] of n known ints, each 0 to 255 -/
theorem backV {p : Program} {l : Launch} {e : Env} {R : Room} {s : State} {args : Array Value} {below : List Frame} {len W : Nat} {Z : State} {a0 : Array Value} {h : Heap} (hZ : Z.Warmed39 s.vm) (hw : ∀ d ∈ words, d.before a0 Z = true) {kI : Nat} (wi : (Jvm.Cond.instantiable ST kI).before a0 Z = true)
    {x b : Addr} {kC : ClassId} {cs bs : List Int32} {d v0 c0 : Value} {z N : Int32} {n n0 : Nat} (hx0 : n0 ≤ x) (hh0 : n0 ≤ h.size) (E : RoadKit.Exa Z h x ST) (V : RoadKit.Fld Z h x ST "value" "[B" v0) (C : RoadKit.Fld Z h x ST "coder" "B" c0) (K : RoadKit.Arv Z h b kC .char N (cs.map Value.int) d) (S : RoadKit.Sta Z h ST "COMPACT_STRINGS" "Z" (.int z)) (hz : ¬ z = 0)
    (hn : cs.length = n) (hN : N = Int32.ofNat n) (l0 : 0 < n) (l2 : n ≤ 4000) (hp : ∀ c ∈ cs, ¬ c < 0 ∧ ¬ (255 : Int32) < c) (hb : bs = cs.map (fun c => c.toInt8.toInt32)) (hfr : 4 ≤ R.frames) (hlo : W + 65 ≤ R.locals) :
    Back l R p e below s args (⟨"java/lang/String", "<init>", "([C)V"⟩ : MethodName) len W (fun P a => a = #[.ref x, .ref b] ∧ P.U.heap = h ∧ P.cells + 1 ≤ R.cells ∧ P.slots + n ≤ R.slots)
      (fun P _ v B => ∃ L, QV Z x N bs h n0 v B.U.heap L ∧ B.locs = P.locs ++ L ∧ B.cells = P.cells + 1 ∧ B.slots = P.slots + n) := by
  subst hn hN hb
  refine Back.mono (backArv hZ hw wi E V C K S hz (n32 (by omega)) l0 (by omega) (fun c hc => (hp c hc).2) hfr hlo) (fun P a hp => hp) (fun P a v B hp hq => ?_)
  obtain ⟨L, ⟨q1, q2, q3, q4, q5, q6, q7, ⟨kb, v1, v2⟩, q9⟩, hl, hc, hs⟩ := hq
  exact ⟨L, ⟨q1, fun y hy => by rw [q2 y hy]; exact hx0, q3, q5, q7, h.size, kb, hh0, Nat.le_refl _, Nat.ne_of_gt E.lt, q6, by rw [List.map_map]; exact v2⟩, hl, hc, hs⟩
end StrChars.Road
namespace StrChars
open Jvm Sem ClassFile Op Lib Jvm.Stand Jvm.Free.XT Jvm.Free.ALB Jvm.Free.JM Jvm.Free
open Jvm.Lib.Cold (StaticIs)
def hi8 (x : Int32) : Int32 := lo8 (x >>> ((8 : Int32) &&& 31))
/-- what StringUTF16.getChar makes of two bytes -/
def pairCh (u v : Int32) : Int32 := (((u &&& 255) <<< ((0 : Int32) &&& 31)) ||| ((v &&& 255) <<< ((8 : Int32) &&& 31))).toUInt32.toUInt16.toUInt32.toInt32
theorem shr0 (c : Int32) : c >>> ((0 : Int32) &&& 31) = c := by
  have e : ((0 : Int32) &&& 31) = 0 := by decide
  rw [e]
  apply Int32.toBitVec_inj.mp
  rw [Int32.toBitVec_shiftRight]
  have e1 : ((0 : Int32).toBitVec.smod 32) = 0#32 := by decide
  rw [e1, BitVec.sshiftRight_eq']
  exact BitVec.sshiftRight_zero
theorem lo8_and (x : Int32) : (lo8 x &&& 255).toBitVec.toNat = x.toBitVec.toNat % 256 := by
  have h : (lo8 x).toBitVec = (x.toBitVec.signExtend 8).signExtend 32 := by rw [lo8, Int8.toBitVec_toInt32, Int32.toBitVec_toInt8]
  rw [Int32.toBitVec_and, BitVec.toNat_and, h]
  have e : ((x.toBitVec.signExtend 8).signExtend 32).toNat % 256 = x.toBitVec.toNat % 256 := by
    rw [BitVec.toNat_signExtend]
    have hlt := x.toBitVec.isLt
    simp only [BitVec.toNat_setWidth, BitVec.toNat_signExtend]
    split <;> split <;> omega
  rw [← e]
  exact Nat.and_two_pow_sub_one_eq_mod _ 8
theorem pair_says {c : Int32} (h0 : ¬ c < 0) (h1 : ¬ 65535 < c) : pairCh (lo8 c) (hi8 c) = c := by
  rw [Int32.lt_iff_toInt_lt] at h0 h1
  have e0 : (0 : Int32).toInt = 0 := rfl
  have e1 : (65535 : Int32).toInt = 65535 := rfl
  have hc : c.toInt = c.toBitVec.toNat := by
    have := c.toBitVec.isLt
    have e : c.toInt = c.toBitVec.toInt := rfl
    rw [e] at h0 h1
    rw [e]
    rw [BitVec.toInt_eq_toNat_cond] at h0 h1 ⊢
    split at h0 <;> split <;> omega
  have hn : c.toBitVec.toNat < 65536 := by omega
  have a1 := lo8_and c
  have a2 : (hi8 c &&& 255).toBitVec.toNat = c.toBitVec.toNat / 256 := by
    rw [hi8, lo8_and]
    have e : ((8 : Int32) &&& 31) = 8 := by decide
    rw [e, Int32.toBitVec_shiftRight]
    have e2 : ((8 : Int32).toBitVec.smod 32) = 8#32 := by decide
    rw [e2, BitVec.sshiftRight_eq', BitVec.toNat_sshiftRight_of_msb_false (by rw [BitVec.msb_eq_false_iff_two_mul_lt]; omega)]
    show c.toBitVec.toNat >>> 8 % 256 = _
    rw [Nat.shiftRight_eq_div_pow]
    omega
  unfold pairCh
  apply Int32.toBitVec_inj.mp
  apply BitVec.eq_of_toNat_eq
  have f0 : ((0 : Int32) &&& 31) = 0 := by decide
  have f8 : ((8 : Int32) &&& 31) = 8 := by decide
  rw [f0, f8]
  have g : (((lo8 c &&& 255) <<< (0 : Int32)) ||| ((hi8 c &&& 255) <<< (8 : Int32))).toBitVec.toNat = c.toBitVec.toNat := by
    rw [Int32.toBitVec_or, Int32.toBitVec_shiftLeft, Int32.toBitVec_shiftLeft]
    have s0 : ((0 : Int32).toBitVec.smod 32) = 0#32 := by decide
    have s8 : ((8 : Int32).toBitVec.smod 32) = 8#32 := by decide
    rw [s0, s8, BitVec.toNat_or]
    simp only [BitVec.shiftLeft_eq', BitVec.toNat_shiftLeft, a1, a2]
    show (c.toBitVec.toNat % 256) <<< 0 % 2 ^ 32 ||| (c.toBitVec.toNat / 256) <<< 8 % 2 ^ 32 = _
    rw [Nat.shiftLeft_zero, Nat.mod_eq_of_lt (show c.toBitVec.toNat % 256 < 2 ^ 32 by omega), Nat.mod_eq_of_lt (show (c.toBitVec.toNat / 256) <<< 8 < 2 ^ 32 by rw [Nat.shiftLeft_eq]; omega), Nat.or_comm, ← Nat.shiftLeft_add_eq_or_of_lt (by omega), Nat.shiftLeft_eq]
    omega
  show BitVec.toNat (((((lo8 c &&& 255) <<< (0 : Int32)) ||| ((hi8 c &&& 255) <<< (8 : Int32))).toBitVec.setWidth 16).setWidth 32) = _
  rw [BitVec.toNat_setWidth, BitVec.toNat_setWidth, g]
  omega
end StrChars
namespace StrChars
open Jvm Sem ClassFile Op Lib Jvm.Stand Jvm.Free.XT Jvm.Free.ALB Jvm.Free.JM Jvm.Free
open Jvm.Lib.Cold (StaticIs)
theorem shr1 {n : Nat} (h : 2 * n < 2 ^ 31) : Int32.ofNat (2 * n) >>> ((1 : Int32) &&& 31) = Int32.ofNat n := by
  have e : ((1 : Int32) &&& 31) = 1 := by decide
  rw [e]
  apply Int32.toBitVec_inj.mp
  rw [Int32.toBitVec_shiftRight]
  have e1 : ((1 : Int32).toBitVec.smod 32) = 1#32 := by decide
  have hm : (BitVec.ofNat 32 (2 * n)).toNat = 2 * n := by rw [BitVec.toNat_ofNat, Nat.mod_eq_of_lt (by omega)]
  rw [e1, BitVec.sshiftRight_eq']
  apply BitVec.eq_of_toNat_eq
  show ((BitVec.ofNat 32 (2 * n)).sshiftRight 1).toNat = (BitVec.ofNat 32 n).toNat
  rw [BitVec.toNat_sshiftRight_of_msb_false (by rw [BitVec.msb_eq_false_iff_two_mul_lt, hm]; omega), hm, BitVec.toNat_ofNat, Nat.shiftRight_eq_div_pow]
  omega
/-- charAt's cast of a byte read back -/
def chr8 (u : Int32) : Int32 := (u &&& 255).toUInt32.toUInt16.toUInt32.toInt32
theorem chr8_lo8 {c : Int32} (h0 : ¬ c < 0) (h1 : ¬ 255 < c) : chr8 (lo8 c) = c := by
  have t : ∀ k : Fin 256, (Int32.ofNat k.val).toUInt32.toUInt16.toUInt32.toInt32 = Int32.ofNat k.val := by decide +kernel
  unfold chr8
  rw [lo8_mask h0 h1]
  rw [Int32.lt_iff_toInt_lt] at h0 h1
  have e0 : (0 : Int32).toInt = 0 := rfl
  have e1 : (255 : Int32).toInt = 255 := rfl
  obtain ⟨k, hk⟩ : ∃ k : Nat, c.toInt = k := ⟨c.toInt.toNat, by omega⟩
  have hx : c = Int32.ofNat k := Int32.toInt_inj.mp (by rw [hk, Int32.toInt_ofNat_small (by omega)])
  rw [hx]
  exact t ⟨k, by omega⟩
theorem narrow_ch {c : Int32} (h0 : ¬ c < 0) (h1 : ¬ 65535 < c) : narrow .char (.int c) = .int c := by
  have q : narrow .char (.int (pairCh (lo8 c) (hi8 c))) = .int (pairCh (lo8 c) (hi8 c)) := narrow_c _
  rwa [pair_says h0 h1] at q
/-- the array's cell V codes the n chars f 0 .. f (n - 1) by the coder cd, as the JDK does: coder 1 just where some char is above 255 -/
def Cod (cd : Int32) (n : Nat) (f : Nat → Int32) (V : Cell) : Prop := (cd = 0 ∧ V.slots.size = n ∧ ∀ j, j < n → V.slots[j]? = some (.int (lo8 (f j))) ∧ ¬ 255 < f j) ∨ (cd = 1 ∧ V.slots.size = 2 * n ∧ (∀ j, j < n → V.slots[2 * j]? = some (.int (lo8 (f j))) ∧ V.slots[2 * j + 1]? = some (.int (hi8 (f j)))) ∧ ∃ j, j < n ∧ 255 < f j)
theorem Cod.cd {cd : Int32} {n : Nat} {f : Nat → Int32} {V : Cell} (h : Cod cd n f V) : cd = 0 ∨ cd = 1 := h.imp (fun q => q.1) fun q => q.1
theorem Cod.len {cd : Int32} {n : Nat} {f : Nat → Int32} {V : Cell} (h : Cod cd n f V) (hs : V.slots.size < 2 ^ 31) : Int32.ofNat V.slots.size >>> (cd &&& 31) = Int32.ofNat n := by
  rcases h with ⟨rfl, h, -⟩ | ⟨rfl, h, -⟩
  · rw [shr0, h]
  · rw [h, shr1 (by omega)]
/-- **x is a String of the n chars f 0 .. f (n - 1)**, Latin-1 or UTF-16; its array at t has the cell V -/
def Txt (x t : Addr) (V : Cell) (cd : Int32) (n : Nat) (f : Nat → Int32) (U : State) : Prop := Exact "java/lang/String" x U ∧ Has x "java/lang/String" "value" "[B" (.ref t) U ∧ Has x "java/lang/String" "coder" "B" (.int cd) U ∧ XT.Arr .byte t V U ∧ Cod cd n f V ∧ ∀ j, j < n → ¬ f j < 0 ∧ ¬ 65535 < f j
theorem Txt.mv {x t : Addr} {V : Cell} {cd : Int32} {n : Nat} {f : Nat → Int32} {U U' : State} (h : Txt x t V cd n f U) (hal : U.vm.Alike U'.vm) (hh : U'.heap = U.heap) : Txt x t V cd n f U' := ⟨h.1.mv hal hh, h.2.1.mv hal hh, h.2.2.1.mv hal hh, h.2.2.2.1.mv hal hh, h.2.2.2.2⟩
namespace Cdr
def yN : MethodName := ⟨"java/lang/String", "coder", "()B"⟩
abbrev yB : ByteArray := jdk_42_method_152_code
theorem d0 : decode yB 0 = .ok (.getstatic 38, 3) := by decide +kernel
theorem d3 : decode yB 3 = .ok (.ifCond (.eq) 10, 3) := by decide +kernel
theorem d6 : decode yB 6 = .ok (.aload_n 0, 1) := by decide +kernel
theorem d7 : decode yB 7 = .ok (.getfield 15, 3) := by decide +kernel
theorem d10 : decode yB 10 = .ok (.goto 4, 3) := by decide +kernel
theorem d14 : decode yB 14 = .ok (.ireturn, 1) := by decide +kernel
def site : List Cond := [.fieldLink "java/lang/String" 38 "java/lang/String" "COMPACT_STRINGS" "Z", .fieldLink "java/lang/String" 15 "java/lang/String" "coder" "B"]
def tab : Cond := tabOf yN yB 1 (some .byte) site
def P (x : Addr) (cd z : Int32) (args : Array Value) (s : State) : Prop := args = #[.ref x] ∧ Has x "java/lang/String" "coder" "B" (.int cd) s ∧ (cd = 0 ∨ cd = 1) ∧ StaticIs s "java/lang/String" "COMPACT_STRINGS" "Z" (.int z) ∧ ¬ z = 0
def E (cd : Int32) (r : Option Value) (s u : State) : Prop := XT.PureE (some (.int cd)) r s u
theorem law (l : Launch) (x : Addr) (cd z : Int32) : Law l yN 1 0 0 0 yB 1 (some .byte) site (P x cd z) (E cd) [] 0 0 := by
  refine Law.of_walk (plainFor_of_name (by decide +kernel)) (by decide +kernel) (by decide +kernel) (by decide) (fun _ _ h => by rw [h.1]; rfl) (fun _ U U' hal hh h => ⟨h.1, h.2.1.mv hal hh, h.2.2.1, h.2.2.2.1.there hal hh, h.2.2.2.2⟩) (fun r U U' V V' h1 hal h2 h => XT.PureE.mv r U U' V V' h1 hal h2 h) ?_
  intro p e s m args below meth c s₁ X0 hexec hbytes hml hret hlk hnm hown hh0 W hP
  obtain ⟨rfl, hx, hc, s1, hz⟩ := hP
  have c1 : Steps p.tables e below (s₁.setTop (entryFrame m #[.ref x] 1)) (s₁.setTop (mkF m 0 #[.val (.ref x)] [])) := entry rfl
  obtain ⟨T2, X2, q2, st2⟩ := X0.sget hexec hown (wk W (.fieldLink "java/lang/String" 38 "java/lang/String" "COMPACT_STRINGS" "Z")) s1 (fun _ _ h => by rw [hh0]; exact h) (g := (mkF m 0 #[.val (.ref x)] [])) rfl (hb hbytes d0)
  have hh2 := q2.trans hh0
  have c3 : Steps p.tables e below (s₁.setTop (entryFrame m #[.ref x] 1)) (T2.setTop (mkF m 7 #[.val (.ref x)] [.ref x])) := (c1.trans (st2 _ (Steps.refl _))).trans (by
    refine XS.ifNo X2.here hexec rfl (hb hbytes d3) rfl (i0_eq_f hz) ?_
    refine XS.aloadN X2.here hexec rfl (hb hbytes d6) rfl rfl ?_
    exact Steps.refl _)
  obtain ⟨T4, X4, q4, st4⟩ := X2.hget hexec hown (wk W (.fieldLink "java/lang/String" 15 "java/lang/String" "coder" "B")) (hx.mv X2.warmed.alike hh2) (g := (mkF m 7 #[.val (.ref x)] [.ref x])) rfl (rest := []) rfl (hb hbytes d7)
  have c5 : Steps p.tables e below (s₁.setTop (entryFrame m #[.ref x] 1)) (T4.setTop (mkF m 14 #[.val (.ref x)] [.int cd])) := (c3.trans (st4 _ (Steps.refl _))).trans (by
    refine XS.goto X4.here hexec rfl (pc0 := 10) rfl (hb hbytes d10) (by decide) rfl ?_
    exact Steps.refl _)
  exact ⟨T4, some (.int cd), _, _, _, X4, rfl, rfl, rfl, (fun h => by cases h), ⟨rfl, q4.trans hh2⟩, fun fs hl => c5.trans (X4.ireturnOut hexec hret (by rcases hc with rfl | rfl <;> rfl) (Or.inr (Or.inr (Or.inl rfl))) (hb hbytes d14) hl)⟩
end Cdr
namespace Len
def yN : MethodName := ⟨"java/lang/String", "length", "()I"⟩
abbrev yB : ByteArray := jdk_42_method_54_code
theorem d0 : decode yB 0 = .ok (.aload_n 0, 1) := by decide +kernel
theorem d1 : decode yB 1 = .ok (.getfield 9, 3) := by decide +kernel
theorem d4 : decode yB 4 = .ok (.arraylength, 1) := by decide +kernel
theorem d5 : decode yB 5 = .ok (.aload_n 0, 1) := by decide +kernel
theorem d6 : decode yB 6 = .ok (.invokevirtual 335, 3) := by decide +kernel
theorem d9 : decode yB 9 = .ok (.ishr, 1) := by decide +kernel
theorem d10 : decode yB 10 = .ok (.ireturn, 1) := by decide +kernel
def site : List Cond := [.fieldLink "java/lang/String" 9 "java/lang/String" "value" "[B", Cdr.tab] ++ virtW "java/lang/String" 335 "java/lang/String" Cdr.yN Cdr.yN
def tab : Cond := tabOf yN yB 1 (some .int) site
def P (x t : Addr) (V : Cell) (cd : Int32) (n : Nat) (f : Nat → Int32) (z : Int32) (args : Array Value) (s : State) : Prop := args = #[.ref x] ∧ Txt x t V cd n f s ∧ StaticIs s "java/lang/String" "COMPACT_STRINGS" "Z" (.int z) ∧ ¬ z = 0
def E (n : Nat) (r : Option Value) (s u : State) : Prop := XT.PureE (some (.int (Int32.ofNat n))) r s u
/-- length() of a String of n chars, in either coding -/
theorem law (l : Launch) (x t : Addr) (V : Cell) (cd : Int32) (n : Nat) (f : Nat → Int32) (z : Int32) : Law l yN 1 0 1 13 yB 1 (some .int) site (P x t V cd n f z) (E n) [] 0 0 := by
  refine Law.of_walk (plainFor_of_name (by decide +kernel)) (by decide +kernel) (by decide +kernel) (by decide) (fun _ _ h => by rw [h.1]; rfl) (fun _ U U' hal hh h => ⟨h.1, h.2.1.mv hal hh, h.2.2.1.there hal hh, h.2.2.2⟩) (fun r U U' V V' h1 hal h2 h => XT.PureE.mv r U U' V V' h1 hal h2 h) ?_
  intro p e s m args below meth c s₁ X0 hexec hbytes hml hret hlk hnm hown hh0 W hP
  obtain ⟨rfl, hx, s1, hz⟩ := hP
  have v31 := hx.2.2.2.1.2.2.2
  have c1 : Steps p.tables e below (s₁.setTop (entryFrame m #[.ref x] 1)) (s₁.setTop (mkF m 1 #[.val (.ref x)] [.ref x])) := Steps.trans (entry rfl) (by
    show Steps p.tables e below (s₁.setTop (mkF m 0 #[.val (.ref x)] [])) _
    refine XS.aloadN X0.here hexec rfl (hb hbytes d0) rfl rfl ?_
    exact Steps.refl _)
  obtain ⟨T2, X2, q2, st2⟩ := X0.hget hexec hown (wk W (.fieldLink "java/lang/String" 9 "java/lang/String" "value" "[B")) (hx.mv X0.warmed.alike hh0).2.1 (g := (mkF m 1 #[.val (.ref x)] [.ref x])) rfl (rest := []) rfl (hb hbytes d1)
  have hh2 := q2.trans hh0
  have hx2 := hx.mv X2.warmed.alike hh2
  have c3 : Steps p.tables e below (s₁.setTop (entryFrame m #[.ref x] 1)) (T2.setTop (mkF m 6 #[.val (.ref x)] [.ref x, .int (Int32.ofNat V.slots.size)])) := (c1.trans (st2 _ (Steps.refl _))).trans (by
    refine X2.alen hexec hx2.2.2.2.1 rfl rfl (hb hbytes d4) ?_
    refine XS.aloadN X2.here hexec rfl (hb hbytes d5) rfl rfl ?_
    exact Steps.refl _)
  obtain ⟨v4, T4, X4, E4, g4⟩ := X2.callV hexec (Cdr.law l x cd z) hown (wks W (virtW "java/lang/String" 335 "java/lang/String" Cdr.yN Cdr.yN)) rfl (by decide) (wk W Cdr.tab) (W := 1) (Nat.le_of_ble_eq_true rfl) (Nat.le_of_ble_eq_true rfl) (Nat.le_refl _) (Nat.le_refl _) (hx2.1.fc X2.warmed.alike) hx2.1.is (g := (mkF m 6 #[.val (.ref x)] [.ref x, .int (Int32.ofNat V.slots.size)])) rfl (by rw [hml]; rfl) c3 (argsL := []) (rest := [.int (Int32.ofNat V.slots.size)]) rfl rfl (by show 2 * 0 + (1 + 0) ≤ _; decide) (hb hbytes d6) (⟨rfl, hx2.2.2.1, hx.2.2.2.2.1.cd, s1.there X2.warmed.alike hh2, hz⟩)
  obtain ⟨rfl, q4⟩ := E4
  have c5 : Steps p.tables e below (s₁.setTop (entryFrame m #[.ref x] 1)) (T4.setTop (mkF m 10 #[.val (.ref x)] [.int (Int32.ofNat V.slots.size >>> (cd &&& 31))])) := Steps.trans g4 (by
    refine ishr X4.here hexec rfl (hb hbytes d9) rfl ?_
    exact Steps.refl _)
  rw [hx.2.2.2.2.1.len v31] at c5
  exact ⟨T4, some (.int (Int32.ofNat n)), _, _, _, X4, rfl, rfl, rfl, (fun h => by cases h), ⟨rfl, q4.trans hh2⟩, fun fs hl => c5.trans (X4.ireturnOut hexec hret rfl (Or.inl rfl) (hb hbytes d10) hl)⟩
theorem pays {l : Launch} {R : Room} {p : Program} {e : Env} {below : List Frame} {s : State} {sargs : Array Value} {len W : Nat} (x t : Addr) (V : Cell) (cd : Int32) (n : Nat) (f : Nat → Int32) (z : Int32) (htab : tab.before sargs s = true) (hfr : 2 ≤ R.frames) (hlo : W + 25 ≤ R.locals) :
    Back l R p e below s sargs yN len W (fun A₁ a₁ => A₁.cells + 0 ≤ R.cells ∧ A₁.slots + 0 ≤ R.slots ∧ P x t V cd n f z a₁ A₁.U) (fun A₁ _ v₁ B₁ => E n v₁ A₁.U B₁.U ∧ B₁.locs = A₁.locs ++ [] ∧ B₁.cells = A₁.cells + 0 ∧ B₁.slots = A₁.slots + 0) :=
  (law l x t V cd n f z).pays htab hfr (by omega)
end Len
namespace IsL
def yN : MethodName := ⟨"java/lang/String", "isLatin1", "()Z"⟩
abbrev yB : ByteArray := jdk_42_method_154_code
theorem d0 : decode yB 0 = .ok (.getstatic 38, 3) := by decide +kernel
theorem d3 : decode yB 3 = .ok (.ifCond (.eq) 14, 3) := by decide +kernel
theorem d6 : decode yB 6 = .ok (.aload_n 0, 1) := by decide +kernel
theorem d7 : decode yB 7 = .ok (.getfield 15, 3) := by decide +kernel
theorem d10 : decode yB 10 = .ok (.ifCond (.ne) 7, 3) := by decide +kernel
theorem d13 : decode yB 13 = .ok (.iconst 1, 1) := by decide +kernel
theorem d14 : decode yB 14 = .ok (.goto 4, 3) := by decide +kernel
theorem d17 : decode yB 17 = .ok (.iconst 0, 1) := by decide +kernel
theorem d18 : decode yB 18 = .ok (.ireturn, 1) := by decide +kernel
def site : List Cond := [.fieldLink "java/lang/String" 38 "java/lang/String" "COMPACT_STRINGS" "Z", .fieldLink "java/lang/String" 15 "java/lang/String" "coder" "B"]
def tab : Cond := tabOf yN yB 1 (some .boolean) site
def P (x : Addr) (cd z : Int32) (args : Array Value) (s : State) : Prop := args = #[.ref x] ∧ Has x "java/lang/String" "coder" "B" (.int cd) s ∧ (cd = 0 ∨ cd = 1) ∧ StaticIs s "java/lang/String" "COMPACT_STRINGS" "Z" (.int z) ∧ ¬ z = 0
def E (cd : Int32) (r : Option Value) (s u : State) : Prop := XT.PureE (some (.int (1 - cd))) r s u
theorem law (l : Launch) (x : Addr) (cd z : Int32) : Law l yN 1 0 0 0 yB 1 (some .boolean) site (P x cd z) (E cd) [] 0 0 := by
  refine Law.of_walk (plainFor_of_name (by decide +kernel)) (by decide +kernel) (by decide +kernel) (by decide) (fun _ _ h => by rw [h.1]; rfl) (fun _ U U' hal hh h => ⟨h.1, h.2.1.mv hal hh, h.2.2.1, h.2.2.2.1.there hal hh, h.2.2.2.2⟩) (fun r U U' V V' h1 hal h2 h => XT.PureE.mv r U U' V V' h1 hal h2 h) ?_
  intro p e s m args below meth c s₁ X0 hexec hbytes hml hret hlk hnm hown hh0 W hP
  obtain ⟨rfl, hx, hc, s1, hz⟩ := hP
  have c1 : Steps p.tables e below (s₁.setTop (entryFrame m #[.ref x] 1)) (s₁.setTop (mkF m 0 #[.val (.ref x)] [])) := entry rfl
  obtain ⟨T2, X2, q2, st2⟩ := X0.sget hexec hown (wk W (.fieldLink "java/lang/String" 38 "java/lang/String" "COMPACT_STRINGS" "Z")) s1 (fun _ _ h => by rw [hh0]; exact h) (g := (mkF m 0 #[.val (.ref x)] [])) rfl (hb hbytes d0)
  have hh2 := q2.trans hh0
  have c3 : Steps p.tables e below (s₁.setTop (entryFrame m #[.ref x] 1)) (T2.setTop (mkF m 7 #[.val (.ref x)] [.ref x])) := (c1.trans (st2 _ (Steps.refl _))).trans (by
    refine XS.ifNo X2.here hexec rfl (hb hbytes d3) rfl (i0_eq_f hz) ?_
    refine XS.aloadN X2.here hexec rfl (hb hbytes d6) rfl rfl ?_
    exact Steps.refl _)
  obtain ⟨T4, X4, q4, st4⟩ := X2.hget hexec hown (wk W (.fieldLink "java/lang/String" 15 "java/lang/String" "coder" "B")) (hx.mv X2.warmed.alike hh2) (g := (mkF m 7 #[.val (.ref x)] [.ref x])) rfl (rest := []) rfl (hb hbytes d7)
  have c5 : Steps p.tables e below (s₁.setTop (entryFrame m #[.ref x] 1)) (T4.setTop (mkF m 10 #[.val (.ref x)] [.int cd])) := c3.trans (st4 _ (Steps.refl _))
  have c6 : Steps p.tables e below (s₁.setTop (entryFrame m #[.ref x] 1)) (T4.setTop (mkF m 18 #[.val (.ref x)] [.int (1 - cd)])) := by
    rcases hc with rfl | rfl
    · exact c5.trans (by
        refine XS.ifNo X4.here hexec rfl (hb hbytes d10) rfl (i0_ne_f rfl) ?_
        refine iconstV X4.here hexec rfl 1 (hb hbytes d13) (by decide) ?_
        refine XS.goto X4.here hexec rfl (pc0 := 14) rfl (hb hbytes d14) (by decide) rfl ?_
        exact Steps.refl _)
    · exact c5.trans (by
        refine XS.ifYes X4.here hexec rfl (pc0 := 10) rfl (hb hbytes d10) rfl (i0_ne_t (by decide)) (by decide) rfl ?_
        refine iconstV X4.here hexec rfl 0 (hb hbytes d17) (by decide) ?_
        exact Steps.refl _)
  exact ⟨T4, some (.int (1 - cd)), _, _, _, X4, rfl, rfl, rfl, (fun h => by cases h), ⟨rfl, q4.trans hh2⟩, fun fs hl => c6.trans (X4.ireturnOut hexec hret (by rcases hc with rfl | rfl <;> rfl) (Or.inr (Or.inl rfl)) (hb hbytes d18) hl)⟩
end IsL
namespace LChA
def yN : MethodName := ⟨"java/lang/StringLatin1", "charAt", "([BI)C"⟩
abbrev yB : ByteArray := jdk_43_method_2_code
theorem d0 : decode yB 0 = .ok (.iload_n 1, 1) := by decide +kernel
theorem d1 : decode yB 1 = .ok (.aload_n 0, 1) := by decide +kernel
theorem d2 : decode yB 2 = .ok (.arraylength, 1) := by decide +kernel
theorem d3 : decode yB 3 = .ok (.invokestatic 9, 3) := by decide +kernel
theorem d6 : decode yB 6 = .ok (.aload_n 0, 1) := by decide +kernel
theorem d7 : decode yB 7 = .ok (.iload_n 1, 1) := by decide +kernel
theorem d8 : decode yB 8 = .ok (.baload, 1) := by decide +kernel
theorem d9 : decode yB 9 = .ok (.sipush 255, 3) := by decide +kernel
theorem d12 : decode yB 12 = .ok (.iand, 1) := by decide +kernel
theorem d13 : decode yB 13 = .ok (.i2c, 1) := by decide +kernel
theorem d14 : decode yB 14 = .ok (.ireturn, 1) := by decide +kernel
def site : List Cond := [JO.Str_checkIndex.tab] ++ staticW "java/lang/StringLatin1" 9 JO.Str_checkIndex.yN
def tab : Cond := tabOf yN yB 2 (some .char) site
def P (t : Addr) (V : Cell) (i : Nat) (u : Int32) (fm : Value) (args : Array Value) (s : State) : Prop := args = #[.ref t, .int (Int32.ofNat i)] ∧ XT.Arr .byte t V s ∧ V.slots[i]? = some (.int u) ∧ (StaticIs s "jdk/internal/util/Preconditions" "SIOOBE_FORMATTER" "Ljava/util/function/BiFunction;" fm ∧ fm.isRef = true)
def E (u : Int32) (r : Option Value) (s w : State) : Prop := XT.PureE (some (.int (chr8 u))) r s w
theorem law (l : Launch) (t : Addr) (V : Cell) (i : Nat) (u : Int32) (fm : Value) : Law l yN 2 2 2 27 yB 2 (some .char) site (P t V i u fm) (E u) [] 0 0 := by
  refine Law.of_walk (plainFor_of_name (by decide +kernel)) (by decide +kernel) (by decide +kernel) (by decide) (fun _ _ h => by rw [h.1]; rfl) (fun _ U U' hal hh h => ⟨h.1, h.2.1.mv hal hh, h.2.2.1, h.2.2.2.1.there hal hh, h.2.2.2.2⟩) (fun r U U' V V' h1 hal h2 h => XT.PureE.mv r U U' V V' h1 hal h2 h) ?_
  intro p e s m args below meth c s₁ X0 hexec hbytes hml hret hlk hnm hown hh0 W hP
  obtain ⟨rfl, hV, hu, s1, rf⟩ := hP
  have v31 := hV.2.2.2
  have hi : i < V.slots.size := (Array.getElem?_eq_some_iff.mp hu).1
  have c1 : Steps p.tables e below (s₁.setTop (entryFrame m #[.ref t, .int (Int32.ofNat i)] 2)) (s₁.setTop (mkF m 0 #[.val (.ref t), .val (.int (Int32.ofNat i))] [])) := entry rfl
  have c2 : Steps p.tables e below (s₁.setTop (entryFrame m #[.ref t, .int (Int32.ofNat i)] 2)) (s₁.setTop (mkF m 3 #[.val (.ref t), .val (.int (Int32.ofNat i))] [.int (Int32.ofNat V.slots.size), .int (Int32.ofNat i)])) := c1.trans (by
    refine XS.iloadN X0.here hexec rfl (hb hbytes d0) rfl ?_
    refine XS.aloadN X0.here hexec rfl (hb hbytes d1) rfl rfl ?_
    refine X0.alen hexec (hV.mv X0.warmed.alike hh0) rfl rfl (hb hbytes d2) ?_
    exact Steps.refl _)
  obtain ⟨v3, T3, X3, E3, g3⟩ := X0.callS hexec (JO.Str_checkIndex.law l (Int32.ofNat i) (Int32.ofNat V.slots.size) fm) hown (wks W (staticW "java/lang/StringLatin1" 9 JO.Str_checkIndex.yN)) (wk W JO.Str_checkIndex.tab) (W := 0) (Nat.le_of_ble_eq_true rfl) (Nat.le_of_ble_eq_true rfl) (Nat.le_refl _) (Nat.le_refl _) (g := (mkF m 3 #[.val (.ref t), .val (.int (Int32.ofNat i))] [.int (Int32.ofNat V.slots.size), .int (Int32.ofNat i)])) rfl (by rw [hml]; rfl) c2 (argsL := [.int (Int32.ofNat i), .int (Int32.ofNat V.slots.size)]) (rest := []) rfl rfl (by show 2 * 0 + 0 ≤ _; decide) (hb hbytes d3) (⟨rfl, rf, s1.there X0.warmed.alike hh0, Int32.ofNat_not_neg (by omega), lt32 v31 hi⟩)
  obtain ⟨rfl, q3⟩ := E3
  have hh3 := q3.trans hh0
  have c4 : Steps p.tables e below (s₁.setTop (entryFrame m #[.ref t, .int (Int32.ofNat i)] 2)) (T3.setTop (mkF m 14 #[.val (.ref t), .val (.int (Int32.ofNat i))] [.int (chr8 u)])) := Steps.trans g3 (by
    refine XS.aloadN X3.here hexec rfl (hb hbytes d6) rfl rfl ?_
    refine XS.iloadN X3.here hexec rfl (hb hbytes d7) rfl ?_
    refine X3.aget hexec (hV.mv X3.warmed.alike hh3) rfl hu rfl rfl (hb hbytes d8) ?_
    refine sipushV X3.here hexec rfl 255 (hb hbytes d9) (by decide) ?_
    refine XS.iand X3.here hexec rfl (hb hbytes d12) rfl ?_
    refine i2c X3.here hexec rfl (hb hbytes d13) rfl ?_
    exact Steps.refl _)
  exact ⟨T3, some (.int (chr8 u)), _, _, _, X3, rfl, rfl, rfl, (fun h => by cases h), ⟨rfl, hh3⟩, fun fs hl => c4.trans (X3.ireturnOut hexec hret (narrow_c _) (Or.inr (Or.inr (Or.inr (Or.inl rfl)))) (hb hbytes d14) hl)⟩
end LChA
end StrChars
namespace StrChars.Road
open Jvm Sem ClassFile Op Lib Jvm.Stand Jvm.Free Jvm.Free.XT
open Jvm.Lib.Cold (StaticIs)
theorem consq {a : Array Value} {s : State} {c : Jvm.Cond} {L : List Jvm.Cond} (h0 : c.before a s = true) (h : ∀ w ∈ L, w.before a s = true) : ∀ w ∈ c :: L, w.before a s = true := fun w hw => (List.mem_cons.mp hw).elim (fun e => e ▸ h0) (h w)
/-- the words of String.length(), either coding -/
abbrev wordsLen : List Jvm.Cond := [.code Len.yN Len.yB 1 (some .int), .initialized ST, .fieldLink ST 9 ST "value" "[B", .fieldLink ST 38 ST "COMPACT_STRINGS" "Z", .fieldLink ST 15 ST "coder" "B", .code Cdr.yN Cdr.yB 1 (some .byte), .methodLink ST 335 Cdr.yN, .declares Cdr.yN, .selects ST Cdr.yN Cdr.yN, .instanceMethod Cdr.yN]
theorem tabLen_of {a : Array Value} {s : State} (h : ∀ w ∈ wordsLen, w.before a s = true) : Len.tab.before a s = true := by
  have hc : Cdr.tab.before a s = true := unparts (wk h (.code Cdr.yN Cdr.yB 1 (some .byte))) (wks h (.initialized Cdr.yN.cls :: Cdr.site))
  have q := consq hc h
  exact unparts (wk q (.code Len.yN Len.yB 1 (some .int))) (wks q (.initialized Len.yN.cls :: Len.site))
theorem movedLen {Z s : State} {a0 args : Array Value} (hZ : Z.Warmed39 s.vm) (hw : ∀ d ∈ wordsLen, d.before a0 Z = true) : ∀ d ∈ wordsLen, d.before args s = true := fun d hd => by
  have q := hw d hd
  have t : ∀ d ∈ wordsLen, d = .arrayClass .byte ∨ (d.onTables && d.keepsFace) = true := by decide +kernel
  rcases t d hd with rfl | t
  · exact RoadKit.mvA hZ q
  · exact RoadKit.mv hZ q t
/-- the bytes of the chars cs, low before high -/
def wideBytes : List Int32 → List Value
  | [] => []
  | c :: cs => .int (lo8 c) :: .int (hi8 c) :: wideBytes cs
theorem wide_lo (d : Value) : ∀ (cs : List Int32) (j : Nat), j < cs.length → (wideBytes cs).getD (2 * j) d = .int (lo8 (cs.getD j 0))
  | [], j, h => absurd h (Nat.not_lt_zero j)
  | c :: cs, 0, _ => rfl
  | c :: cs, j + 1, h => by
    have q := wide_lo d cs j (by simpa using h)
    rw [show 2 * (j + 1) = 2 * j + 1 + 1 from by omega]
    simpa [wideBytes] using q
theorem wide_hi (d : Value) : ∀ (cs : List Int32) (j : Nat), j < cs.length → (wideBytes cs).getD (2 * j + 1) d = .int (hi8 (cs.getD j 0))
  | [], j, h => absurd h (Nat.not_lt_zero j)
  | c :: cs, 0, _ => rfl
  | c :: cs, j + 1, h => by
    have q := wide_hi d cs j (by simpa using h)
    rw [show 2 * (j + 1) + 1 = 2 * j + 1 + 1 + 1 from by omega]
    simpa [wideBytes] using q
theorem low_at (d : Value) (cs : List Int32) (j : Nat) (h : j < cs.length) : (cs.map fun c => Value.int (lo8 c)).getD j d = .int (lo8 (cs.getD j 0)) := by
  simp [List.getD_eq_getElem?_getD, h]
/-- an array of N2 bytes vs codes the chars cs by the coder cd -/
def CodA (cs : List Int32) (cd N2 : Int32) (vs : List Value) : Prop := (cd = 0 ∧ N2 = Int32.ofNat cs.length ∧ vs = (cs.map fun c => Value.int (lo8 c)) ∧ ∀ c ∈ cs, ¬ 255 < c) ∨ (cd = 1 ∧ N2 = Int32.ofNat (2 * cs.length) ∧ vs = wideBytes cs ∧ ∃ c ∈ cs, 255 < c)
theorem CodA.cod {cs : List Int32} {cd N2 : Int32} {vs : List Value} {V : Cell} (h : CodA cs cd N2 vs) (hn : 2 * cs.length < 2 ^ 31) (hs : V.slots.size = N2.toNatClampNeg) (hv : RoadKit.Has V vs (.int 0)) : Cod cd cs.length (fun j => cs.getD j 0) V := by
  rcases h with ⟨rfl, rfl, rfl, h⟩ | ⟨rfl, rfl, rfl, c, hc, hw⟩
  · rw [n32 (by omega)] at hs
    exact Or.inl ⟨rfl, hs, fun j hj => ⟨by rw [hv j (by omega), low_at _ _ _ hj], by
      have e : cs.getD j 0 = cs[j] := by simp [List.getD_eq_getElem?_getD, hj]
      show ¬ 255 < cs.getD j 0
      rw [e]; exact h _ (List.getElem_mem _)⟩⟩
  · rw [n32 (by omega)] at hs
    obtain ⟨j, hj, rfl⟩ := List.getElem_of_mem hc
    exact Or.inr ⟨rfl, hs, fun j hj => ⟨by rw [hv _ (by omega), wide_lo _ _ _ hj], by rw [hv _ (by omega), wide_hi _ _ _ hj]⟩, j, hj, by
      have e : cs.getD j 0 = cs[j] := by simp [List.getD_eq_getElem?_getD, hj]
      show 255 < cs.getD j 0
      rw [e]; exact hw⟩
/-- an object of exactly java/lang/String, its two fields found: as the laws ask it -/
theorem strObj {Z U : State} {a0 : Array Value} {kI : Nat} (wi : (Jvm.Cond.instantiable ST kI).before a0 Z = true) (al : Z.vm.Alike U.vm) {x : Addr} {v0 c0 : Value} (E : RoadKit.Exa Z U.heap x ST) (V : RoadKit.Fld Z U.heap x ST "value" "[B" v0) (C : RoadKit.Fld Z U.heap x ST "coder" "B" c0) :
    ∃ (D : Cell) (fV fC : Field), Blank ST x D U ∧ Found ST "value" "[B" fV U ∧ Found ST "coder" "B" fC U ∧ D.slots[fV.slot]? = some v0 ∧ D.slots[fC.slot]? = some c0 ∧ RoadKit.slotOf Z ST "value" "[B" = fV.slot ∧ RoadKit.slotOf Z ST "coder" "B" = fC.slot := by
  obtain ⟨D, cfV, kV, iV, fV, hD, gV, stV, knV, obV, asV, slV⟩ := V
  obtain ⟨D', cfC, kC, iC, fC, hD', gC, stC, -, -, asC, slC⟩ := C
  cases hD.symm.trans hD'
  obtain ⟨D2, kD, e1, e2, e3, e4, e5⟩ := E
  cases hD.symm.trans e1
  obtain ⟨c2, k2, i1, i2, i3, -⟩ := Cond.instantiable_spec wi
  cases e2.symm.trans i1
  cases e3.symm.trans i2
  obtain ⟨kU, u1, u2⟩ := al.2.2 _ _ e3
  exact ⟨D, fV, fC, ⟨hD, ⟨knV, fun q hq => by rw [hq] at obV; cases obV⟩, by rw [al.findClass]; exact e2, kU, u1, by rw [u2]; exact i3, by rw [u2]; exact e5 i3⟩, ⟨SBG.found_only al ⟨cfV, kV, iV, gV⟩, stV⟩, ⟨SBG.found_only al ⟨cfC, kC, iC, gC⟩, stC⟩, slV, slC, by simp [RoadKit.slotOf, gV], by simp [RoadKit.slotOf, gC]⟩
theorem sta_is {Z U : State} (al : Z.vm.Alike U.vm) {C n d : String} {v : Value} (S : RoadKit.Sta Z U.heap C n d v) : StaticIs U C n d v := by
  obtain ⟨cfS, iS, kS, fS, st, cS, t1, t2, t3, t4, t5, t6, t7⟩ := S
  exact StaticIs.there (s := { Z with heap := U.heap }) ⟨cfS, iS, kS, fS, st, cS, t1, t2, t3, t4, t5, (fun q => by rw [q] at t6; cases t6), t7⟩ al rfl
/-- **length() OF SUCH A STRING** -/
theorem lenW {p : Program} {l : Launch} {e : Env} {R : Room} {s : State} {args : Array Value} {below : List Frame} {len W : Nat} {Z : State} {a0 : Array Value} {h : Heap} (hZ : Z.Warmed39 s.vm) (hw : ∀ d ∈ wordsLen, d.before a0 Z = true) {kI : Nat} (wi : (Jvm.Cond.instantiable ST kI).before a0 Z = true)
    {x t : Addr} {kb : ClassId} {cs : List Int32} {cd N2 z : Int32} {vs : List Value} (E : RoadKit.Exa Z h x ST) (V : RoadKit.Fld Z h x ST "value" "[B" (.ref t)) (C : RoadKit.Fld Z h x ST "coder" "B" (.int cd)) (K : RoadKit.Arv Z h t kb .byte N2 vs (.int 0)) (hc : CodA cs cd N2 vs) (hb : ∀ c ∈ cs, ¬ c < 0 ∧ ¬ (65535 : Int32) < c)
    (S : RoadKit.Sta Z h ST "COMPACT_STRINGS" "Z" (.int z)) (hz : ¬ z = 0) (l2 : cs.length ≤ 4000) (hfr : 2 ≤ R.frames) (hlo : W + 25 ≤ R.locals) :
    Back l R p e below s args (⟨"java/lang/String", "length", "()I"⟩ : MethodName) len W (fun P a => a = #[.ref x] ∧ P.U.heap = h ∧ P.cells + 0 ≤ R.cells ∧ P.slots + 0 ≤ R.slots)
      (fun P _ v B => ∃ L, (v = some (.int (Int32.ofNat cs.length)) ∧ L = [] ∧ B.U.heap = h) ∧ B.locs = P.locs ++ L ∧ B.cells = P.cells + 0 ∧ B.slots = P.slots + 0) := by
  obtain ⟨A, K1, K2, K3, K4, K5, K6⟩ := K
  have hcod := hc.cod (by omega) K3 K5
  intro m meth c P g ig mk a X hg hsize hdg hW hn hp'
  obtain ⟨rfl, rfl, r1, r2⟩ := hp'
  have al : Z.vm.Alike P.U.vm := hZ.alike.trans X.warmed.alike
  obtain ⟨D, fV, fC, hB, F1, F2, g1, g2, -, -⟩ := strObj wi al E V C
  have hx : Txt x t A cd cs.length (fun j => cs.getD j 0) P.U := ⟨⟨_, hB.2.2.1, D, hB.1, rfl, by cases q : D.vm <;> first | rfl | exact absurd q (hB.2.1.2 _)⟩, Has.of hB F1 g1, Has.of hB F2 g2, ⟨K1.1, State.isArrayOf_alike al K1.2.1, K1.2.2, by rcases hcod with ⟨-, q, -⟩ | ⟨-, q, -⟩ <;> omega⟩, hcod, fun j hj => by
    have e : cs.getD j 0 = cs[j] := by simp [List.getD_eq_getElem?_getD, hj]
    show ¬ cs.getD j 0 < 0 ∧ ¬ 65535 < cs.getD j 0
    rw [e]; exact hb _ (List.getElem_mem _)⟩
  obtain ⟨v, B, X', ⟨⟨hv, hh⟩, hl, hk, hs⟩, st⟩ := Len.pays x t A cd cs.length (fun j => cs.getD j 0) z (tabLen_of (movedLen hZ hw)) hfr hlo m meth c P g ig mk _ X hg hsize hdg hW hn ⟨r1, r2, rfl, hx, sta_is al S, hz⟩
  exact ⟨v, B, X', ⟨[], ⟨hv, rfl, hh⟩, hl, hk, hs⟩, st⟩
end StrChars.Road
namespace StrChars
open Jvm Sem ClassFile Op Lib Jvm.Stand Jvm.Free.XT Jvm.Free.ALB Jvm.Free.JM Jvm.Free
open Jvm.Lib.Cold (StaticIs)
namespace Emp
def yN : MethodName := ⟨"java/lang/String", "isEmpty", "()Z"⟩
abbrev yB : ByteArray := jdk_42_method_55_code
theorem d0 : decode yB 0 = .ok (.aload_n 0, 1) := by decide +kernel
theorem d1 : decode yB 1 = .ok (.getfield 9, 3) := by decide +kernel
theorem d4 : decode yB 4 = .ok (.arraylength, 1) := by decide +kernel
theorem d5 : decode yB 5 = .ok (.ifCond (.ne) 7, 3) := by decide +kernel
theorem d8 : decode yB 8 = .ok (.iconst 1, 1) := by decide +kernel
theorem d9 : decode yB 9 = .ok (.goto 4, 3) := by decide +kernel
theorem d12 : decode yB 12 = .ok (.iconst 0, 1) := by decide +kernel
theorem d13 : decode yB 13 = .ok (.ireturn, 1) := by decide +kernel
def site : List Cond := [.fieldLink "java/lang/String" 9 "java/lang/String" "value" "[B"]
def tab : Cond := tabOf yN yB 1 (some .boolean) site
def P (x t : Addr) (V : Cell) (cd : Int32) (n : Nat) (f : Nat → Int32) (args : Array Value) (s : State) : Prop := args = #[.ref x] ∧ Txt x t V cd n f s
def E (n : Nat) (r : Option Value) (s u : State) : Prop := XT.PureE (some (.int (if n = 0 then 1 else 0))) r s u
/-- isEmpty() of a String of n chars -/
theorem law (l : Launch) (x t : Addr) (V : Cell) (cd : Int32) (n : Nat) (f : Nat → Int32) : Law l yN 1 0 0 0 yB 1 (some .boolean) site (P x t V cd n f) (E n) [] 0 0 := by
  refine Law.of_walk (plainFor_of_name (by decide +kernel)) (by decide +kernel) (by decide +kernel) (by decide) (fun _ _ h => by rw [h.1]; rfl) (fun _ U U' hal hh h => ⟨h.1, h.2.mv hal hh⟩) (fun r U U' V V' h1 hal h2 h => XT.PureE.mv r U U' V V' h1 hal h2 h) ?_
  intro p e s m args below meth c s₁ X0 hexec hbytes hml hret hlk hnm hown hh0 W hP
  obtain ⟨rfl, hx⟩ := hP
  have v31 := hx.2.2.2.1.2.2.2
  have c1 : Steps p.tables e below (s₁.setTop (entryFrame m #[.ref x] 1)) (s₁.setTop (mkF m 1 #[.val (.ref x)] [.ref x])) := Steps.trans (entry rfl) (by
    show Steps p.tables e below (s₁.setTop (mkF m 0 #[.val (.ref x)] [])) _
    refine XS.aloadN X0.here hexec rfl (hb hbytes d0) rfl rfl ?_
    exact Steps.refl _)
  obtain ⟨T2, X2, q2, st2⟩ := X0.hget hexec hown (wk W (.fieldLink "java/lang/String" 9 "java/lang/String" "value" "[B")) (hx.mv X0.warmed.alike hh0).2.1 (g := (mkF m 1 #[.val (.ref x)] [.ref x])) rfl (rest := []) rfl (hb hbytes d1)
  have hh2 := q2.trans hh0
  have hx2 := hx.mv X2.warmed.alike hh2
  have c3 : Steps p.tables e below (s₁.setTop (entryFrame m #[.ref x] 1)) (T2.setTop (mkF m 5 #[.val (.ref x)] [.int (Int32.ofNat V.slots.size)])) := (c1.trans (st2 _ (Steps.refl _))).trans (by
    refine X2.alen hexec hx2.2.2.2.1 rfl rfl (hb hbytes d4) ?_
    exact Steps.refl _)
  have hz : V.slots.size = 0 ↔ n = 0 := by
    rcases hx.2.2.2.2.1 with ⟨-, q, -⟩ | ⟨-, q, -⟩ <;> omega
  by_cases h0 : n = 0
  · have c4 : Steps p.tables e below (s₁.setTop (entryFrame m #[.ref x] 1)) (T2.setTop (mkF m 13 #[.val (.ref x)] [.int 1])) := c3.trans (by
      refine XS.ifNo X2.here hexec rfl (hb hbytes d5) rfl (i0_ne_f (by rw [hz.mpr h0]; rfl)) ?_
      refine iconstV X2.here hexec rfl 1 (hb hbytes d8) (by decide) ?_
      refine XS.goto X2.here hexec rfl (pc0 := 9) rfl (hb hbytes d9) (by decide) rfl ?_
      exact Steps.refl _)
    exact ⟨T2, some (.int 1), _, _, _, X2, rfl, rfl, rfl, (fun h => by cases h), ⟨by rw [if_pos h0], hh2⟩, fun fs hl => c4.trans (X2.ireturnOut hexec hret rfl (Or.inr (Or.inl rfl)) (hb hbytes d13) hl)⟩
  · have c4 : Steps p.tables e below (s₁.setTop (entryFrame m #[.ref x] 1)) (T2.setTop (mkF m 13 #[.val (.ref x)] [.int 0])) := c3.trans (by
      refine XS.ifYes X2.here hexec rfl (pc0 := 5) rfl (hb hbytes d5) rfl (i0_ne_t (nz32 v31 (by omega))) (by decide) rfl ?_
      refine iconstV X2.here hexec rfl 0 (hb hbytes d12) (by decide) ?_
      exact Steps.refl _)
    exact ⟨T2, some (.int 0), _, _, _, X2, rfl, rfl, rfl, (fun h => by cases h), ⟨by rw [if_neg h0], hh2⟩, fun fs hl => c4.trans (X2.ireturnOut hexec hret rfl (Or.inr (Or.inl rfl)) (hb hbytes d13) hl)⟩
theorem pays {l : Launch} {R : Room} {p : Program} {e : Env} {below : List Frame} {s : State} {sargs : Array Value} {len W : Nat} (x t : Addr) (V : Cell) (cd : Int32) (n : Nat) (f : Nat → Int32) (htab : tab.before sargs s = true) (hfr : 1 ≤ R.frames) (hlo : W + 12 ≤ R.locals) :
    Back l R p e below s sargs yN len W (fun A₁ a₁ => A₁.cells + 0 ≤ R.cells ∧ A₁.slots + 0 ≤ R.slots ∧ P x t V cd n f a₁ A₁.U) (fun A₁ _ v₁ B₁ => E n v₁ A₁.U B₁.U ∧ B₁.locs = A₁.locs ++ [] ∧ B₁.cells = A₁.cells + 0 ∧ B₁.slots = A₁.slots + 0) :=
  (law l x t V cd n f).pays htab hfr (by omega)
end Emp
/-- what place i of a byte[]'s cell holds -/
def yv (A : Cell) (i : Nat) : Int32 := match A.slots[i]? with | some (.int x) => x | _ => 0
theorem yv_get {a : Addr} {A : Cell} {U : State} (h : XT.Arr .byte a A U) (ht : Typed .byte A) {i : Nat} (hi : i < A.slots.size) : A.slots[i]? = some (.int (yv A i)) := by
  have e := Array.getElem?_eq_getElem hi
  have f := ht i _ e
  unfold yv; rw [e]
  generalize A.slots[i] = v at f
  cases v <;> simp [fits] at f ⊢
/-- the two arrays are equal, place for place -/
def EqC (A B : Cell) : Prop := A.slots.size = B.slots.size ∧ ∀ i, i < A.slots.size → yv A i = yv B i
/-- a boolean that says whether p -/
def Says01 (q : Prop) (r : Option Value) (s u : State) : Prop := ∃ v : Int32, r = some (.int v) ∧ u.heap = s.heap ∧ ((v = 1 ∧ q) ∨ (v = 0 ∧ ¬ q))
theorem Says01.mv {q : Prop} : ∀ r (U U' V V' : State), U'.heap = U.heap → V.vm.Alike V'.vm → V'.heap = V.heap → Says01 q r U V → Says01 q r U' V' :=
  fun r U U' V V' h1 _ h2 ⟨v, a, b, c⟩ => ⟨v, a, by rw [h1, h2]; exact b, c⟩
namespace LEq
def yN : MethodName := ⟨"java/lang/StringLatin1", "equals", "([B[B)Z"⟩
abbrev yB : ByteArray := jdk_43_method_13_code
theorem d0 : decode yB 0 = .ok (.aload_n 0, 1) := by decide +kernel
theorem d1 : decode yB 1 = .ok (.arraylength, 1) := by decide +kernel
theorem d2 : decode yB 2 = .ok (.aload_n 1, 1) := by decide +kernel
theorem d3 : decode yB 3 = .ok (.arraylength, 1) := by decide +kernel
theorem d4 : decode yB 4 = .ok (.if_icmp (.ne) 30, 3) := by decide +kernel
theorem d7 : decode yB 7 = .ok (.iconst 0, 1) := by decide +kernel
theorem d8 : decode yB 8 = .ok (.istore_n 2, 1) := by decide +kernel
theorem d9 : decode yB 9 = .ok (.iload_n 2, 1) := by decide +kernel
theorem d10 : decode yB 10 = .ok (.aload_n 0, 1) := by decide +kernel
theorem d11 : decode yB 11 = .ok (.arraylength, 1) := by decide +kernel
theorem d12 : decode yB 12 = .ok (.if_icmp (.ge) 20, 3) := by decide +kernel
theorem d15 : decode yB 15 = .ok (.aload_n 0, 1) := by decide +kernel
theorem d16 : decode yB 16 = .ok (.iload_n 2, 1) := by decide +kernel
theorem d17 : decode yB 17 = .ok (.baload, 1) := by decide +kernel
theorem d18 : decode yB 18 = .ok (.aload_n 1, 1) := by decide +kernel
theorem d19 : decode yB 19 = .ok (.iload_n 2, 1) := by decide +kernel
theorem d20 : decode yB 20 = .ok (.baload, 1) := by decide +kernel
theorem d21 : decode yB 21 = .ok (.if_icmp (.eq) 5, 3) := by decide +kernel
theorem d24 : decode yB 24 = .ok (.iconst 0, 1) := by decide +kernel
theorem d25 : decode yB 25 = .ok (.ireturn, 1) := by decide +kernel
theorem d26 : decode yB 26 = .ok (.iinc 2 1, 3) := by decide +kernel
theorem d29 : decode yB 29 = .ok (.goto (-20), 3) := by decide +kernel
theorem d32 : decode yB 32 = .ok (.iconst 1, 1) := by decide +kernel
theorem d33 : decode yB 33 = .ok (.ireturn, 1) := by decide +kernel
theorem d34 : decode yB 34 = .ok (.iconst 0, 1) := by decide +kernel
theorem d35 : decode yB 35 = .ok (.ireturn, 1) := by decide +kernel
def site : List Cond := []
def tab : Cond := tabOf yN yB 3 (some .boolean) site
def P (a : Addr) (A : Cell) (b : Addr) (B : Cell) (args : Array Value) (s : State) : Prop := args = #[.ref a, .ref b] ∧ XT.Arr .byte a A s ∧ Typed .byte A ∧ XT.Arr .byte b B s ∧ Typed .byte B
/-- whether two byte[] are equal, place for place -/
theorem law (l : Launch) (a : Addr) (A : Cell) (b : Addr) (B : Cell) : Law l yN 2 2 0 0 yB 3 (some .boolean) site (P a A b B) (Says01 (EqC A B)) [] 0 0 := by
  refine Law.of_walk (plainFor_of_name (by decide +kernel)) (by decide +kernel) (by decide +kernel) (by decide) (fun _ _ h => by rw [h.1]; rfl) (fun _ U U' hal hh h => ⟨h.1, h.2.1.mv hal hh, h.2.2.1, h.2.2.2.1.mv hal hh, h.2.2.2.2⟩) (fun r U U' V V' h1 hal h2 h => Says01.mv r U U' V V' h1 hal h2 h) ?_
  intro p e s m args below meth c s₁ X0 hexec hbytes hml hret hlk hnm hown hh0 W hP
  obtain ⟨rfl, hA, tA, hB, tB⟩ := hP
  have a31 := hA.2.2.2
  have b31 := hB.2.2.2
  have hA0 := hA.mv X0.warmed.alike hh0
  have hB0 := hB.mv X0.warmed.alike hh0
  have c1 : Steps p.tables e below (s₁.setTop (entryFrame m #[.ref a, .ref b] 3)) (s₁.setTop (mkF m 0 #[.val (.ref a), .val (.ref b), .unset] [])) := entry rfl
  have c2 : Steps p.tables e below (s₁.setTop (entryFrame m #[.ref a, .ref b] 3)) (s₁.setTop (mkF m 4 #[.val (.ref a), .val (.ref b), .unset] [.int (Int32.ofNat B.slots.size), .int (Int32.ofNat A.slots.size)])) := c1.trans (by
    refine XS.aloadN X0.here hexec rfl (hb hbytes d0) rfl rfl ?_
    refine X0.alen hexec hA0 rfl rfl (hb hbytes d1) ?_
    refine XS.aloadN X0.here hexec rfl (hb hbytes d2) rfl rfl ?_
    refine X0.alen hexec hB0 rfl rfl (hb hbytes d3) ?_
    exact Steps.refl _)
  by_cases hs : A.slots.size = B.slots.size
  · have c3 : Steps p.tables e below (s₁.setTop (entryFrame m #[.ref a, .ref b] 3)) (s₁.setTop (mkF m 9 #[.val (.ref a), .val (.ref b), .val (.int 0)] [])) := c2.trans (by
      refine XS.icmpNo X0.here hexec rfl (hb hbytes d4) rfl (ii_ne_f (by rw [hs])) ?_
      refine iconstV X0.here hexec rfl 0 (hb hbytes d7) (by decide) ?_
      refine XS.istoreN X0.here hexec rfl (hb hbytes d8) rfl rfl ?_
      exact Steps.refl _)
    have loop : ∀ (r i : Nat), i + r = A.slots.size → (∀ j, j < i → yv A j = yv B j) → Steps p.tables e below (s₁.setTop (entryFrame m #[.ref a, .ref b] 3)) (s₁.setTop (mkF m 9 #[.val (.ref a), .val (.ref b), .val (.int (Int32.ofNat i))] [])) → ∃ (pc : Nat) (Ls : Array Slot) (v : Int32), (pc = 25 ∨ pc = 33) ∧ ((v = 1 ∧ EqC A B) ∨ (v = 0 ∧ ¬ EqC A B)) ∧ Steps p.tables e below (s₁.setTop (entryFrame m #[.ref a, .ref b] 3)) (s₁.setTop (mkF m pc Ls [.int v])) := by
      intro r
      induction r with
      | zero =>
        intro i hi he cl
        exact ⟨33, _, 1, Or.inr rfl, Or.inl ⟨rfl, hs, fun j hj => he j (by omega)⟩, cl.trans (by
          refine XS.iloadN X0.here hexec rfl (hb hbytes d9) rfl ?_
          refine XS.aloadN X0.here hexec rfl (hb hbytes d10) rfl rfl ?_
          refine X0.alen hexec hA0 rfl rfl (hb hbytes d11) ?_
          refine XS.icmpYes X0.here hexec rfl (pc0 := 12) rfl (hb hbytes d12) rfl (ii_ge_t (nlt32 (by omega) (by omega))) (by decide) rfl ?_
          refine iconstV X0.here hexec rfl 1 (hb hbytes d32) (by decide) ?_
          exact Steps.refl _)⟩
      | succ r ih =>
        intro i hi he cl
        have c4 : Steps p.tables e below (s₁.setTop (entryFrame m #[.ref a, .ref b] 3)) (s₁.setTop (mkF m 21 #[.val (.ref a), .val (.ref b), .val (.int (Int32.ofNat i))] [.int (yv B i), .int (yv A i)])) := cl.trans (by
          refine XS.iloadN X0.here hexec rfl (hb hbytes d9) rfl ?_
          refine XS.aloadN X0.here hexec rfl (hb hbytes d10) rfl rfl ?_
          refine X0.alen hexec hA0 rfl rfl (hb hbytes d11) ?_
          refine XS.icmpNo X0.here hexec rfl (hb hbytes d12) rfl (ii_ge_f (lt32 (by omega) (by omega))) ?_
          refine XS.aloadN X0.here hexec rfl (hb hbytes d15) rfl rfl ?_
          refine XS.iloadN X0.here hexec rfl (hb hbytes d16) rfl ?_
          refine X0.aget hexec hA0 rfl (yv_get hA tA (i := i) (by omega)) rfl rfl (hb hbytes d17) ?_
          refine XS.aloadN X0.here hexec rfl (hb hbytes d18) rfl rfl ?_
          refine XS.iloadN X0.here hexec rfl (hb hbytes d19) rfl ?_
          refine X0.aget hexec hB0 rfl (yv_get hB tB (i := i) (by omega)) rfl rfl (hb hbytes d20) ?_
          exact Steps.refl _)
        by_cases hv : yv A i = yv B i
        · have c5 : Steps p.tables e below (s₁.setTop (entryFrame m #[.ref a, .ref b] 3)) (s₁.setTop (mkF m 9 #[.val (.ref a), .val (.ref b), .val (.int (Int32.ofNat i + 1))] [])) := c4.trans (by
            refine XS.icmpYes X0.here hexec rfl (pc0 := 21) rfl (hb hbytes d21) rfl (ii_eq_t hv) (by decide) rfl ?_
            refine iincV X0.here hexec rfl 1 (hb hbytes d26) (by decide) rfl rfl ?_
            refine XS.goto X0.here hexec rfl (pc0 := 29) rfl (hb hbytes d29) (by decide) rfl ?_
            exact Steps.refl _)
          rw [succ32] at c5
          exact ih (i + 1) (by omega) (fun j hj => by
            by_cases e : j = i
            · rw [e]; exact hv
            · exact he j (by omega)) c5
        · exact ⟨25, _, 0, Or.inl rfl, Or.inr ⟨rfl, fun q => hv (q.2 i (by omega))⟩, c4.trans (by
            refine XS.icmpNo X0.here hexec rfl (hb hbytes d21) rfl (ii_eq_f hv) ?_
            refine iconstV X0.here hexec rfl 0 (hb hbytes d24) (by decide) ?_
            exact Steps.refl _)⟩
    obtain ⟨pc, Ls, v, hpc, hv, cz⟩ := loop A.slots.size 0 (by omega) (fun j hj => absurd hj (Nat.not_lt_zero j)) c3
    have nv : narrow .boolean (.int v) = .int v := by rcases hv with ⟨rfl, -⟩ | ⟨rfl, -⟩ <;> rfl
    rcases hpc with rfl | rfl
    · exact ⟨s₁, some (.int v), _, _, _, X0, rfl, rfl, rfl, (fun h => by cases h), ⟨v, rfl, hh0, hv⟩, fun fs hl => cz.trans (X0.ireturnOut hexec hret nv (Or.inr (Or.inl rfl)) (hb hbytes d25) hl)⟩
    · exact ⟨s₁, some (.int v), _, _, _, X0, rfl, rfl, rfl, (fun h => by cases h), ⟨v, rfl, hh0, hv⟩, fun fs hl => cz.trans (X0.ireturnOut hexec hret nv (Or.inr (Or.inl rfl)) (hb hbytes d33) hl)⟩
  · have c3 : Steps p.tables e below (s₁.setTop (entryFrame m #[.ref a, .ref b] 3)) (s₁.setTop (mkF m 35 #[.val (.ref a), .val (.ref b), .unset] [.int 0])) := c2.trans (by
      refine XS.icmpYes X0.here hexec rfl (pc0 := 4) rfl (hb hbytes d4) rfl (ii_ne_t (ne32 a31 b31 hs)) (by decide) rfl ?_
      refine iconstV X0.here hexec rfl 0 (hb hbytes d34) (by decide) ?_
      exact Steps.refl _)
    exact ⟨s₁, some (.int 0), _, _, _, X0, rfl, rfl, rfl, (fun h => by cases h), ⟨0, rfl, hh0, Or.inr ⟨rfl, fun q => hs q.1⟩⟩, fun fs hl => c3.trans (X0.ireturnOut hexec hret rfl (Or.inr (Or.inl rfl)) (hb hbytes d35) hl)⟩
end LEq
theorem Cod.ty {cd : Int32} {n : Nat} {f : Nat → Int32} {V : Cell} (h : Cod cd n f V) : Typed .byte V := fun i v hv => by
  have hi : i < V.slots.size := (Array.getElem?_eq_some_iff.mp hv).1
  rcases h with ⟨-, k1, k2⟩ | ⟨-, k1, k2, -⟩
  · rw [(k2 i (by omega)).1] at hv; cases hv; exact fits_lo8 _
  · rcases Nat.mod_two_eq_zero_or_one i with e | e
    · obtain ⟨j, rfl⟩ : ∃ j, i = 2 * j := ⟨i / 2, by omega⟩
      rw [(k2 j (by omega)).1] at hv; cases hv; exact fits_lo8 _
    · obtain ⟨j, rfl⟩ : ∃ j, i = 2 * j + 1 := ⟨i / 2, by omega⟩
      rw [(k2 j (by omega)).2] at hv; cases hv; exact fits_lo8 _
/-- the same text -/
def SameT (n : Nat) (f : Nat → Int32) (k : Nat) (g : Nat → Int32) : Prop := n = k ∧ ∀ j, j < n → f j = g j
theorem lo8_inj {x y : Int32} (h0 : ¬ x < 0) (h1 : ¬ 255 < x) (k0 : ¬ y < 0) (k1 : ¬ 255 < y) (h : lo8 x = lo8 y) : x = y := by
  rw [← lo8_mask h0 h1, ← lo8_mask k0 k1, h]
/-- arrays coded by one coder are equal just where the texts are -/
theorem Cod.eqv {cd : Int32} {n k : Nat} {f g : Nat → Int32} {V V' : Cell} (h : Cod cd n f V) (h' : Cod cd k g V') (hf : ∀ j, j < n → ¬ f j < 0 ∧ ¬ 65535 < f j) (hg : ∀ j, j < k → ¬ g j < 0 ∧ ¬ 65535 < g j) : EqC V V' ↔ SameT n f k g := by
  have yvv : ∀ {W : Cell} {i : Nat} {x : Int32}, W.slots[i]? = some (.int x) → yv W i = x := fun q => by unfold yv; rw [q]
  rcases h with ⟨rfl, k1, k2⟩ | ⟨rfl, k1, k2, -⟩
  · rcases h' with ⟨-, m1, m2⟩ | ⟨e, -⟩
    · constructor
      · rintro ⟨e1, e2⟩
        refine ⟨by omega, fun j hj => ?_⟩
        have q := e2 j (by omega)
        rw [yvv (k2 j hj).1, yvv (m2 j (by omega)).1] at q
        exact lo8_inj (hf j hj).1 (k2 j hj).2 (hg j (by omega)).1 (m2 j (by omega)).2 q
      · rintro ⟨rfl, e2⟩
        refine ⟨by omega, fun j hj => ?_⟩
        rw [yvv (k2 j (by omega)).1, yvv (m2 j (by omega)).1, e2 j (by omega)]
    · exact absurd e (by decide)
  · rcases h' with ⟨e, -⟩ | ⟨-, m1, m2, -⟩
    · exact absurd e (by decide)
    · constructor
      · rintro ⟨e1, e2⟩
        refine ⟨by omega, fun j hj => ?_⟩
        have q1 := e2 (2 * j) (by omega)
        have q2 := e2 (2 * j + 1) (by omega)
        rw [yvv (k2 j hj).1, yvv (m2 j (by omega)).1] at q1
        rw [yvv (k2 j hj).2, yvv (m2 j (by omega)).2] at q2
        rw [← pair_says (hf j hj).1 (hf j hj).2, ← pair_says (hg j (by omega)).1 (hg j (by omega)).2, q1, q2]
      · rintro ⟨rfl, e2⟩
        refine ⟨by omega, fun i hi => ?_⟩
        rcases Nat.mod_two_eq_zero_or_one i with e | e
        · obtain ⟨j, rfl⟩ : ∃ j, i = 2 * j := ⟨i / 2, by omega⟩
          rw [yvv (k2 j (by omega)).1, yvv (m2 j (by omega)).1, e2 j (by omega)]
        · obtain ⟨j, rfl⟩ : ∃ j, i = 2 * j + 1 := ⟨i / 2, by omega⟩
          rw [yvv (k2 j (by omega)).2, yvv (m2 j (by omega)).2, e2 j (by omega)]
/-- two codings differ: so do the texts -/
theorem Cod.dif {cd cd' : Int32} {n k : Nat} {f g : Nat → Int32} {V V' : Cell} (h : Cod cd n f V) (h' : Cod cd' k g V') (hne : ¬ cd = cd') : ¬ SameT n f k g := by
  rintro ⟨rfl, e⟩
  rcases h with ⟨rfl, -, k2⟩ | ⟨rfl, -, -, j, hj, hw⟩
  · rcases h' with ⟨rfl, -⟩ | ⟨-, -, -, j, hj, hw⟩
    · exact hne rfl
    · exact (k2 j hj).2 (by rw [e j hj]; exact hw)
  · rcases h' with ⟨-, -, m2⟩ | ⟨rfl, -⟩
    · exact (m2 j hj).2 (by rw [← e j hj]; exact hw)
    · exact hne rfl
/-- an object of exactly C is an instance of C -/
theorem cinst {p : Program} {l : Launch} {e : Env} {R : Room} {s : State} {m : MethodId} {args : Array Value} {below : List Frame} {meth : Method} {c : Code} {T : State} {locs : List Loc} {cells slots : Nat} (X : Stand p l e R s m args below meth c T locs cells slots) (hexec : p.tables.exec = Jvm.exec) {own C : String} {index : Nat} (hown : s.vm.findClass own = some m.cls) (hlink : (Cond.classLink own index C).before args s = true) {a : Addr} (hE : Exact C a T)
    {g : JFrame} (hg : g.method = m) {rest : List Value} (hstack : g.stack = .ref a :: rest) (hdg : decode c.code g.pc = .ok (.instanceof index, 3)) :
    ∃ T', Stand p l e R s m args below meth c T' locs cells slots ∧ T'.heap = T.heap ∧ ∀ target, Steps p.tables e below (T'.setTop { g with pc := g.pc + 3, stack := .int 1 :: rest }) target → Steps p.tables e below (T.setTop g) target := by
  obtain ⟨cB, h1, D, h2, h3, h4⟩ := hE
  have h1' : s.vm.findClass C = some cB := by rw [← X.warmed.alike.findClass]; exact h1
  obtain ⟨vm', X', st⟩ := X.instanceofYes hexec hown hlink h2 h4 h1' (by rw [h3]; exact Jvm.Free.SB.assignable_self _ _) hg hstack hdg
  exact ⟨_, X', rfl, st⟩
theorem cself {p : Program} {l : Launch} {e : Env} {R : Room} {s : State} {m : MethodId} {args : Array Value} {below : List Frame} {meth : Method} {c : Code} {T : State} {locs : List Loc} {cells slots : Nat} (X : Stand p l e R s m args below meth c T locs cells slots) (hexec : p.tables.exec = Jvm.exec) {own C : String} {index : Nat} (hown : s.vm.findClass own = some m.cls) (hlink : (Cond.classLink own index C).before args s = true) {a : Addr} (hE : Exact C a T)
    {g : JFrame} (hg : g.method = m) {rest : List Value} (hstack : g.stack = .ref a :: rest) (hdg : decode c.code g.pc = .ok (.checkcast index, 3)) :
    ∃ T', Stand p l e R s m args below meth c T' locs cells slots ∧ T'.heap = T.heap ∧ ∀ target, Steps p.tables e below (T'.setTop { g with pc := g.pc + 3, stack := .ref a :: rest }) target → Steps p.tables e below (T.setTop g) target := by
  obtain ⟨cB, h1, D, h2, h3, h4⟩ := hE
  have h1' : s.vm.findClass C = some cB := by rw [← X.warmed.alike.findClass]; exact h1
  obtain ⟨vm', X', st⟩ := X.checkcastYes hexec hown hlink h2 h4 h1' (by rw [h3]; exact Jvm.Free.SB.assignable_self _ _) hg hstack hdg
  exact ⟨_, X', rfl, fun t h => st t (by rw [← hstack] at h; exact h)⟩
namespace SEq
def yN : MethodName := ⟨"java/lang/String", "equals", "(Ljava/lang/Object;)Z"⟩
abbrev yB : ByteArray := jdk_42_method_66_code
theorem d0 : decode yB 0 = .ok (.aload_n 0, 1) := by decide +kernel
theorem d1 : decode yB 1 = .ok (.aload_n 1, 1) := by decide +kernel
theorem d2 : decode yB 2 = .ok (.if_acmp (.ne) 5, 3) := by decide +kernel
theorem d5 : decode yB 5 = .ok (.iconst 1, 1) := by decide +kernel
theorem d6 : decode yB 6 = .ok (.ireturn, 1) := by decide +kernel
theorem d7 : decode yB 7 = .ok (.aload_n 1, 1) := by decide +kernel
theorem d8 : decode yB 8 = .ok (.instanceof 10, 3) := by decide +kernel
theorem d11 : decode yB 11 = .ok (.ifCond (.eq) 43, 3) := by decide +kernel
theorem d14 : decode yB 14 = .ok (.aload_n 1, 1) := by decide +kernel
theorem d15 : decode yB 15 = .ok (.checkcast 10, 3) := by decide +kernel
theorem d18 : decode yB 18 = .ok (.astore_n 2, 1) := by decide +kernel
theorem d19 : decode yB 19 = .ok (.getstatic 38, 3) := by decide +kernel
theorem d22 : decode yB 22 = .ok (.ifCond (.eq) 14, 3) := by decide +kernel
theorem d25 : decode yB 25 = .ok (.aload_n 0, 1) := by decide +kernel
theorem d26 : decode yB 26 = .ok (.getfield 15, 3) := by decide +kernel
theorem d29 : decode yB 29 = .ok (.aload_n 2, 1) := by decide +kernel
theorem d30 : decode yB 30 = .ok (.getfield 15, 3) := by decide +kernel
theorem d33 : decode yB 33 = .ok (.if_icmp (.ne) 21, 3) := by decide +kernel
theorem d36 : decode yB 36 = .ok (.aload_n 0, 1) := by decide +kernel
theorem d37 : decode yB 37 = .ok (.getfield 9, 3) := by decide +kernel
theorem d40 : decode yB 40 = .ok (.aload_n 2, 1) := by decide +kernel
theorem d41 : decode yB 41 = .ok (.getfield 9, 3) := by decide +kernel
theorem d44 : decode yB 44 = .ok (.invokestatic 541, 3) := by decide +kernel
theorem d47 : decode yB 47 = .ok (.ifCond (.eq) 7, 3) := by decide +kernel
theorem d50 : decode yB 50 = .ok (.iconst 1, 1) := by decide +kernel
theorem d51 : decode yB 51 = .ok (.goto 4, 3) := by decide +kernel
theorem d54 : decode yB 54 = .ok (.iconst 0, 1) := by decide +kernel
theorem d55 : decode yB 55 = .ok (.ireturn, 1) := by decide +kernel
def site : List Cond := [.classLink "java/lang/String" 10 "java/lang/String", .fieldLink "java/lang/String" 38 "java/lang/String" "COMPACT_STRINGS" "Z", .fieldLink "java/lang/String" 15 "java/lang/String" "coder" "B", .fieldLink "java/lang/String" 9 "java/lang/String" "value" "[B", LEq.tab] ++ staticW "java/lang/String" 541 LEq.yN
def tab : Cond := tabOf yN yB 3 (some .boolean) site
def P (x t : Addr) (V : Cell) (cd : Int32) (n : Nat) (f : Nat → Int32) (y t' : Addr) (V' : Cell) (cd' : Int32) (k : Nat) (g : Nat → Int32) (z : Int32) (args : Array Value) (s : State) : Prop := args = #[.ref x, .ref y] ∧ Txt x t V cd n f s ∧ Txt y t' V' cd' k g s ∧ StaticIs s "java/lang/String" "COMPACT_STRINGS" "Z" (.int z) ∧ ¬ z = 0
/-- equals(Object) of two Strings: whether the texts are the same -/
theorem law (l : Launch) (x t : Addr) (V : Cell) (cd : Int32) (n : Nat) (f : Nat → Int32) (y t' : Addr) (V' : Cell) (cd' : Int32) (k : Nat) (g : Nat → Int32) (z : Int32) : Law l yN 2 1 1 14 yB 3 (some .boolean) site (P x t V cd n f y t' V' cd' k g z) (Says01 (SameT n f k g)) [] 0 0 := by
  refine Law.of_walk (plainFor_of_name (by decide +kernel)) (by decide +kernel) (by decide +kernel) (by decide) (fun _ _ h => by rw [h.1]; rfl) (fun _ U U' hal hh h => ⟨h.1, h.2.1.mv hal hh, h.2.2.1.mv hal hh, h.2.2.2.1.there hal hh, h.2.2.2.2⟩) (fun r U U' V V' h1 hal h2 h => Says01.mv r U U' V V' h1 hal h2 h) ?_
  intro p e s m args below meth c s₁ X0 hexec hbytes hml hret hlk hnm hown hh0 W hP
  obtain ⟨rfl, hx, hy, s1, hz⟩ := hP
  have c1 : Steps p.tables e below (s₁.setTop (entryFrame m #[.ref x, .ref y] 3)) (s₁.setTop (mkF m 2 #[.val (.ref x), .val (.ref y), .unset] [.ref y, .ref x])) := Steps.trans (entry rfl) (by
    show Steps p.tables e below (s₁.setTop (mkF m 0 #[.val (.ref x), .val (.ref y), .unset] [])) _
    refine XS.aloadN X0.here hexec rfl (hb hbytes d0) rfl rfl ?_
    refine XS.aloadN X0.here hexec rfl (hb hbytes d1) rfl rfl ?_
    exact Steps.refl _)
  by_cases hxy : x = y
  · have c2 : Steps p.tables e below (s₁.setTop (entryFrame m #[.ref x, .ref y] 3)) (s₁.setTop (mkF m 6 #[.val (.ref x), .val (.ref y), .unset] [.int 1])) := c1.trans (by
      refine acmpNo X0.here hexec rfl (hb hbytes d2) rfl rfl rfl (by simp [acmp, hxy]) ?_
      refine iconstV X0.here hexec rfl 1 (hb hbytes d5) (by decide) ?_
      exact Steps.refl _)
    subst hxy
    have ec : cd = cd' := by
      obtain ⟨D, fd, a1, a2, a3⟩ := hx.2.2.1
      obtain ⟨D', fd', b1, b2, b3⟩ := hy.2.2.1
      cases a1.symm.trans b1
      obtain ⟨q1, q2, q3, q4⟩ := a2.1
      obtain ⟨r1, r2, r3, r4⟩ := b2.1
      cases q4.symm.trans r4
      cases a3.symm.trans b3; rfl
    have et : t = t' := by
      obtain ⟨D, fd, a1, a2, a3⟩ := hx.2.1
      obtain ⟨D', fd', b1, b2, b3⟩ := hy.2.1
      cases a1.symm.trans b1
      obtain ⟨q1, q2, q3, q4⟩ := a2.1
      obtain ⟨r1, r2, r3, r4⟩ := b2.1
      cases q4.symm.trans r4
      cases a3.symm.trans b3; rfl
    subst ec et
    have ev : V = V' := by cases hx.2.2.2.1.1.symm.trans hy.2.2.2.1.1; rfl
    subst ev
    have hs : SameT n f k g := (Cod.eqv hx.2.2.2.2.1 hy.2.2.2.2.1 hx.2.2.2.2.2 hy.2.2.2.2.2).mp ⟨rfl, fun _ _ => rfl⟩
    exact ⟨s₁, some (.int 1), _, _, _, X0, rfl, rfl, rfl, (fun h => by cases h), ⟨1, rfl, hh0, Or.inl ⟨rfl, hs⟩⟩, fun fs hl => c2.trans (X0.ireturnOut hexec hret rfl (Or.inr (Or.inl rfl)) (hb hbytes d6) hl)⟩
  · have c2 : Steps p.tables e below (s₁.setTop (entryFrame m #[.ref x, .ref y] 3)) (s₁.setTop (mkF m 8 #[.val (.ref x), .val (.ref y), .unset] [.ref y])) := c1.trans (by
      refine acmpYes X0.here hexec rfl (pc0 := 2) rfl (hb hbytes d2) rfl rfl rfl (by simp [acmp, hxy]) (by decide) rfl ?_
      refine XS.aloadN X0.here hexec rfl (hb hbytes d7) rfl rfl ?_
      exact Steps.refl _)
    obtain ⟨T3, X3, q3, st3⟩ := cinst X0 hexec hown (wk W (.classLink "java/lang/String" 10 "java/lang/String")) (hy.mv X0.warmed.alike hh0).1 (g := (mkF m 8 #[.val (.ref x), .val (.ref y), .unset] [.ref y])) rfl (rest := []) rfl (hb hbytes d8)
    have hh3 := q3.trans hh0
    have c4 : Steps p.tables e below (s₁.setTop (entryFrame m #[.ref x, .ref y] 3)) (T3.setTop (mkF m 15 #[.val (.ref x), .val (.ref y), .unset] [.ref y])) := (c2.trans (st3 _ (Steps.refl _))).trans (by
      refine XS.ifNo X3.here hexec rfl (hb hbytes d11) rfl (i0_eq_f (by decide)) ?_
      refine XS.aloadN X3.here hexec rfl (hb hbytes d14) rfl rfl ?_
      exact Steps.refl _)
    obtain ⟨T5, X5, q5, st5⟩ := cself X3 hexec hown (wk W (.classLink "java/lang/String" 10 "java/lang/String")) (hy.mv X3.warmed.alike hh3).1 (g := (mkF m 15 #[.val (.ref x), .val (.ref y), .unset] [.ref y])) rfl (rest := []) rfl (hb hbytes d15)
    have hh5 := q5.trans hh3
    have c6 : Steps p.tables e below (s₁.setTop (entryFrame m #[.ref x, .ref y] 3)) (T5.setTop (mkF m 19 #[.val (.ref x), .val (.ref y), .val (.ref y)] [])) := (c4.trans (st5 _ (Steps.refl _))).trans (by
      refine XS.astoreN X5.here hexec rfl (hb hbytes d18) rfl rfl rfl ?_
      exact Steps.refl _)
    obtain ⟨T7, X7, q7, st7⟩ := X5.sget hexec hown (wk W (.fieldLink "java/lang/String" 38 "java/lang/String" "COMPACT_STRINGS" "Z")) s1 (fun _ _ h => by rw [hh5]; exact h) (g := (mkF m 19 #[.val (.ref x), .val (.ref y), .val (.ref y)] [])) rfl (hb hbytes d19)
    have hh7 := q7.trans hh5
    have c8 : Steps p.tables e below (s₁.setTop (entryFrame m #[.ref x, .ref y] 3)) (T7.setTop (mkF m 26 #[.val (.ref x), .val (.ref y), .val (.ref y)] [.ref x])) := (c6.trans (st7 _ (Steps.refl _))).trans (by
      refine XS.ifNo X7.here hexec rfl (hb hbytes d22) rfl (i0_eq_f hz) ?_
      refine XS.aloadN X7.here hexec rfl (hb hbytes d25) rfl rfl ?_
      exact Steps.refl _)
    obtain ⟨T9, X9, q9, st9⟩ := X7.hget hexec hown (wk W (.fieldLink "java/lang/String" 15 "java/lang/String" "coder" "B")) (hx.mv X7.warmed.alike hh7).2.2.1 (g := (mkF m 26 #[.val (.ref x), .val (.ref y), .val (.ref y)] [.ref x])) rfl (rest := []) rfl (hb hbytes d26)
    have hh9 := q9.trans hh7
    have c10 : Steps p.tables e below (s₁.setTop (entryFrame m #[.ref x, .ref y] 3)) (T9.setTop (mkF m 30 #[.val (.ref x), .val (.ref y), .val (.ref y)] [.ref y, .int cd])) := (c8.trans (st9 _ (Steps.refl _))).trans (by
      refine XS.aloadN X9.here hexec rfl (hb hbytes d29) rfl rfl ?_
      exact Steps.refl _)
    obtain ⟨T11, X11, q11, st11⟩ := X9.hget hexec hown (wk W (.fieldLink "java/lang/String" 15 "java/lang/String" "coder" "B")) (hy.mv X9.warmed.alike hh9).2.2.1 (g := (mkF m 30 #[.val (.ref x), .val (.ref y), .val (.ref y)] [.ref y, .int cd])) rfl (rest := [.int cd]) rfl (hb hbytes d30)
    have hh11 := q11.trans hh9
    have c12 : Steps p.tables e below (s₁.setTop (entryFrame m #[.ref x, .ref y] 3)) (T11.setTop (mkF m 33 #[.val (.ref x), .val (.ref y), .val (.ref y)] [.int cd', .int cd])) := c10.trans (st11 _ (Steps.refl _))
    by_cases hcd : cd = cd'
    · subst hcd
      have c13 : Steps p.tables e below (s₁.setTop (entryFrame m #[.ref x, .ref y] 3)) (T11.setTop (mkF m 37 #[.val (.ref x), .val (.ref y), .val (.ref y)] [.ref x])) := c12.trans (by
        refine XS.icmpNo X11.here hexec rfl (hb hbytes d33) rfl (ii_ne_f rfl) ?_
        refine XS.aloadN X11.here hexec rfl (hb hbytes d36) rfl rfl ?_
        exact Steps.refl _)
      obtain ⟨T14, X14, q14, st14⟩ := X11.hget hexec hown (wk W (.fieldLink "java/lang/String" 9 "java/lang/String" "value" "[B")) (hx.mv X11.warmed.alike hh11).2.1 (g := (mkF m 37 #[.val (.ref x), .val (.ref y), .val (.ref y)] [.ref x])) rfl (rest := []) rfl (hb hbytes d37)
      have hh14 := q14.trans hh11
      have c15 : Steps p.tables e below (s₁.setTop (entryFrame m #[.ref x, .ref y] 3)) (T14.setTop (mkF m 41 #[.val (.ref x), .val (.ref y), .val (.ref y)] [.ref y, .ref t])) := (c13.trans (st14 _ (Steps.refl _))).trans (by
        refine XS.aloadN X14.here hexec rfl (hb hbytes d40) rfl rfl ?_
        exact Steps.refl _)
      obtain ⟨T16, X16, q16, st16⟩ := X14.hget hexec hown (wk W (.fieldLink "java/lang/String" 9 "java/lang/String" "value" "[B")) (hy.mv X14.warmed.alike hh14).2.1 (g := (mkF m 41 #[.val (.ref x), .val (.ref y), .val (.ref y)] [.ref y, .ref t])) rfl (rest := [.ref t]) rfl (hb hbytes d41)
      have hh16 := q16.trans hh14
      have c17 : Steps p.tables e below (s₁.setTop (entryFrame m #[.ref x, .ref y] 3)) (T16.setTop (mkF m 44 #[.val (.ref x), .val (.ref y), .val (.ref y)] [.ref t', .ref t])) := c15.trans (st16 _ (Steps.refl _))
      obtain ⟨v18, T18, X18, E18, g18⟩ := X16.callS hexec (LEq.law l t V t' V') hown (wks W (staticW "java/lang/String" 541 LEq.yN)) (wk W LEq.tab) (W := 0) (Nat.le_of_ble_eq_true rfl) (Nat.le_of_ble_eq_true rfl) (Nat.le_refl _) (Nat.le_refl _) (g := (mkF m 44 #[.val (.ref x), .val (.ref y), .val (.ref y)] [.ref t', .ref t])) rfl (by rw [hml]; rfl) c17 (argsL := [.ref t, .ref t']) (rest := []) rfl rfl (by show 2 * 0 + 0 ≤ _; decide) (hb hbytes d44) (⟨rfl, hx.2.2.2.1.mv X16.warmed.alike hh16, hx.2.2.2.2.1.ty, hy.2.2.2.1.mv X16.warmed.alike hh16, hy.2.2.2.2.1.ty⟩)
      obtain ⟨v, rfl, q18, hv⟩ := E18
      have iff := Cod.eqv hx.2.2.2.2.1 hy.2.2.2.2.1 hx.2.2.2.2.2 hy.2.2.2.2.2
      rcases hv with ⟨rfl, he⟩ | ⟨rfl, he⟩
      · have c19 : Steps p.tables e below (s₁.setTop (entryFrame m #[.ref x, .ref y] 3)) (T18.setTop (mkF m 55 #[.val (.ref x), .val (.ref y), .val (.ref y)] [.int 1])) := Steps.trans g18 (by
          refine XS.ifNo X18.here hexec rfl (hb hbytes d47) rfl (i0_eq_f (by decide)) ?_
          refine iconstV X18.here hexec rfl 1 (hb hbytes d50) (by decide) ?_
          refine XS.goto X18.here hexec rfl (pc0 := 51) rfl (hb hbytes d51) (by decide) rfl ?_
          exact Steps.refl _)
        exact ⟨T18, some (.int 1), _, _, _, X18, rfl, rfl, rfl, (fun h => by cases h), ⟨1, rfl, q18.trans hh16, Or.inl ⟨rfl, iff.mp he⟩⟩, fun fs hl => c19.trans (X18.ireturnOut hexec hret rfl (Or.inr (Or.inl rfl)) (hb hbytes d55) hl)⟩
      · have c19 : Steps p.tables e below (s₁.setTop (entryFrame m #[.ref x, .ref y] 3)) (T18.setTop (mkF m 55 #[.val (.ref x), .val (.ref y), .val (.ref y)] [.int 0])) := Steps.trans g18 (by
          refine XS.ifYes X18.here hexec rfl (pc0 := 47) rfl (hb hbytes d47) rfl (i0_eq_t rfl) (by decide) rfl ?_
          refine iconstV X18.here hexec rfl 0 (hb hbytes d54) (by decide) ?_
          exact Steps.refl _)
        exact ⟨T18, some (.int 0), _, _, _, X18, rfl, rfl, rfl, (fun h => by cases h), ⟨0, rfl, q18.trans hh16, Or.inr ⟨rfl, fun q => he (iff.mpr q)⟩⟩, fun fs hl => c19.trans (X18.ireturnOut hexec hret rfl (Or.inr (Or.inl rfl)) (hb hbytes d55) hl)⟩
    · have c13 : Steps p.tables e below (s₁.setTop (entryFrame m #[.ref x, .ref y] 3)) (T11.setTop (mkF m 55 #[.val (.ref x), .val (.ref y), .val (.ref y)] [.int 0])) := c12.trans (by
        refine XS.icmpYes X11.here hexec rfl (pc0 := 33) rfl (hb hbytes d33) rfl (ii_ne_t hcd) (by decide) rfl ?_
        refine iconstV X11.here hexec rfl 0 (hb hbytes d54) (by decide) ?_
        exact Steps.refl _)
      exact ⟨T11, some (.int 0), _, _, _, X11, rfl, rfl, rfl, (fun h => by cases h), ⟨0, rfl, hh11, Or.inr ⟨rfl, Cod.dif hx.2.2.2.2.1 hy.2.2.2.2.1 hcd⟩⟩, fun fs hl => c13.trans (X11.ireturnOut hexec hret rfl (Or.inr (Or.inl rfl)) (hb hbytes d55) hl)⟩
theorem pays {l : Launch} {R : Room} {p : Program} {e : Env} {below : List Frame} {s : State} {sargs : Array Value} {len W : Nat} (x t : Addr) (V : Cell) (cd : Int32) (n : Nat) (f : Nat → Int32) (y t' : Addr) (V' : Cell) (cd' : Int32) (k : Nat) (g : Nat → Int32) (z : Int32) (htab : tab.before sargs s = true) (hfr : 2 ≤ R.frames) (hlo : W + 28 ≤ R.locals) :
    Back l R p e below s sargs yN len W (fun A₁ a₁ => A₁.cells + 0 ≤ R.cells ∧ A₁.slots + 0 ≤ R.slots ∧ P x t V cd n f y t' V' cd' k g z a₁ A₁.U) (fun A₁ _ v₁ B₁ => Says01 (SameT n f k g) v₁ A₁.U B₁.U ∧ B₁.locs = A₁.locs ++ [] ∧ B₁.cells = A₁.cells + 0 ∧ B₁.slots = A₁.slots + 0) :=
  (law l x t V cd n f y t' V' cd' k g z).pays htab hfr (by omega)
end SEq
end StrChars
namespace StrChars.Road
open Jvm Sem ClassFile Op Lib Jvm.Stand Jvm.Free Jvm.Free.XT
open Jvm.Lib.Cold (StaticIs)
/-- the words of String.isEmpty() -/
abbrev wordsEmp : List Jvm.Cond := [.code Emp.yN Emp.yB 1 (some .boolean), .initialized ST, .fieldLink ST 9 ST "value" "[B"]
theorem tabEmp_of {a : Array Value} {s : State} (h : ∀ w ∈ wordsEmp, w.before a s = true) : Emp.tab.before a s = true := unparts (wk h (.code Emp.yN Emp.yB 1 (some .boolean))) (wks h (.initialized Emp.yN.cls :: Emp.site))
theorem movedEmp {Z s : State} {a0 args : Array Value} (hZ : Z.Warmed39 s.vm) (hw : ∀ d ∈ wordsEmp, d.before a0 Z = true) : ∀ d ∈ wordsEmp, d.before args s = true := fun d hd => by
  have t : ∀ d ∈ wordsEmp, (d.onTables && d.keepsFace) = true := by decide +kernel
  exact RoadKit.mv hZ (hw d hd) (t d hd)
/-- the words of String.equals(Object) -/
abbrev wordsEq : List Jvm.Cond := [.code SEq.yN SEq.yB 3 (some .boolean), .initialized ST, .classLink ST 10 ST, .fieldLink ST 38 ST "COMPACT_STRINGS" "Z", .fieldLink ST 15 ST "coder" "B", .fieldLink ST 9 ST "value" "[B", .methodLink ST 541 LEq.yN, .static LEq.yN, .code LEq.yN LEq.yB 3 (some .boolean), .initialized "java/lang/StringLatin1"]
theorem tabEq_of {a : Array Value} {s : State} (h : ∀ w ∈ wordsEq, w.before a s = true) : SEq.tab.before a s = true := by
  have hl : LEq.tab.before a s = true := unparts (wk h (.code LEq.yN LEq.yB 3 (some .boolean))) (wks h (.initialized LEq.yN.cls :: LEq.site))
  have q := consq hl h
  exact unparts (wk q (.code SEq.yN SEq.yB 3 (some .boolean))) (wks q (.initialized SEq.yN.cls :: SEq.site))
theorem movedEq {Z s : State} {a0 args : Array Value} (hZ : Z.Warmed39 s.vm) (hw : ∀ d ∈ wordsEq, d.before a0 Z = true) : ∀ d ∈ wordsEq, d.before args s = true := fun d hd => by
  have t : ∀ d ∈ wordsEq, (d.onTables && d.keepsFace) = true := by decide +kernel
  exact RoadKit.mv hZ (hw d hd) (t d hd)
/-- the road's facts of a String, as the laws ask it -/
theorem txt_of {Z U : State} {a0 : Array Value} {kI : Nat} (wi : (Jvm.Cond.instantiable ST kI).before a0 Z = true) (al : Z.vm.Alike U.vm) {x t : Addr} {kb : ClassId} {cs : List Int32} {cd N2 : Int32} {vs : List Value} (E : RoadKit.Exa Z U.heap x ST) (V : RoadKit.Fld Z U.heap x ST "value" "[B" (.ref t)) (C : RoadKit.Fld Z U.heap x ST "coder" "B" (.int cd)) (K : RoadKit.Arv Z U.heap t kb .byte N2 vs (.int 0)) (hc : CodA cs cd N2 vs) (hb : ∀ c ∈ cs, ¬ c < 0 ∧ ¬ (65535 : Int32) < c) (l2 : cs.length ≤ 4000) :
    ∃ A, Txt x t A cd cs.length (fun j => cs.getD j 0) U := by
  obtain ⟨A, K1, K2, K3, K4, K5, K6⟩ := K
  have hcod := hc.cod (by omega) K3 K5
  obtain ⟨D, fV, fC, hB, F1, F2, g1, g2, -, -⟩ := strObj wi al E V C
  exact ⟨A, ⟨_, hB.2.2.1, D, hB.1, rfl, by cases q : D.vm <;> first | rfl | exact absurd q (hB.2.1.2 _)⟩, Has.of hB F1 g1, Has.of hB F2 g2, ⟨K1.1, State.isArrayOf_alike al K1.2.1, K1.2.2, by rcases hcod with ⟨-, q, -⟩ | ⟨-, q, -⟩ <;> omega⟩, hcod, fun j hj => by
    have e : cs.getD j 0 = cs[j] := by simp [List.getD_eq_getElem?_getD, hj]
    show ¬ cs.getD j 0 < 0 ∧ ¬ 65535 < cs.getD j 0
    rw [e]; exact hb _ (List.getElem_mem _)⟩
theorem same_list (cs ds : List Int32) : SameT cs.length (fun j => cs.getD j 0) ds.length (fun j => ds.getD j 0) ↔ cs = ds := by
  constructor
  · rintro ⟨e, q⟩
    refine List.ext_getElem e fun j h1 h2 => ?_
    have := q j h1
    simpa [List.getD_eq_getElem?_getD, h1, h2] using this
  · rintro rfl
    exact ⟨rfl, fun _ _ => rfl⟩
/-- **isEmpty() OF SUCH A STRING** -/
theorem empW {p : Program} {l : Launch} {e : Env} {R : Room} {s : State} {args : Array Value} {below : List Frame} {len W : Nat} {Z : State} {a0 : Array Value} {h : Heap} (hZ : Z.Warmed39 s.vm) (hw : ∀ d ∈ wordsEmp, d.before a0 Z = true) {kI : Nat} (wi : (Jvm.Cond.instantiable ST kI).before a0 Z = true)
    {x t : Addr} {kb : ClassId} {cs : List Int32} {cd N2 : Int32} {vs : List Value} (E : RoadKit.Exa Z h x ST) (V : RoadKit.Fld Z h x ST "value" "[B" (.ref t)) (C : RoadKit.Fld Z h x ST "coder" "B" (.int cd)) (K : RoadKit.Arv Z h t kb .byte N2 vs (.int 0)) (hc : CodA cs cd N2 vs) (hb : ∀ c ∈ cs, ¬ c < 0 ∧ ¬ (65535 : Int32) < c) (l2 : cs.length ≤ 4000) (hfr : 1 ≤ R.frames) (hlo : W + 12 ≤ R.locals) :
    Back l R p e below s args (⟨"java/lang/String", "isEmpty", "()Z"⟩ : MethodName) len W (fun P a => a = #[.ref x] ∧ P.U.heap = h ∧ P.cells + 0 ≤ R.cells ∧ P.slots + 0 ≤ R.slots)
      (fun P _ v B => ∃ L, (v = some (.int (if cs.length = 0 then 1 else 0)) ∧ L = [] ∧ B.U.heap = h) ∧ B.locs = P.locs ++ L ∧ B.cells = P.cells + 0 ∧ B.slots = P.slots + 0) := by
  intro m meth c P g ig mk a X hg hsize hdg hW hn hp'
  obtain ⟨rfl, rfl, r1, r2⟩ := hp'
  have al : Z.vm.Alike P.U.vm := hZ.alike.trans X.warmed.alike
  obtain ⟨A, hx⟩ := txt_of wi al E V C K hc hb l2
  obtain ⟨v, B, X', ⟨⟨hv, hh⟩, hl, hk, hs⟩, st⟩ := Emp.pays x t A cd cs.length (fun j => cs.getD j 0) (tabEmp_of (movedEmp hZ hw)) hfr hlo m meth c P g ig mk _ X hg hsize hdg hW hn ⟨r1, r2, rfl, hx⟩
  exact ⟨v, B, X', ⟨[], ⟨hv, rfl, hh⟩, hl, hk, hs⟩, st⟩
/-- **equals(Object) OF TWO SUCH STRINGS**: 1 just where the chars are the same -/
theorem eqW {p : Program} {l : Launch} {e : Env} {R : Room} {s : State} {args : Array Value} {below : List Frame} {len W : Nat} {Z : State} {a0 : Array Value} {h : Heap} (hZ : Z.Warmed39 s.vm) (hw : ∀ d ∈ wordsEq, d.before a0 Z = true) {kI : Nat} (wi : (Jvm.Cond.instantiable ST kI).before a0 Z = true)
    {x t : Addr} {kb : ClassId} {cs : List Int32} {cd N2 : Int32} {vs : List Value} (E : RoadKit.Exa Z h x ST) (V : RoadKit.Fld Z h x ST "value" "[B" (.ref t)) (C : RoadKit.Fld Z h x ST "coder" "B" (.int cd)) (K : RoadKit.Arv Z h t kb .byte N2 vs (.int 0)) (hc : CodA cs cd N2 vs) (hb : ∀ c ∈ cs, ¬ c < 0 ∧ ¬ (65535 : Int32) < c) (l2 : cs.length ≤ 4000)
    {y t' : Addr} {kb' : ClassId} {ds : List Int32} {cd' N2' : Int32} {vs' : List Value} (E' : RoadKit.Exa Z h y ST) (V' : RoadKit.Fld Z h y ST "value" "[B" (.ref t')) (C' : RoadKit.Fld Z h y ST "coder" "B" (.int cd')) (K' : RoadKit.Arv Z h t' kb' .byte N2' vs' (.int 0)) (hc' : CodA ds cd' N2' vs') (hb' : ∀ c ∈ ds, ¬ c < 0 ∧ ¬ (65535 : Int32) < c) (l2' : ds.length ≤ 4000)
    {z : Int32} (S : RoadKit.Sta Z h ST "COMPACT_STRINGS" "Z" (.int z)) (hz : ¬ z = 0) (hfr : 2 ≤ R.frames) (hlo : W + 28 ≤ R.locals) :
    Back l R p e below s args (⟨"java/lang/String", "equals", "(Ljava/lang/Object;)Z"⟩ : MethodName) len W (fun P a => a = #[.ref x, .ref y] ∧ P.U.heap = h ∧ P.cells + 0 ≤ R.cells ∧ P.slots + 0 ≤ R.slots)
      (fun P _ v B => ∃ L, (((v = some (.int 1) ∧ cs = ds) ∨ (v = some (.int 0) ∧ ¬ cs = ds)) ∧ L = [] ∧ B.U.heap = h) ∧ B.locs = P.locs ++ L ∧ B.cells = P.cells + 0 ∧ B.slots = P.slots + 0) := by
  intro m meth c P g ig mk a X hg hsize hdg hW hn hp'
  obtain ⟨rfl, rfl, r1, r2⟩ := hp'
  have al : Z.vm.Alike P.U.vm := hZ.alike.trans X.warmed.alike
  obtain ⟨A, hx⟩ := txt_of wi al E V C K hc hb l2
  obtain ⟨A', hy⟩ := txt_of wi al E' V' C' K' hc' hb' l2'
  obtain ⟨v, B, X', ⟨⟨w, hv, hh, hq⟩, hl, hk, hs⟩, st⟩ := SEq.pays x t A cd cs.length (fun j => cs.getD j 0) y t' A' cd' ds.length (fun j => ds.getD j 0) z (tabEq_of (movedEq hZ hw)) hfr hlo m meth c P g ig mk _ X hg hsize hdg hW hn ⟨r1, r2, rfl, hx, hy, sta_is al S, hz⟩
  refine ⟨v, B, X', ⟨[], ⟨?_, rfl, hh⟩, hl, hk, hs⟩, st⟩
  rcases hq with ⟨rfl, q⟩ | ⟨rfl, q⟩
  · exact Or.inl ⟨hv, (same_list cs ds).mp q⟩
  · exact Or.inr ⟨hv, fun e => q ((same_list cs ds).mpr e)⟩
end StrChars.Road
namespace StrChars
open Jvm Sem ClassFile Op Lib Jvm.Stand Jvm.Free.XT Jvm.Free.ALB Jvm.Free.JM Jvm.Free
open Jvm.Lib.Cold (StaticIs)
namespace ChN
def yN : MethodName := ⟨"java/lang/String", "charAt", "(I)C"⟩
abbrev yB : ByteArray := jdk_42_method_56_code
theorem d0 : decode yB 0 = .ok (.aload_n 0, 1) := by decide +kernel
theorem d1 : decode yB 1 = .ok (.invokevirtual 492, 3) := by decide +kernel
theorem d4 : decode yB 4 = .ok (.ifCond (.eq) 12, 3) := by decide +kernel
theorem d7 : decode yB 7 = .ok (.aload_n 0, 1) := by decide +kernel
theorem d8 : decode yB 8 = .ok (.getfield 9, 3) := by decide +kernel
theorem d11 : decode yB 11 = .ok (.iload_n 1, 1) := by decide +kernel
theorem d12 : decode yB 12 = .ok (.invokestatic 495, 3) := by decide +kernel
theorem d15 : decode yB 15 = .ok (.ireturn, 1) := by decide +kernel
def site : List Cond := [.fieldLink "java/lang/String" 9 "java/lang/String" "value" "[B", IsL.tab, LChA.tab] ++ virtW "java/lang/String" 492 "java/lang/String" IsL.yN IsL.yN ++ staticW "java/lang/String" 495 LChA.yN
def tab : Cond := tabOf yN yB 2 (some .char) site
def P (x t : Addr) (V : Cell) (n : Nat) (f : Nat → Int32) (z : Int32) (fm : Value) (i : Nat) (args : Array Value) (s : State) : Prop := args = #[.ref x, .int (Int32.ofNat i)] ∧ Txt x t V 0 n f s ∧ i < n ∧ StaticIs s "java/lang/String" "COMPACT_STRINGS" "Z" (.int z) ∧ ¬ z = 0 ∧ StaticIs s "jdk/internal/util/Preconditions" "SIOOBE_FORMATTER" "Ljava/util/function/BiFunction;" fm ∧ fm.isRef = true
def E (f : Nat → Int32) (i : Nat) (r : Option Value) (s u : State) : Prop := XT.PureE (some (.int (f i))) r s u
/-- charAt(i) of a Latin-1 String of n chars, i < n: f i -/
theorem law (l : Launch) (x t : Addr) (V : Cell) (n : Nat) (f : Nat → Int32) (z : Int32) (fm : Value) (i : Nat) : Law l yN 2 1 3 40 yB 2 (some .char) site (P x t V n f z fm i) (E f i) [] 0 0 := by
  refine Law.of_walk (plainFor_of_name (by decide +kernel)) (by decide +kernel) (by decide +kernel) (by decide) (fun _ _ h => by rw [h.1]; rfl) (fun _ U U' hal hh h => ⟨h.1, h.2.1.mv hal hh, h.2.2.1, h.2.2.2.1.there hal hh, h.2.2.2.2.1, h.2.2.2.2.2.1.there hal hh, h.2.2.2.2.2.2⟩) (fun r U U' V V' h1 hal h2 h => XT.PureE.mv r U U' V V' h1 hal h2 h) ?_
  intro p e s m args below meth c s₁ X0 hexec hbytes hml hret hlk hnm hown hh0 W hP
  obtain ⟨rfl, hx, hi, s1, hz, s3, rf⟩ := hP
  have v31 := hx.2.2.2.1.2.2.2
  have hr := hx.2.2.2.2.2 i hi
  have hx0 := hx.mv X0.warmed.alike hh0
  have c1 : Steps p.tables e below (s₁.setTop (entryFrame m #[.ref x, .int (Int32.ofNat i)] 2)) (s₁.setTop (mkF m 1 #[.val (.ref x), .val (.int (Int32.ofNat i))] [.ref x])) := Steps.trans (entry rfl) (by
    show Steps p.tables e below (s₁.setTop (mkF m 0 #[.val (.ref x), .val (.int (Int32.ofNat i))] [])) _
    refine XS.aloadN X0.here hexec rfl (hb hbytes d0) rfl rfl ?_
    exact Steps.refl _)
  obtain ⟨v2, T2, X2, E2, g2⟩ := X0.callV hexec (IsL.law l x 0 z) hown (wks W (virtW "java/lang/String" 492 "java/lang/String" IsL.yN IsL.yN)) rfl (by decide) (wk W IsL.tab) (W := 0) (Nat.le_of_ble_eq_true rfl) (Nat.le_of_ble_eq_true rfl) (Nat.le_refl _) (Nat.le_refl _) (hx0.1.fc X0.warmed.alike) hx0.1.is (g := (mkF m 1 #[.val (.ref x), .val (.int (Int32.ofNat i))] [.ref x])) rfl (by rw [hml]; rfl) c1 (argsL := []) (rest := []) rfl rfl (by show 2 * 0 + 0 ≤ _; decide) (hb hbytes d1) (⟨rfl, hx0.2.2.1, hx.2.2.2.2.1.cd, s1.there X0.warmed.alike hh0, hz⟩)
  obtain ⟨rfl, q2⟩ := E2
  have hh2 := q2.trans hh0
  have hx2 := hx.mv X2.warmed.alike hh2
  obtain ⟨-, k1, k2⟩ | ⟨k0, -⟩ := hx.2.2.2.2.1
  · have c3 : Steps p.tables e below (s₁.setTop (entryFrame m #[.ref x, .int (Int32.ofNat i)] 2)) (T2.setTop (mkF m 8 #[.val (.ref x), .val (.int (Int32.ofNat i))] [.ref x])) := Steps.trans g2 (by
      refine XS.ifNo X2.here hexec rfl (hb hbytes d4) rfl (i0_eq_f (by decide)) ?_
      refine XS.aloadN X2.here hexec rfl (hb hbytes d7) rfl rfl ?_
      exact Steps.refl _)
    obtain ⟨T4, X4, q4, st4⟩ := X2.hget hexec hown (wk W (.fieldLink "java/lang/String" 9 "java/lang/String" "value" "[B")) hx2.2.1 (g := (mkF m 8 #[.val (.ref x), .val (.int (Int32.ofNat i))] [.ref x])) rfl (rest := []) rfl (hb hbytes d8)
    have hh4 := q4.trans hh2
    have c5 : Steps p.tables e below (s₁.setTop (entryFrame m #[.ref x, .int (Int32.ofNat i)] 2)) (T4.setTop (mkF m 12 #[.val (.ref x), .val (.int (Int32.ofNat i))] [.int (Int32.ofNat i), .ref t])) := (c3.trans (st4 _ (Steps.refl _))).trans (by
      refine XS.iloadN X4.here hexec rfl (hb hbytes d11) rfl ?_
      exact Steps.refl _)
    obtain ⟨v6, T6, X6, E6, g6⟩ := X4.callS hexec (LChA.law l t V i (lo8 (f i)) fm) hown (wks W (staticW "java/lang/String" 495 LChA.yN)) (wk W LChA.tab) (W := 0) (Nat.le_of_ble_eq_true rfl) (Nat.le_of_ble_eq_true rfl) (Nat.le_refl _) (Nat.le_refl _) (g := (mkF m 12 #[.val (.ref x), .val (.int (Int32.ofNat i))] [.int (Int32.ofNat i), .ref t])) rfl (by rw [hml]; rfl) c5 (argsL := [.ref t, .int (Int32.ofNat i)]) (rest := []) rfl rfl (by show 2 * 0 + 0 ≤ _; decide) (hb hbytes d12) (⟨rfl, hx.2.2.2.1.mv X4.warmed.alike hh4, (k2 i hi).1, s3.there X4.warmed.alike hh4, rf⟩)
    obtain ⟨rfl, q6⟩ := E6
    rw [chr8_lo8 hr.1 (k2 i hi).2] at g6
    exact ⟨T6, some (.int (f i)), _, _, _, X6, rfl, rfl, rfl, (fun h => by cases h), ⟨rfl, q6.trans hh4⟩, fun fs hl => Steps.trans g6 (X6.ireturnOut hexec hret (narrow_ch hr.1 hr.2) (Or.inr (Or.inr (Or.inr (Or.inl rfl)))) (hb hbytes d15) hl)⟩
  · exact absurd k0 (by decide)
theorem pays {l : Launch} {R : Room} {p : Program} {e : Env} {below : List Frame} {s : State} {sargs : Array Value} {len W : Nat} (x t : Addr) (V : Cell) (n : Nat) (f : Nat → Int32) (z : Int32) (fm : Value) (i : Nat) (htab : tab.before sargs s = true) (hfr : 4 ≤ R.frames) (hlo : W + 53 ≤ R.locals) :
    Back l R p e below s sargs yN len W (fun A₁ a₁ => A₁.cells + 0 ≤ R.cells ∧ A₁.slots + 0 ≤ R.slots ∧ P x t V n f z fm i a₁ A₁.U) (fun A₁ _ v₁ B₁ => E f i v₁ A₁.U B₁.U ∧ B₁.locs = A₁.locs ++ [] ∧ B₁.cells = A₁.cells + 0 ∧ B₁.slots = A₁.slots + 0) :=
  (law l x t V n f z fm i).pays htab hfr (by omega)
end ChN
end StrChars
namespace StrChars.Road
open Jvm Sem ClassFile Op Lib Jvm.Stand Jvm.Free Jvm.Free.XT
open Jvm.Lib.Cold (StaticIs)
/-- the words of String.charAt(int), the Latin-1 road alone -/
abbrev wordsChN : List Jvm.Cond := [.code ChN.yN ChN.yB 2 (some .char), .initialized ST, .fieldLink ST 9 ST "value" "[B", .fieldLink ST 38 ST "COMPACT_STRINGS" "Z", .fieldLink ST 15 ST "coder" "B", .code IsL.yN IsL.yB 1 (some .boolean), .methodLink ST 492 IsL.yN, .declares IsL.yN, .selects ST IsL.yN IsL.yN, .instanceMethod IsL.yN,
  .methodLink ST 495 LChA.yN, .static LChA.yN, .code LChA.yN LChA.yB 2 (some .char), .initialized "java/lang/StringLatin1", .methodLink "java/lang/StringLatin1" 9 JO.Str_checkIndex.yN, .static JO.Str_checkIndex.yN, .code JO.Str_checkIndex.yN JO.Str_checkIndex.yB 2 none,
  .fieldLink ST 1053 "jdk/internal/util/Preconditions" "SIOOBE_FORMATTER" "Ljava/util/function/BiFunction;", .methodLink ST 1059 JC.PreCheck.yN, .static JC.PreCheck.yN, .code JC.PreCheck.yN JC.PreCheck.yB 3 (some .int), .initialized "jdk/internal/util/Preconditions"]
theorem tabChN_of {a : Array Value} {s : State} (h : ∀ w ∈ wordsChN, w.before a s = true) : ChN.tab.before a s = true := by
  have hp : JC.PreCheck.tab.before a s = true := unparts (wk h (.code JC.PreCheck.yN JC.PreCheck.yB 3 (some .int))) (wks h (.initialized JC.PreCheck.yN.cls :: JC.PreCheck.site))
  have qk := consq hp h
  have hk : JO.Str_checkIndex.tab.before a s = true := unparts (wk qk (.code JO.Str_checkIndex.yN JO.Str_checkIndex.yB 2 none)) (wks qk (.initialized JO.Str_checkIndex.yN.cls :: JO.Str_checkIndex.site))
  have ql := consq hk h
  have hl : LChA.tab.before a s = true := unparts (wk ql (.code LChA.yN LChA.yB 2 (some .char))) (wks ql (.initialized LChA.yN.cls :: LChA.site))
  have hi : IsL.tab.before a s = true := unparts (wk h (.code IsL.yN IsL.yB 1 (some .boolean))) (wks h (.initialized IsL.yN.cls :: IsL.site))
  have q := consq hi (consq hl h)
  exact unparts (wk q (.code ChN.yN ChN.yB 2 (some .char))) (wks q (.initialized ChN.yN.cls :: ChN.site))
theorem movedChN {Z s : State} {a0 args : Array Value} (hZ : Z.Warmed39 s.vm) (hw : ∀ d ∈ wordsChN, d.before a0 Z = true) : ∀ d ∈ wordsChN, d.before args s = true := fun d hd => by
  have t : ∀ d ∈ wordsChN, (d.onTables && d.keepsFace) = true := by decide +kernel
  exact RoadKit.mv hZ (hw d hd) (t d hd)
/-- **charAt(i) OF A LATIN-1 STRING**, i < n: the char -/
theorem chN {p : Program} {l : Launch} {e : Env} {R : Room} {s : State} {args : Array Value} {below : List Frame} {len W : Nat} {Z : State} {a0 : Array Value} {h : Heap} (hZ : Z.Warmed39 s.vm) (hw : ∀ d ∈ wordsChN, d.before a0 Z = true) {kI : Nat} (wi : (Jvm.Cond.instantiable ST kI).before a0 Z = true)
    {x t : Addr} {kb : ClassId} {cs : List Int32} {N2 z : Int32} {vs : List Value} {fm : Value} {i : Nat} {j : Int32} (E : RoadKit.Exa Z h x ST) (V : RoadKit.Fld Z h x ST "value" "[B" (.ref t)) (C : RoadKit.Fld Z h x ST "coder" "B" (.int 0)) (K : RoadKit.Arv Z h t kb .byte N2 vs (.int 0)) (hc : CodA cs 0 N2 vs) (hb : ∀ c ∈ cs, ¬ c < 0 ∧ ¬ (65535 : Int32) < c)
    (S : RoadKit.Sta Z h ST "COMPACT_STRINGS" "Z" (.int z)) (hz : ¬ z = 0) (F : RoadKit.Sta Z h "jdk/internal/util/Preconditions" "SIOOBE_FORMATTER" "Ljava/util/function/BiFunction;" fm) (rf : fm.isRef = true) (l2 : cs.length ≤ 4000) (hi : i < cs.length) (hj : j = Int32.ofNat i) (hfr : 4 ≤ R.frames) (hlo : W + 53 ≤ R.locals) :
    Back l R p e below s args (⟨"java/lang/String", "charAt", "(I)C"⟩ : MethodName) len W (fun P a => a = #[.ref x, .int j] ∧ P.U.heap = h ∧ P.cells + 0 ≤ R.cells ∧ P.slots + 0 ≤ R.slots)
      (fun P _ v B => ∃ L, (v = some (.int (cs.getD i 0)) ∧ L = [] ∧ B.U.heap = h) ∧ B.locs = P.locs ++ L ∧ B.cells = P.cells + 0 ∧ B.slots = P.slots + 0) := by
  subst hj
  intro m meth c P g ig mk a X hg hsize hdg hW hn hp'
  obtain ⟨rfl, rfl, r1, r2⟩ := hp'
  have al : Z.vm.Alike P.U.vm := hZ.alike.trans X.warmed.alike
  obtain ⟨A, hx⟩ := txt_of wi al E V C K hc hb l2
  obtain ⟨v, B, X', ⟨⟨hv, hh⟩, hl, hk, hs⟩, st⟩ := ChN.pays x t A cs.length (fun j => cs.getD j 0) z fm i (tabChN_of (movedChN hZ hw)) hfr hlo m meth c P g ig mk _ X hg hsize hdg hW hn ⟨r1, r2, rfl, hx, hi, sta_is al S, hz, sta_is al F, rf⟩
  exact ⟨v, B, X', ⟨[], ⟨hv, rfl, hh⟩, hl, hk, hs⟩, st⟩
/-- what backV says of its String, as the contracts of this text ask it: cs's low bytes, coder 0 -/
theorem codOf {cs : List Int32} {n : Nat} (hn : cs.length = n) (hb : ∀ c ∈ cs, ¬ 255 < c) : CodA cs 0 (Int32.ofNat n) ((cs.map lo8).map Value.int) := Or.inl ⟨rfl, by rw [hn], by simp [List.map_map, Function.comp_def], hb⟩
end StrChars.Road
end Jvm.Pilot.@@N@@
namespace Jvm.Pilot.@@N@@
open Jvm Jvm.ClassFile Sem Op Lib Jvm.Free Jvm.Stand Jvm.LawKit Jvm.RoadKit Bundle Jvm.Pilot.@@N@@.Jvm.D
section OwnKit
variable {p : Program} {l : Launch} {e : Env} {R : Room} {s : State} {m : MethodId} {args : Array Value} {below : List Frame} {meth : Method} {c : Code} {T : State} {locs : List Loc} {cells slots : Nat} {C N : Nat} {F : Outcome → State → List Loc → Prop} {Q : Option Value → Heap → List Loc → Prop} {pc : Nat} {Ls : Array Slot} {S : List Value} {Z : State} {a0 : Array Value} {h : Heap} {own : String}
def Go (p : Program) (e : Env) (below : List Frame) (F : Outcome → State → List Loc → Prop) (Q : Option Value → Heap → List Loc → Prop) (T : State) (g : JFrame) : Prop :=
  ∃ s₂ o, Steps p.tables e below (T.setTop g) s₂ ∧ s₂.status = .running ∧ Ended s₂ below o ∧ ∃ v L, o = .returned v ∧ Q v s₂.heap L ∧ F o s₂ L
def FE (s : State) (C N : Nat) (o : Outcome) (t : State) (L : List Loc) : Prop := FrameEnd s o t L C N
theorem Go.st {T' : State} {g g' : JFrame} (h : Go p e below F Q T' g') (st : ∀ t, Steps p.tables e below (T'.setTop g') t → Steps p.tables e below (T.setTop g) t) : Go p e below F Q T g := by
  obtain ⟨s₂, o, h1, h2⟩ := h
  exact ⟨s₂, o, st _ h1, h2⟩
theorem Go.tr {T' : State} {g g' : JFrame} (h : Go p e below F Q T' g') (st : Steps p.tables e below (T.setTop g) (T'.setTop g')) : Go p e below F Q T g := by
  obtain ⟨s₂, o, h1, h2⟩ := h
  exact ⟨s₂, o, st.trans h1, h2⟩
/-- a body's contract out of its walk -/
theorem metOf {y : MethodName} {bytes : ByteArray} {maxL : Nat} {ret : Option FieldType} {rm : Room} {ws : List Jvm.Cond} {as' : Array Value} {h0 : Heap} (hpl : plainFor y = true)
    (body : ∀ p e s m below meth c s₁, Stand p l e rm s m as' below meth c s₁ [] 0 0 → p.tables.exec = Jvm.exec → c.code = bytes → c.maxLocals = maxL → meth.sig.returnType = ret → meth.locks = false → Z.Warmed39 s.vm → s.vm.findClass y.cls = some m.cls → meth.name = y.name → s₁.heap = h0 → Go p e below (FE s rm.cells rm.slots) Q s₁ (entryFrame m as' maxL)) :
    MetFree l y (head1 (Jvm.Cond.code y bytes maxL ret :: ws) rm) (fun a U => a = as' ∧ Z.Warmed39 U.vm ∧ U.heap = h0) (fun _ _ _ _ _ => True) (fun _ U o U' => ∃ v L, o = .returned v ∧ Q v U'.heap L ∧ FrameEnd U o U' L rm.cells rm.slots) := by
  refine MetFree.of_bodySF hpl hisR ?_
  intro p e s m args below meth c s₁ Bd hml0 hP hK
  obtain ⟨rfl, hZ, hh⟩ := hP
  exact body p e s m below meth c s₁ (Stand.of_body Bd) Bd.exec Bd.bytes hml0 Bd.returns Bd.notSynchronized hZ (findClass_of_methodNamed Bd.named) (name_of_methodNamed Bd.named Bd.method).1 (by rw [← hh, Bd.state]; rfl)
theorem Go.iloadN (X : Stand p l e R s m args below meth c T locs cells slots) (hx : p.tables.exec = Jvm.exec) {k : Fin 4} {v : Int32} (hd : decode c.code pc = .ok (.iload_n k, 1)) (hl : Ls[k.val]? = some (.val (.int v))) (h : Go p e below F Q T (mkF m (pc + 1) Ls (.int v :: S))) : Go p e below F Q T (mkF m pc Ls S) := h.st fun _ k => XS.iloadN X.here hx rfl hd hl k
theorem Go.iload (X : Stand p l e R s m args below meth c T locs cells slots) (hx : p.tables.exec = Jvm.exec) {k : Nat} {v : Int32} (hd : decode c.code pc = .ok (.iload k, 2)) (hl : Ls[k]? = some (.val (.int v))) (h : Go p e below F Q T (mkF m (pc + 2) Ls (.int v :: S))) : Go p e below F Q T (mkF m pc Ls S) := h.st fun _ k => XS.iload X.here hx rfl hd hl k
theorem Go.istoreN (X : Stand p l e R s m args below meth c T locs cells slots) (hx : p.tables.exec = Jvm.exec) {k : Fin 4} {x : Int32} {l' : Array Slot} (hd : decode c.code pc = .ok (.istore_n k, 1)) (hl : storeLocals Ls k.val (.int x) = some l') (h : Go p e below F Q T (mkF m (pc + 1) l' S)) : Go p e below F Q T (mkF m pc Ls (.int x :: S)) := h.st fun _ k => XS.istoreN X.here hx rfl hd rfl hl k
theorem Go.istore (X : Stand p l e R s m args below meth c T locs cells slots) (hx : p.tables.exec = Jvm.exec) {k : Nat} {x : Int32} {l' : Array Slot} (hd : decode c.code pc = .ok (.istore k, 2)) (hl : storeLocals Ls k (.int x) = some l') (h : Go p e below F Q T (mkF m (pc + 2) l' S)) : Go p e below F Q T (mkF m pc Ls (.int x :: S)) := h.st fun _ k => XS.istore X.here hx rfl hd rfl hl k
theorem Go.lloadN (X : Stand p l e R s m args below meth c T locs cells slots) (hx : p.tables.exec = Jvm.exec) {k : Fin 4} {v : Int64} (hd : decode c.code pc = .ok (.lload_n k, 1)) (hl : Ls[k.val]? = some (.val (.long v))) (h : Go p e below F Q T (mkF m (pc + 1) Ls (.long v :: S))) : Go p e below F Q T (mkF m pc Ls S) := h.st fun _ k => XS.lloadN X.here hx rfl hd hl k
theorem Go.lload (X : Stand p l e R s m args below meth c T locs cells slots) (hx : p.tables.exec = Jvm.exec) {k : Nat} {v : Int64} (hd : decode c.code pc = .ok (.lload k, 2)) (hl : Ls[k]? = some (.val (.long v))) (h : Go p e below F Q T (mkF m (pc + 2) Ls (.long v :: S))) : Go p e below F Q T (mkF m pc Ls S) := h.st fun _ k => XS.lload X.here hx rfl hd hl k
theorem Go.lstoreN (X : Stand p l e R s m args below meth c T locs cells slots) (hx : p.tables.exec = Jvm.exec) {k : Fin 4} {x : Int64} {l' : Array Slot} (hd : decode c.code pc = .ok (.lstore_n k, 1)) (hl : storeLocals Ls k.val (.long x) = some l') (h : Go p e below F Q T (mkF m (pc + 1) l' S)) : Go p e below F Q T (mkF m pc Ls (.long x :: S)) := h.st fun _ k => XS.lstoreN X.here hx rfl hd rfl hl k
theorem Go.lstore (X : Stand p l e R s m args below meth c T locs cells slots) (hx : p.tables.exec = Jvm.exec) {k : Nat} {x : Int64} {l' : Array Slot} (hd : decode c.code pc = .ok (.lstore k, 2)) (hl : storeLocals Ls k (.long x) = some l') (h : Go p e below F Q T (mkF m (pc + 2) l' S)) : Go p e below F Q T (mkF m pc Ls (.long x :: S)) := h.st fun _ k => XS.lstore X.here hx rfl hd rfl hl k
theorem Go.aloadN (X : Stand p l e R s m args below meth c T locs cells slots) (hx : p.tables.exec = Jvm.exec) {k : Fin 4} {v : Value} (hd : decode c.code pc = .ok (.aload_n k, 1)) (hl : Ls[k.val]? = some (.val v)) (hv : v.isRef = true) (h : Go p e below F Q T (mkF m (pc + 1) Ls (v :: S))) : Go p e below F Q T (mkF m pc Ls S) := h.st fun _ k => XS.aloadN X.here hx rfl hd hl hv k
theorem Go.aload (X : Stand p l e R s m args below meth c T locs cells slots) (hx : p.tables.exec = Jvm.exec) {k : Nat} {v : Value} (hd : decode c.code pc = .ok (.aload k, 2)) (hl : Ls[k]? = some (.val v)) (hv : v.isRef = true) (h : Go p e below F Q T (mkF m (pc + 2) Ls (v :: S))) : Go p e below F Q T (mkF m pc Ls S) := h.st fun _ k => XS.aload X.here hx rfl hd hl hv k
theorem Go.astoreN (X : Stand p l e R s m args below meth c T locs cells slots) (hx : p.tables.exec = Jvm.exec) {k : Fin 4} {x : Value} {l' : Array Slot} (hd : decode c.code pc = .ok (.astore_n k, 1)) (hv : x.isRef = true) (hl : storeLocals Ls k.val x = some l') (h : Go p e below F Q T (mkF m (pc + 1) l' S)) : Go p e below F Q T (mkF m pc Ls (x :: S)) := h.st fun _ k => XS.astoreN X.here hx rfl hd rfl hv hl k
theorem Go.astore (X : Stand p l e R s m args below meth c T locs cells slots) (hx : p.tables.exec = Jvm.exec) {k : Nat} {x : Value} {l' : Array Slot} (hd : decode c.code pc = .ok (.astore k, 2)) (hv : x.isRef = true) (hl : storeLocals Ls k x = some l') (h : Go p e below F Q T (mkF m (pc + 2) l' S)) : Go p e below F Q T (mkF m pc Ls (x :: S)) := h.st fun _ k => XS.astore X.here hx rfl hd rfl hv hl k
theorem Go.iconst (X : Stand p l e R s m args below meth c T locs cells slots) (hx : p.tables.exec = Jvm.exec) {i : Int} (v : Int32) (hd : decode c.code pc = .ok (.iconst i, 1)) (hv : Int32.ofInt i = v) (h : Go p e below F Q T (mkF m (pc + 1) Ls (.int v :: S))) : Go p e below F Q T (mkF m pc Ls S) := h.st fun _ k => XT.iconstV X.here hx rfl v hd hv k
theorem Go.bipush (X : Stand p l e R s m args below meth c T locs cells slots) (hx : p.tables.exec = Jvm.exec) {i : Int} (v : Int32) (hd : decode c.code pc = .ok (.bipush i, 2)) (hv : (Int8.ofInt i).toInt32 = v) (h : Go p e below F Q T (mkF m (pc + 2) Ls (.int v :: S))) : Go p e below F Q T (mkF m pc Ls S) := h.st fun _ k => XT.bipushV X.here hx rfl v hd hv k
theorem Go.sipush (X : Stand p l e R s m args below meth c T locs cells slots) (hx : p.tables.exec = Jvm.exec) {i : Int} (v : Int32) (hd : decode c.code pc = .ok (.sipush i, 3)) (hv : (Int16.ofInt i).toInt32 = v) (h : Go p e below F Q T (mkF m (pc + 3) Ls (.int v :: S))) : Go p e below F Q T (mkF m pc Ls S) := h.st fun _ k => XT.sipushV X.here hx rfl v hd hv k
theorem Go.lconst (X : Stand p l e R s m args below meth c T locs cells slots) (hx : p.tables.exec = Jvm.exec) {i : Fin 2} (v : Int64) (hd : decode c.code pc = .ok (.lconst i, 1)) (hv : Int64.ofNat i = v) (h : Go p e below F Q T (mkF m (pc + 1) Ls (.long v :: S))) : Go p e below F Q T (mkF m pc Ls S) := h.st fun _ k => XT.lconstV X.here hx rfl v hd hv k
theorem Go.aconstNull (X : Stand p l e R s m args below meth c T locs cells slots) (hx : p.tables.exec = Jvm.exec)  (hd : decode c.code pc = .ok (.aconst_null, 1))  (h : Go p e below F Q T (mkF m (pc + 1) Ls (.null :: S))) : Go p e below F Q T (mkF m pc Ls S) := h.st fun _ k => XS.aconstNull X.here hx rfl hd  k
theorem Go.iadd (X : Stand p l e R s m args below meth c T locs cells slots) (hx : p.tables.exec = Jvm.exec) {x y : Int32} (hd : decode c.code pc = .ok (.iadd, 1))  (h : Go p e below F Q T (mkF m (pc + 1) Ls (.int (x + y) :: S))) : Go p e below F Q T (mkF m pc Ls (.int y :: .int x :: S)) := h.st fun _ k => XS.iadd X.here hx rfl hd rfl k
theorem Go.isub (X : Stand p l e R s m args below meth c T locs cells slots) (hx : p.tables.exec = Jvm.exec) {x y : Int32} (hd : decode c.code pc = .ok (.isub, 1))  (h : Go p e below F Q T (mkF m (pc + 1) Ls (.int (x - y) :: S))) : Go p e below F Q T (mkF m pc Ls (.int y :: .int x :: S)) := h.st fun _ k => XS.isub X.here hx rfl hd rfl k
theorem Go.imul (X : Stand p l e R s m args below meth c T locs cells slots) (hx : p.tables.exec = Jvm.exec) {x y : Int32} (hd : decode c.code pc = .ok (.imul, 1))  (h : Go p e below F Q T (mkF m (pc + 1) Ls (.int (x * y) :: S))) : Go p e below F Q T (mkF m pc Ls (.int y :: .int x :: S)) := h.st fun _ k => XS.imul X.here hx rfl hd rfl k
theorem Go.iand (X : Stand p l e R s m args below meth c T locs cells slots) (hx : p.tables.exec = Jvm.exec) {x y : Int32} (hd : decode c.code pc = .ok (.iand, 1))  (h : Go p e below F Q T (mkF m (pc + 1) Ls (.int (x &&& y) :: S))) : Go p e below F Q T (mkF m pc Ls (.int y :: .int x :: S)) := h.st fun _ k => XS.iand X.here hx rfl hd rfl k
theorem Go.ior (X : Stand p l e R s m args below meth c T locs cells slots) (hx : p.tables.exec = Jvm.exec) {x y : Int32} (hd : decode c.code pc = .ok (.ior, 1))  (h : Go p e below F Q T (mkF m (pc + 1) Ls (.int (x ||| y) :: S))) : Go p e below F Q T (mkF m pc Ls (.int y :: .int x :: S)) := h.st fun _ k => XS.ior X.here hx rfl hd rfl k
theorem Go.ixor (X : Stand p l e R s m args below meth c T locs cells slots) (hx : p.tables.exec = Jvm.exec) {x y : Int32} (hd : decode c.code pc = .ok (.ixor, 1))  (h : Go p e below F Q T (mkF m (pc + 1) Ls (.int (x ^^^ y) :: S))) : Go p e below F Q T (mkF m pc Ls (.int y :: .int x :: S)) := h.st fun _ k => XS.ixor X.here hx rfl hd rfl k
theorem Go.idiv (X : Stand p l e R s m args below meth c T locs cells slots) (hx : p.tables.exec = Jvm.exec) {x y : Int32} (hd : decode c.code pc = .ok (.idiv, 1)) (hy : y ≠ 0) (h : Go p e below F Q T (mkF m (pc + 1) Ls (.int (x / y) :: S))) : Go p e below F Q T (mkF m pc Ls (.int y :: .int x :: S)) := h.st fun _ k => XS.idiv X.here hx rfl hd rfl hy k
theorem Go.ineg (X : Stand p l e R s m args below meth c T locs cells slots) (hx : p.tables.exec = Jvm.exec) {x : Int32} (hd : decode c.code pc = .ok (.ineg, 1))  (h : Go p e below F Q T (mkF m (pc + 1) Ls (.int (-x) :: S))) : Go p e below F Q T (mkF m pc Ls (.int x :: S)) := h.st fun _ k => XS.ineg X.here hx rfl hd rfl k
theorem Go.ladd (X : Stand p l e R s m args below meth c T locs cells slots) (hx : p.tables.exec = Jvm.exec) {x y : Int64} (hd : decode c.code pc = .ok (.ladd, 1))  (h : Go p e below F Q T (mkF m (pc + 1) Ls (.long (x + y) :: S))) : Go p e below F Q T (mkF m pc Ls (.long y :: .long x :: S)) := h.st fun _ k => XS.ladd X.here hx rfl hd rfl k
theorem Go.lsub (X : Stand p l e R s m args below meth c T locs cells slots) (hx : p.tables.exec = Jvm.exec) {x y : Int64} (hd : decode c.code pc = .ok (.lsub, 1))  (h : Go p e below F Q T (mkF m (pc + 1) Ls (.long (x - y) :: S))) : Go p e below F Q T (mkF m pc Ls (.long y :: .long x :: S)) := h.st fun _ k => XS.lsub X.here hx rfl hd rfl k
theorem Go.lmul (X : Stand p l e R s m args below meth c T locs cells slots) (hx : p.tables.exec = Jvm.exec) {x y : Int64} (hd : decode c.code pc = .ok (.lmul, 1))  (h : Go p e below F Q T (mkF m (pc + 1) Ls (.long (x * y) :: S))) : Go p e below F Q T (mkF m pc Ls (.long y :: .long x :: S)) := h.st fun _ k => XS.lmul X.here hx rfl hd rfl k
theorem Go.land (X : Stand p l e R s m args below meth c T locs cells slots) (hx : p.tables.exec = Jvm.exec) {x y : Int64} (hd : decode c.code pc = .ok (.land, 1))  (h : Go p e below F Q T (mkF m (pc + 1) Ls (.long (x &&& y) :: S))) : Go p e below F Q T (mkF m pc Ls (.long y :: .long x :: S)) := h.st fun _ k => XS.land X.here hx rfl hd rfl k
theorem Go.lor (X : Stand p l e R s m args below meth c T locs cells slots) (hx : p.tables.exec = Jvm.exec) {x y : Int64} (hd : decode c.code pc = .ok (.lor, 1))  (h : Go p e below F Q T (mkF m (pc + 1) Ls (.long (x ||| y) :: S))) : Go p e below F Q T (mkF m pc Ls (.long y :: .long x :: S)) := h.st fun _ k => XS.lor X.here hx rfl hd rfl k
theorem Go.lxor (X : Stand p l e R s m args below meth c T locs cells slots) (hx : p.tables.exec = Jvm.exec) {x y : Int64} (hd : decode c.code pc = .ok (.lxor, 1))  (h : Go p e below F Q T (mkF m (pc + 1) Ls (.long (x ^^^ y) :: S))) : Go p e below F Q T (mkF m pc Ls (.long y :: .long x :: S)) := h.st fun _ k => XS.lxor X.here hx rfl hd rfl k
theorem Go.ldiv (X : Stand p l e R s m args below meth c T locs cells slots) (hx : p.tables.exec = Jvm.exec) {x y : Int64} (hd : decode c.code pc = .ok (.ldiv, 1)) (hy : y ≠ 0) (h : Go p e below F Q T (mkF m (pc + 1) Ls (.long (x / y) :: S))) : Go p e below F Q T (mkF m pc Ls (.long y :: .long x :: S)) := h.st fun _ k => XS.ldiv X.here hx rfl hd rfl hy k
theorem Go.lneg (X : Stand p l e R s m args below meth c T locs cells slots) (hx : p.tables.exec = Jvm.exec) {x : Int64} (hd : decode c.code pc = .ok (.lneg, 1))  (h : Go p e below F Q T (mkF m (pc + 1) Ls (.long (-x) :: S))) : Go p e below F Q T (mkF m pc Ls (.long x :: S)) := h.st fun _ k => XS.lneg X.here hx rfl hd rfl k
theorem Go.irem (X : Stand p l e R s m args below meth c T locs cells slots) (hx : p.tables.exec = Jvm.exec) {x y : Int32} (hd : decode c.code pc = .ok (.irem, 1)) (hy : y ≠ 0) (h : Go p e below F Q T (mkF m (pc + 1) Ls (.int (x % y) :: S))) : Go p e below F Q T (mkF m pc Ls (.int y :: .int x :: S)) := h.st fun _ k => Jvm.RoadKit.iremM X hx rfl hd rfl hy k
theorem Go.lrem (X : Stand p l e R s m args below meth c T locs cells slots) (hx : p.tables.exec = Jvm.exec) {x y : Int64} (hd : decode c.code pc = .ok (.lrem, 1)) (hy : y ≠ 0) (h : Go p e below F Q T (mkF m (pc + 1) Ls (.long (x % y) :: S))) : Go p e below F Q T (mkF m pc Ls (.long y :: .long x :: S)) := h.st fun _ k => XS.lrem X.here hx rfl hd rfl hy (by rw [lrem_mod]; exact k)
theorem Go.ishl (X : Stand p l e R s m args below meth c T locs cells slots) (hx : p.tables.exec = Jvm.exec) {x : Int32} {y : Int32} (hd : decode c.code pc = .ok (.ishl, 1))  (h : Go p e below F Q T (mkF m (pc + 1) Ls (.int (x <<< (y &&& 31)) :: S))) : Go p e below F Q T (mkF m pc Ls (.int y :: .int x :: S)) := h.st fun _ k => XS.ishl X.here hx rfl hd rfl k
theorem Go.ishr (X : Stand p l e R s m args below meth c T locs cells slots) (hx : p.tables.exec = Jvm.exec) {x : Int32} {y : Int32} (hd : decode c.code pc = .ok (.ishr, 1))  (h : Go p e below F Q T (mkF m (pc + 1) Ls (.int (x >>> (y &&& 31)) :: S))) : Go p e below F Q T (mkF m pc Ls (.int y :: .int x :: S)) := h.st fun _ k => XS.ishr X.here hx rfl hd rfl k
theorem Go.iushr (X : Stand p l e R s m args below meth c T locs cells slots) (hx : p.tables.exec = Jvm.exec) {x : Int32} {y : Int32} (hd : decode c.code pc = .ok (.iushr, 1))  (h : Go p e below F Q T (mkF m (pc + 1) Ls (.int ((x.toUInt32 >>> (y &&& 31).toUInt32).toInt32) :: S))) : Go p e below F Q T (mkF m pc Ls (.int y :: .int x :: S)) := h.st fun _ k => XS.iushr X.here hx rfl hd rfl k
theorem Go.lshl (X : Stand p l e R s m args below meth c T locs cells slots) (hx : p.tables.exec = Jvm.exec) {x : Int64} {y : Int32} (hd : decode c.code pc = .ok (.lshl, 1))  (h : Go p e below F Q T (mkF m (pc + 1) Ls (.long (x <<< (y &&& 0x3f).toInt64) :: S))) : Go p e below F Q T (mkF m pc Ls (.int y :: .long x :: S)) := h.st fun _ k => XS.lshl X.here hx rfl hd rfl k
theorem Go.lshr (X : Stand p l e R s m args below meth c T locs cells slots) (hx : p.tables.exec = Jvm.exec) {x : Int64} {y : Int32} (hd : decode c.code pc = .ok (.lshr, 1))  (h : Go p e below F Q T (mkF m (pc + 1) Ls (.long (x >>> (y &&& 0x3f).toInt64) :: S))) : Go p e below F Q T (mkF m pc Ls (.int y :: .long x :: S)) := h.st fun _ k => XS.lshr X.here hx rfl hd rfl k
theorem Go.lushr (X : Stand p l e R s m args below meth c T locs cells slots) (hx : p.tables.exec = Jvm.exec) {x : Int64} {y : Int32} (hd : decode c.code pc = .ok (.lushr, 1))  (h : Go p e below F Q T (mkF m (pc + 1) Ls (.long ((x.toUInt64 >>> (y &&& 0x3f).toInt64.toUInt64).toInt64) :: S))) : Go p e below F Q T (mkF m pc Ls (.int y :: .long x :: S)) := h.st fun _ k => XS.lushr X.here hx rfl hd rfl k
theorem Go.i2l (X : Stand p l e R s m args below meth c T locs cells slots) (hx : p.tables.exec = Jvm.exec) {x : Int32} (hd : decode c.code pc = .ok (.i2l, 1))  (h : Go p e below F Q T (mkF m (pc + 1) Ls (.long (x.toInt64) :: S))) : Go p e below F Q T (mkF m pc Ls (.int x :: S)) := h.st fun _ k => XS.i2l X.here hx rfl hd rfl k
theorem Go.l2i (X : Stand p l e R s m args below meth c T locs cells slots) (hx : p.tables.exec = Jvm.exec) {x : Int64} (hd : decode c.code pc = .ok (.l2i, 1))  (h : Go p e below F Q T (mkF m (pc + 1) Ls (.int (x.toInt32) :: S))) : Go p e below F Q T (mkF m pc Ls (.long x :: S)) := h.st fun _ k => XS.l2i X.here hx rfl hd rfl k
theorem Go.i2b (X : Stand p l e R s m args below meth c T locs cells slots) (hx : p.tables.exec = Jvm.exec) {x : Int32} (hd : decode c.code pc = .ok (.i2b, 1))  (h : Go p e below F Q T (mkF m (pc + 1) Ls (.int (x.toInt8.toInt32) :: S))) : Go p e below F Q T (mkF m pc Ls (.int x :: S)) := h.st fun _ k => XS.i2b X.here hx rfl hd rfl k
theorem Go.i2s (X : Stand p l e R s m args below meth c T locs cells slots) (hx : p.tables.exec = Jvm.exec) {x : Int32} (hd : decode c.code pc = .ok (.i2s, 1))  (h : Go p e below F Q T (mkF m (pc + 1) Ls (.int (x.toInt16.toInt32) :: S))) : Go p e below F Q T (mkF m pc Ls (.int x :: S)) := h.st fun _ k => XS.i2s X.here hx rfl hd rfl k
theorem Go.i2c (X : Stand p l e R s m args below meth c T locs cells slots) (hx : p.tables.exec = Jvm.exec) {x : Int32} (hd : decode c.code pc = .ok (.i2c, 1))  (h : Go p e below F Q T (mkF m (pc + 1) Ls (.int (x.toUInt32.toUInt16.toUInt32.toInt32) :: S))) : Go p e below F Q T (mkF m pc Ls (.int x :: S)) := h.st fun _ k => XS.i2c X.here hx rfl hd rfl k
theorem Go.lcmp (X : Stand p l e R s m args below meth c T locs cells slots) (hx : p.tables.exec = Jvm.exec) {x y : Int64} (hd : decode c.code pc = .ok (.lcmp, 1))  (h : Go p e below F Q T (mkF m (pc + 1) Ls (.int (XT.cmpL x y) :: S))) : Go p e below F Q T (mkF m pc Ls (.long y :: .long x :: S)) := h.st fun _ k => XT.lcmp X.here hx rfl hd rfl k
theorem Go.dup (X : Stand p l e R s m args below meth c T locs cells slots) (hx : p.tables.exec = Jvm.exec) {x : Value} (hd : decode c.code pc = .ok (.dup, 1)) (hc : x.category = 1) (h : Go p e below F Q T (mkF m (pc + 1) Ls (x :: x :: S))) : Go p e below F Q T (mkF m pc Ls (x :: S)) := h.st fun _ k => XS.dup X.here hx rfl hd rfl hc k
theorem Go.pop (X : Stand p l e R s m args below meth c T locs cells slots) (hx : p.tables.exec = Jvm.exec) {x : Value} (hd : decode c.code pc = .ok (.pop, 1)) (hc : x.category = 1) (h : Go p e below F Q T (mkF m (pc + 1) Ls S)) : Go p e below F Q T (mkF m pc Ls (x :: S)) := h.st fun _ k => XS.pop X.here hx rfl hd rfl hc k
theorem Go.dupX1 (X : Stand p l e R s m args below meth c T locs cells slots) (hx : p.tables.exec = Jvm.exec) {x y : Value} (hd : decode c.code pc = .ok (.dup_x1, 1)) (hc : x.category = 1) (hc' : y.category = 1) (h : Go p e below F Q T (mkF m (pc + 1) Ls (x :: y :: x :: S))) : Go p e below F Q T (mkF m pc Ls (x :: y :: S)) := h.st fun _ k => XS.dupX1 X.here hx rfl hd rfl hc hc' k
theorem Go.iinc (X : Stand p l e R s m args below meth c T locs cells slots) (hx : p.tables.exec = Jvm.exec) {k : Nat} {cst : Int} {x : Int32} {l' : Array Slot} (v : Int32) (hd : decode c.code pc = .ok (.iinc k cst, 3)) (hv : Int32.ofInt cst = v) (hl : Ls[k]? = some (.val (.int x))) (hl' : storeLocals Ls k (.int (x + v)) = some l') (h : Go p e below F Q T (mkF m (pc + 3) l' S)) : Go p e below F Q T (mkF m pc Ls S) := h.st fun _ k => XT.iincV X.here hx rfl v hd hv hl hl' k
theorem Go.iincF (X : Stand p l e R s m args below meth c T locs cells slots) (hx : p.tables.exec = Jvm.exec) {k : Nat} {cst : Int} {x : Int32} {l' : Array Slot} (v z : Int32) (hd : decode c.code pc = .ok (.iinc k cst, 3)) (hv : Int32.ofInt cst = v) (hz : x + v = z) (hl : Ls[k]? = some (.val (.int x))) (hl' : storeLocals Ls k (.int z) = some l') (h : Go p e below F Q T (mkF m (pc + 3) l' S)) : Go p e below F Q T (mkF m pc Ls S) := Go.iinc X hx v hd hv hl (hz ▸ hl') h
theorem Go.istoreS (X : Stand p l e R s m args below meth c T locs cells slots) (hx : p.tables.exec = Jvm.exec) {k : Nat} {x : Int32} {o : Slot} (hd : decode c.code pc = .ok (.istore k, 2)) (hold : Ls[k]? = some o) (ho : One o) (h : Go p e below F Q T (mkF m (pc + 2) (Ls.setIfInBounds k (.val (.int x))) S)) : Go p e below F Q T (mkF m pc Ls (.int x :: S)) := h.st fun _ q => XS.istoreS X.here hx rfl hd rfl hold ho q
theorem Go.istoreNS (X : Stand p l e R s m args below meth c T locs cells slots) (hx : p.tables.exec = Jvm.exec) {k : Fin 4} {x : Int32} {o : Slot} (hd : decode c.code pc = .ok (.istore_n k, 1)) (hold : Ls[k.val]? = some o) (ho : One o) (h : Go p e below F Q T (mkF m (pc + 1) (Ls.setIfInBounds k.val (.val (.int x))) S)) : Go p e below F Q T (mkF m pc Ls (.int x :: S)) := h.st fun _ q => XS.istoreNS X.here hx rfl hd rfl hold ho q
theorem Go.goto (X : Stand p l e R s m args below meth c T locs cells slots) (hx : p.tables.exec = Jvm.exec) {o : Int} {pc' : Nat} (hd : decode c.code pc = .ok (.goto o, 3)) (ho : 0 ≤ (pc : Int) + o) (hp : ((pc : Int) + o).toNat = pc') (h : Go p e below F Q T (mkF m pc' Ls S)) : Go p e below F Q T (mkF m pc Ls S) := h.st fun _ k => XS.goto X.here hx rfl rfl hd ho hp k
theorem Go.ifYes (X : Stand p l e R s m args below meth c T locs cells slots) (hx : p.tables.exec = Jvm.exec) {cd : ClassFile.Cond} {x : Int32} {o : Int} {pc' : Nat} (hd : decode c.code pc = .ok (.ifCond cd o, 3)) (hc : ifCond.holds cd x = true) (ho : 0 ≤ (pc : Int) + o) (hp : ((pc : Int) + o).toNat = pc') (h : Go p e below F Q T (mkF m pc' Ls S)) : Go p e below F Q T (mkF m pc Ls (.int x :: S)) := h.st fun _ k => XS.ifYes X.here hx rfl rfl hd rfl hc ho hp k
theorem Go.ifNo (X : Stand p l e R s m args below meth c T locs cells slots) (hx : p.tables.exec = Jvm.exec) {cd : ClassFile.Cond} {x : Int32} {o : Int} (hd : decode c.code pc = .ok (.ifCond cd o, 3)) (hc : ifCond.holds cd x = false) (h : Go p e below F Q T (mkF m (pc + 3) Ls S)) : Go p e below F Q T (mkF m pc Ls (.int x :: S)) := h.st fun _ k => XS.ifNo X.here hx rfl hd rfl hc k
theorem Go.icmpYes (X : Stand p l e R s m args below meth c T locs cells slots) (hx : p.tables.exec = Jvm.exec) {cd : ClassFile.Cond} {x y : Int32} {o : Int} {pc' : Nat} (hd : decode c.code pc = .ok (.if_icmp cd o, 3)) (hc : if_icmp.holds cd x y = true) (ho : 0 ≤ (pc : Int) + o) (hp : ((pc : Int) + o).toNat = pc') (h : Go p e below F Q T (mkF m pc' Ls S)) : Go p e below F Q T (mkF m pc Ls (.int y :: .int x :: S)) := h.st fun _ k => XS.icmpYes X.here hx rfl rfl hd rfl hc ho hp k
theorem Go.icmpNo (X : Stand p l e R s m args below meth c T locs cells slots) (hx : p.tables.exec = Jvm.exec) {cd : ClassFile.Cond} {x y : Int32} {o : Int} (hd : decode c.code pc = .ok (.if_icmp cd o, 3)) (hc : if_icmp.holds cd x y = false) (h : Go p e below F Q T (mkF m (pc + 3) Ls S)) : Go p e below F Q T (mkF m pc Ls (.int y :: .int x :: S)) := h.st fun _ k => XS.icmpNo X.here hx rfl hd rfl hc k
theorem Go.ifnullYes (X : Stand p l e R s m args below meth c T locs cells slots) (hx : p.tables.exec = Jvm.exec) {o : Int} {pc' : Nat} (hd : decode c.code pc = .ok (.ifnull o, 3)) (ho : 0 ≤ (pc : Int) + o) (hp : ((pc : Int) + o).toNat = pc') (h : Go p e below F Q T (mkF m pc' Ls S)) : Go p e below F Q T (mkF m pc Ls (.null :: S)) := h.st fun _ k => XS.ifnullYes X.here hx rfl rfl hd rfl ho hp k
theorem Go.ifnullNo (X : Stand p l e R s m args below meth c T locs cells slots) (hx : p.tables.exec = Jvm.exec) {o : Int} {b : Addr} (hd : decode c.code pc = .ok (.ifnull o, 3)) (h : Go p e below F Q T (mkF m (pc + 3) Ls S)) : Go p e below F Q T (mkF m pc Ls (.ref b :: S)) := h.st fun _ k => XS.ifnullNo X.here hx rfl hd rfl k
theorem Go.ifnonnullYes (X : Stand p l e R s m args below meth c T locs cells slots) (hx : p.tables.exec = Jvm.exec) {o : Int} {b : Addr} {pc' : Nat} (hd : decode c.code pc = .ok (.ifnonnull o, 3)) (ho : 0 ≤ (pc : Int) + o) (hp : ((pc : Int) + o).toNat = pc') (h : Go p e below F Q T (mkF m pc' Ls S)) : Go p e below F Q T (mkF m pc Ls (.ref b :: S)) := h.st fun _ k => XS.ifnonnullYes X.here hx rfl rfl hd rfl ho hp k
theorem Go.ifnonnullNo (X : Stand p l e R s m args below meth c T locs cells slots) (hx : p.tables.exec = Jvm.exec) {o : Int} (hd : decode c.code pc = .ok (.ifnonnull o, 3)) (h : Go p e below F Q T (mkF m (pc + 3) Ls S)) : Go p e below F Q T (mkF m pc Ls (.null :: S)) := h.st fun _ k => XS.ifnonnullNo X.here hx rfl hd rfl k
theorem Go.acmpYes (X : Stand p l e R s m args below meth c T locs cells slots) (hx : p.tables.exec = Jvm.exec) {cd : ClassFile.ACond} {x y : Value} {o : Int} {pc' : Nat} (hd : decode c.code pc = .ok (.if_acmp cd o, 3)) (hx' : x.isRef = true) (hy' : y.isRef = true) (hc : XT.acmp cd x y = true) (ho : 0 ≤ (pc : Int) + o) (hp : ((pc : Int) + o).toNat = pc') (h : Go p e below F Q T (mkF m pc' Ls S)) : Go p e below F Q T (mkF m pc Ls (y :: x :: S)) := h.st fun _ k => XT.acmpYes X.here hx rfl rfl hd rfl hx' hy' hc ho hp k
theorem Go.acmpNo (X : Stand p l e R s m args below meth c T locs cells slots) (hx : p.tables.exec = Jvm.exec) {cd : ClassFile.ACond} {x y : Value} {o : Int} (hd : decode c.code pc = .ok (.if_acmp cd o, 3)) (hx' : x.isRef = true) (hy' : y.isRef = true) (hc : XT.acmp cd x y = false) (h : Go p e below F Q T (mkF m (pc + 3) Ls S)) : Go p e below F Q T (mkF m pc Ls (y :: x :: S)) := h.st fun _ k => XT.acmpNo X.here hx rfl hd rfl hx' hy' hc k
theorem Go.ldcI (X : Stand p l e R s m args below meth c T locs cells slots) (hx : p.tables.exec = Jvm.exec) (hZ : Z.Warmed39 s.vm) {index : Nat} {v : Int32} (hown : s.vm.findClass own = some m.cls) (w : (Jvm.Cond.constant own index v).before a0 Z = true) (hd : decode c.code pc = .ok (.ldc index, 2)) (h : Go p e below F Q T (mkF m (pc + 2) Ls (.int v :: S))) : Go p e below F Q T (mkF m pc Ls S) := h.st fun _ k => Jvm.Stand.ldcI X hx hown (mvT hZ w) rfl hd k
theorem Go.ldcWI (X : Stand p l e R s m args below meth c T locs cells slots) (hx : p.tables.exec = Jvm.exec) (hZ : Z.Warmed39 s.vm) {index : Nat} {v : Int32} (hown : s.vm.findClass own = some m.cls) (w : (Jvm.Cond.constant own index v).before a0 Z = true) (hd : decode c.code pc = .ok (.ldc_w index, 3)) (h : Go p e below F Q T (mkF m (pc + 3) Ls (.int v :: S))) : Go p e below F Q T (mkF m pc Ls S) := h.st fun _ k => Jvm.Stand.ldcWI X hx hown (mvT hZ w) rfl hd k
theorem Go.ldc2J (X : Stand p l e R s m args below meth c T locs cells slots) (hx : p.tables.exec = Jvm.exec) (hZ : Z.Warmed39 s.vm) {index : Nat} {v : Int64} (hown : s.vm.findClass own = some m.cls) (w : (Jvm.Cond.constantLong own index v).before a0 Z = true) (hd : decode c.code pc = .ok (.ldc2_w index, 3)) (h : Go p e below F Q T (mkF m (pc + 3) Ls (.long v :: S))) : Go p e below F Q T (mkF m pc Ls S) := h.st fun _ k => Jvm.Stand.ldc2J X hx hown (mvT hZ w) rfl hd k
theorem Go.retN (X : Stand p l e R s m args below meth c T locs cells slots) (hx : p.tables.exec = Jvm.exec) {t : FieldType} {z : Int32} (hret : meth.sig.returnType = some t) (hlk : meth.locks = false) (ht : t = .boolean ∨ t = .byte ∨ t = .char ∨ t = .short) (hd : decode c.code pc = .ok (.ireturn, 1)) (hC : cells ≤ C) (hN : slots ≤ N) (hQ : Q (some (.int (nar t z))) T.heap locs) : Go p e below (FE s C N) Q T (mkF m pc Ls (.int z :: S)) := by
  obtain ⟨fs, hr, hrun, hended, hW, hsame⟩ := X.leave (v := some (.int (nar t z))) (fun h => by rw [hret] at h; cases h) hlk
  exact ⟨_, _, Jvm.RoadKit.retN X hx hret ht hd hr, hrun, hended, _, _, rfl, hQ, ⟨_, rfl⟩, hW, hsame.mono hC hN⟩
theorem Go.retI (X : Stand p l e R s m args below meth c T locs cells slots) (hx : p.tables.exec = Jvm.exec) {z : Int32} (hret : meth.sig.returnType = some .int) (hlk : meth.locks = false) (hd : decode c.code pc = .ok (.ireturn, 1)) (hC : cells ≤ C) (hN : slots ≤ N) (hQ : Q (some (.int z)) T.heap locs) : Go p e below (FE s C N) Q T (mkF m pc Ls (.int z :: S)) := by
  obtain ⟨fs, hr, hrun, hended, hW, hsame⟩ := X.leave (v := some (.int z)) (fun h => by rw [hret] at h; cases h) hlk
  exact ⟨_, _, retOut X hx hret rfl (Or.inl ⟨rfl, Or.inl rfl, _, rfl⟩) hd hr, hrun, hended, _, _, rfl, hQ, ⟨_, rfl⟩, hW, hsame.mono hC hN⟩
theorem Go.retJ (X : Stand p l e R s m args below meth c T locs cells slots) (hx : p.tables.exec = Jvm.exec) {z : Int64} (hret : meth.sig.returnType = some .long) (hlk : meth.locks = false) (hd : decode c.code pc = .ok (.lreturn, 1)) (hC : cells ≤ C) (hN : slots ≤ N) (hQ : Q (some (.long z)) T.heap locs) : Go p e below (FE s C N) Q T (mkF m pc Ls (.long z :: S)) := by
  obtain ⟨fs, hr, hrun, hended, hW, hsame⟩ := X.leave (v := some (.long z)) (fun h => by rw [hret] at h; cases h) hlk
  exact ⟨_, _, retOut X hx hret rfl (Or.inr (Or.inl ⟨rfl, rfl, _, rfl⟩)) hd hr, hrun, hended, _, _, rfl, hQ, ⟨_, rfl⟩, hW, hsame.mono hC hN⟩
theorem Go.retA (X : Stand p l e R s m args below meth c T locs cells slots) (hx : p.tables.exec = Jvm.exec) {w : Value} {t : FieldType} (hret : meth.sig.returnType = some t) (hlk : meth.locks = false) (ht : t.isReference = true) (hw : w.isRef = true) (hn : narrow t w = w) (hd : decode c.code pc = .ok (.areturn, 1)) (hC : cells ≤ C) (hN : slots ≤ N) (hQ : Q (some w) T.heap locs) : Go p e below (FE s C N) Q T (mkF m pc Ls (w :: S)) := by
  obtain ⟨fs, hr, hrun, hended, hW, hsame⟩ := X.leave (v := some w) (fun h => by rw [hret] at h; cases h) hlk
  exact ⟨_, _, retOut X hx hret hn (Or.inr (Or.inr (Or.inr (Or.inr ⟨rfl, ht, hw⟩)))) hd hr, hrun, hended, _, _, rfl, hQ, ⟨_, rfl⟩, hW, hsame.mono hC hN⟩
theorem Go.retV (X : Stand p l e R s m args below meth c T locs cells slots) (hx : p.tables.exec = Jvm.exec) (hret : meth.sig.returnType = none) (hlk : meth.locks = false) (hd : decode c.code pc = .ok (.return_, 1)) (hC : cells ≤ C) (hN : slots ≤ N) (hQ : Q none T.heap locs) : Go p e below (FE s C N) Q T (mkF m pc Ls []) := by
  obtain ⟨fs, hr, hrun, hended, hW, hsame⟩ := X.leave (v := none) (fun _ => rfl) hlk
  exact ⟨_, _, X.returnOut hx hret hd hr, hrun, hended, _, _, rfl, hQ, ⟨_, rfl⟩, hW, hsame.mono hC hN⟩
theorem Go.getF (X : Stand p l e R s m args below meth c T locs cells slots) (hx : p.tables.exec = Jvm.exec) (hZ : Z.Warmed39 s.vm) {R0 O n d host : String} {index : Nat} (hown : s.vm.findClass own = some m.cls) (w : (Jvm.Cond.fieldLink own index R0 n d).before a0 Z = true ∨ (Jvm.Cond.fieldLinkNest own index R0 n d host).before a0 Z = true) (via : Via Z R0 O n d) (eT : T.heap = h) {a : Addr} {v : Value} (Fl : Fld Z h a O n d v) (hd : decode c.code pc = .ok (.getfield index, 3)) (k : ∀ T', Stand p l e R s m args below meth c T' locs cells slots → T'.heap = h → Go p e below F Q T' (mkF m (pc + 3) Ls (v :: S))) : Go p e below F Q T (mkF m pc Ls (.ref a :: S)) := by
  obtain ⟨T', X', e', st⟩ := Jvm.RoadKit.getF X hx hZ hown w via eT Fl (g := mkF m pc Ls (.ref a :: S)) rfl rfl hd
  exact (k T' X' e').st st
theorem Go.getS (X : Stand p l e R s m args below meth c T locs cells slots) (hx : p.tables.exec = Jvm.exec) (hZ : Z.Warmed39 s.vm) {R0 O n d host : String} {index : Nat} (hown : s.vm.findClass own = some m.cls) (w : (Jvm.Cond.fieldLink own index R0 n d).before a0 Z = true ∨ (Jvm.Cond.fieldLinkNest own index R0 n d host).before a0 Z = true) (via : Via Z R0 O n d) (eT : T.heap = h) {v : Value} (Fl : Sta Z h O n d v) (hd : decode c.code pc = .ok (.getstatic index, 3)) (k : ∀ T', Stand p l e R s m args below meth c T' locs cells slots → T'.heap = h → Go p e below F Q T' (mkF m (pc + 3) Ls (v :: S))) : Go p e below F Q T (mkF m pc Ls S) := by
  obtain ⟨T', X', e', st⟩ := getS2 X hx hZ hown w via eT Fl (g := mkF m pc Ls S) rfl hd
  exact (k T' X' e').st st
theorem Go.putF (X : Stand p l e R s m args below meth c T locs cells slots) (hx : p.tables.exec = Jvm.exec) (hZ : Z.Warmed39 s.vm) {R0 O n d host K : String} {index kk : Nat} {ty : FieldType} (hown : s.vm.findClass own = some m.cls) (w : (Jvm.Cond.fieldLink own index R0 n d).before a0 Z = true ∨ (Jvm.Cond.fieldLinkNest own index R0 n d host).before a0 Z = true) (via : Via Z R0 O n d) (eT : T.heap = h) {a : Addr} {v old : Value} (Fl : Fld Z h a O n d old) (E : Exa Z h a K) (L : (Jvm.Cond.lays K O n d).before a0 Z = true ∨ ((Jvm.Cond.laysFinal K O n d).before a0 Z = true ∧ own = O ∧ meth.name = "<init>")) (wi : (Jvm.Cond.instantiable K kk).before a0 Z = true) (hty : parseFieldDescriptor d = some ty) (hn : narrow ty v = v) (hf : fits ty v = true) (hd : decode c.code pc = .ok (.putfield index, 3)) (k : ∀ T' h', Stand p l e R s m args below meth c T' (locs ++ [⟨a, Jvm.RoadKit.slotOf Z O n d⟩]) cells slots → T'.heap = h' → Wr h h' a (Jvm.RoadKit.slotOf Z O n d) v → Go p e below F Q T' (mkF m (pc + 3) Ls S)) : Go p e below F Q T (mkF m pc Ls (v :: .ref a :: S)) := by
  obtain ⟨T', h', X', e', W', st⟩ := Jvm.RoadKit.putF X hx hZ hown w via eT Fl E L wi hty hn hf (g := mkF m pc Ls (v :: .ref a :: S)) rfl rfl hd
  exact (k T' h' X' e' W').st st
theorem Go.newO (X : Stand p l e R s m args below meth c T locs cells slots) (hx : p.tables.exec = Jvm.exec) (hZ : Z.Warmed39 s.vm) {K : String} {index n : Nat} (hown : s.vm.findClass own = some m.cls) (w : (Jvm.Cond.classLink own index K).before a0 Z = true) (wi : (Jvm.Cond.instantiable K n).before a0 Z = true) (wz : (Jvm.Cond.initialized K).before a0 Z = true) (eT : T.heap = h) (hd : decode c.code pc = .ok (.new index, 3)) (hc : cells + 1 ≤ R.cells) (hl : slots + n ≤ R.slots) (k : ∀ T' h' a, a = h.size → Stand p l e R s m args below meth c T' locs (cells + 1) (slots + n) → T'.heap = h' → Ext h h' → Exa Z h' a K → (∀ {O nm d : String} {ty : FieldType}, Laid Z a0 K O nm d → parseFieldDescriptor d = some ty → Fld Z h' a O nm d (defaultValue ty)) → Go p e below F Q T' (mkF m (pc + 3) Ls (.ref a :: S))) : Go p e below F Q T (mkF m pc Ls S) := by
  obtain ⟨T', h', X', e', E', A', D', -, st⟩ := Jvm.RoadKit.newO X hx hZ hown w wi wz eT (g := mkF m pc Ls S) rfl hd hc hl
  exact (k T' h' _ rfl X' e' E' A' D').st st
theorem Go.initO (X : Stand p l e R s m args below meth c T locs cells slots) (hx : p.tables.exec = Jvm.exec) (hZ : Z.Warmed39 s.vm) {idx : Nat} (hown : s.vm.findClass own = some m.cls) (w1 : (Jvm.Cond.methodLink own idx Lib.objectInit).before a0 Z = true) (w2 : (Jvm.Cond.instanceMethod Lib.objectInit).before a0 Z = true) (w3 : (Jvm.Cond.code Lib.objectInit ⟨#[0xb1]⟩ 1 none).before a0 Z = true) (eT : T.heap = h) (hsize : Ls.size = c.maxLocals) {a : Addr} (hd : decode c.code pc = .ok (.invokespecial idx, 3)) (hf : 1 ≤ R.frames) {W : Nat} (hW : (S.map fun v => v.category).sum ≤ W) (hl : W + 12 ≤ R.locals) (k : ∀ T', Stand p l e R s m args below meth c T' locs cells slots → T'.heap = h → Go p e below F Q T' (mkF m (pc + 3) Ls S)) : Go p e below F Q T (mkF m pc Ls (.ref a :: S)) := by
  obtain ⟨T', X', e', st⟩ := Jvm.RoadKit.initO X hx hZ hown w1 w2 w3 eT (g := mkF m pc Ls (.ref a :: S)) rfl hsize rfl hd hf (W := W) (by show 2 * 0 + _ ≤ _; omega) hl
  exact (k T' X' e').st st
theorem Go.callS (X : Stand p l e R s m args below meth c T locs cells slots) (hx : p.tables.exec = Jvm.exec) (hZ : Z.Warmed39 s.vm) {index : Nat} {y : MethodName} {bytes : ByteArray} {maxL : Nat} {ret : Option FieldType} {rm : Room} {as' : Array Value} {Qy : Option Value → Heap → List Loc → Prop} (hM : MetFree l y (head1 [Jvm.Cond.code y bytes maxL ret] rm) (fun a U => a = as' ∧ Z.Warmed39 U.vm ∧ U.heap = h) (fun _ _ _ _ _ => True) (fun _ U o U' => ∃ v L, o = .returned v ∧ Qy v U'.heap L ∧ FrameEnd U o U' L rm.cells rm.slots)) (hown : s.vm.findClass own = some m.cls) (wl : (Jvm.Cond.methodLink own index y).before a0 Z = true) (ws : (Jvm.Cond.static y).before a0 Z = true) (wi : (Jvm.Cond.initialized y.cls).before a0 Z = true) (wc : (Jvm.Cond.code y bytes maxL ret).before a0 Z = true) (hy : y.cls ≠ "java/lang/invoke/MethodHandle" ∧ y.cls ≠ "java/lang/invoke/VarHandle") (eT : T.heap = h) {W : Nat} (hsize : Ls.size = c.maxLocals) {argsL : List Value} (hW : (S.map fun v => v.category).sum ≤ W) (hf : rm.frames + 1 ≤ R.frames) (hl : W + (maxL + 11) + rm.locals ≤ R.locals) (hc : cells + rm.cells ≤ R.cells) (hs : slots + rm.slots ≤ R.slots) {ps : List FieldType} {r : Option FieldType} (hds : parseMethodDescriptor y.desc = some ⟨ps, r⟩) (hlen : argsL.length = ps.length) (has : argsL.toArray = as') (hd : decode c.code pc = .ok (.invokestatic index, 3)) (k : ∀ v T' L, Stand p l e R s m args below meth c T' (locs ++ L) (cells + rm.cells) (slots + rm.slots) → Qy v T'.heap L → Go p e below F Q T' (mkF m (pc + 3) Ls (v.toList ++ S))) : Go p e below F Q T (mkF m pc Ls (argsL.reverse ++ S)) := by
  obtain ⟨_, _, ⟨T', L', k', n'⟩, -, X', ⟨L, hq, e1, e2, e3⟩, st⟩ := Jvm.LawKit.callS X hx hown (mvT hZ wl) (mvT hZ ws) (mvT hZ wi) (mvT hZ wc) hy (backOf (W := W) hM hZ wc wi hf hl) (g := mkF m pc Ls (argsL.reverse ++ S)) rfl hsize (argsL := argsL) (rest := S) (lenOf hds hlen) rfl (by show 2 * 0 + _ ≤ _; omega) hd (fun _ _ => ⟨has, eT, hc, hs⟩)
  dsimp only [Pt.U, Pt.locs, Pt.cells, Pt.slots] at X' e1 e2 e3 st hq
  subst e1 e2 e3
  exact (k _ _ _ X' hq).st st
theorem Go.callI (X : Stand p l e R s m args below meth c T locs cells slots) (hx : p.tables.exec = Jvm.exec) (hZ : Z.Warmed39 s.vm) {index : Nat} {y : MethodName} {bytes : ByteArray} {maxL : Nat} {rm : Room} {as' : Array Value} {Qy : Option Value → Heap → List Loc → Prop} (hM : MetFree l y (head1 [Jvm.Cond.code y bytes maxL none] rm) (fun a U => a = as' ∧ Z.Warmed39 U.vm ∧ U.heap = h) (fun _ _ _ _ _ => True) (fun _ U o U' => ∃ v L, o = .returned v ∧ Qy v U'.heap L ∧ FrameEnd U o U' L rm.cells rm.slots)) (hy1 : y.name = "<init>") (hown : s.vm.findClass own = some m.cls) (wl : (Jvm.Cond.methodLink own index y).before a0 Z = true) (ws : (Jvm.Cond.instanceMethod y).before a0 Z = true) (wi : (Jvm.Cond.initialized y.cls).before a0 Z = true) (wc : (Jvm.Cond.code y bytes maxL none).before a0 Z = true) (hy : y.cls ≠ "java/lang/invoke/MethodHandle" ∧ y.cls ≠ "java/lang/invoke/VarHandle") (eT : T.heap = h) {a : Addr} {W : Nat} (hsize : Ls.size = c.maxLocals) {argsL : List Value} (hW : (S.map fun v => v.category).sum ≤ W) (hf : rm.frames + 1 ≤ R.frames) (hl : W + (maxL + 11) + rm.locals ≤ R.locals) (hc : cells + rm.cells ≤ R.cells) (hs : slots + rm.slots ≤ R.slots) {ps : List FieldType} {r : Option FieldType} (hds : parseMethodDescriptor y.desc = some ⟨ps, r⟩) (hlen : argsL.length = ps.length) (has : (.ref a :: argsL).toArray = as') (hd : decode c.code pc = .ok (.invokespecial index, 3)) (k : ∀ v T' L, Stand p l e R s m args below meth c T' (locs ++ L) (cells + rm.cells) (slots + rm.slots) → Qy v T'.heap L → Go p e below F Q T' (mkF m (pc + 3) Ls (v.toList ++ S))) : Go p e below F Q T (mkF m pc Ls (argsL.reverse ++ .ref a :: S)) := by
  obtain ⟨_, _, ⟨T', L', k', n'⟩, -, X', ⟨L, hq, e1, e2, e3⟩, st⟩ := X.specialBack hx hy1 hown (mvT hZ wl) (mvT hZ ws) (mvT hZ wc) hy (backOf (W := W) hM hZ wc wi hf hl) (g := mkF m pc Ls (argsL.reverse ++ .ref a :: S)) rfl hsize (Steps.refl _) (a := a) (argsL := argsL) (rest := S) (lenOf hds hlen) rfl (by show 2 * 0 + _ ≤ _; omega) hd (fun _ _ => ⟨has, eT, hc, hs⟩)
  dsimp only [Pt.U, Pt.locs, Pt.cells, Pt.slots] at X' e1 e2 e3 st hq
  subst e1 e2 e3
  exact (k _ _ _ X' hq).tr st
theorem Go.callV (X : Stand p l e R s m args below meth c T locs cells slots) (hx : p.tables.exec = Jvm.exec) (hZ : Z.Warmed39 s.vm) {index : Nat} {K : String} {y : MethodName} {bytes : ByteArray} {maxL : Nat} {ret : Option FieldType} {rm : Room} {as' : Array Value} {Qy : Option Value → Heap → List Loc → Prop} (hM : MetFree l y (head1 [Jvm.Cond.code y bytes maxL ret] rm) (fun a U => a = as' ∧ Z.Warmed39 U.vm ∧ U.heap = h) (fun _ _ _ _ _ => True) (fun _ U o U' => ∃ v L, o = .returned v ∧ Qy v U'.heap L ∧ FrameEnd U o U' L rm.cells rm.slots)) {y0 : MethodName} (hy : y0.cls ≠ "java/lang/invoke/MethodHandle" ∧ y0.cls ≠ "java/lang/invoke/VarHandle") (hown : s.vm.findClass own = some m.cls) (wl : (Jvm.Cond.methodLink own index y0).before a0 Z = true) (wd : (Jvm.Cond.declares y0).before a0 Z = true) (hnf : NotFace s y0) (wsel : (Jvm.Cond.selects K y0 y).before a0 Z = true) (ws : (Jvm.Cond.instanceMethod y).before a0 Z = true) (wi : (Jvm.Cond.initialized y.cls).before a0 Z = true) (wc : (Jvm.Cond.code y bytes maxL ret).before a0 Z = true) (eT : T.heap = h) {a : Addr} (E : Exa Z h a K) {W : Nat} (hsize : Ls.size = c.maxLocals) {argsL : List Value} (hW : (S.map fun v => v.category).sum ≤ W) (hf : rm.frames + 1 ≤ R.frames) (hl : W + (maxL + 11) + rm.locals ≤ R.locals) (hc : cells + rm.cells ≤ R.cells) (hs : slots + rm.slots ≤ R.slots) {ps : List FieldType} {r : Option FieldType} (hds : parseMethodDescriptor y0.desc = some ⟨ps, r⟩) (hlen : argsL.length = ps.length) (has : (.ref a :: argsL).toArray = as') (hd : decode c.code pc = .ok (.invokevirtual index, 3)) (k : ∀ v T' L, Stand p l e R s m args below meth c T' (locs ++ L) (cells + rm.cells) (slots + rm.slots) → Qy v T'.heap L → Go p e below F Q T' (mkF m (pc + 3) Ls (v.toList ++ S))) : Go p e below F Q T (mkF m pc Ls (argsL.reverse ++ .ref a :: S)) := by
  obtain ⟨cq, kq, q1, q2, q3⟩ := isOf hZ eT E
  obtain ⟨_, _, ⟨T', L', k', n'⟩, -, X', ⟨L, hq, e1, e2, e3⟩, st⟩ := X.virtualBack hx hown (mvT hZ wl) (mvT hZ wd) hnf (mvT hZ wsel) (mvT hZ ws) hy (backOf (W := W) hM hZ wc wi hf hl) q1 q3 (g := mkF m pc Ls (argsL.reverse ++ .ref a :: S)) rfl hsize (Steps.refl _) (argsL := argsL) (rest := S) (lenOf hds hlen) rfl (by show 2 * 0 + _ ≤ _; omega) hd (fun _ _ => ⟨has, eT, hc, hs⟩)
  dsimp only [Pt.U, Pt.locs, Pt.cells, Pt.slots] at X' e1 e2 e3 st hq
  subst e1 e2 e3
  exact (k _ _ _ X' hq).tr st
theorem Go.instY (X : Stand p l e R s m args below meth c T locs cells slots) (hx : p.tables.exec = Jvm.exec) (hZ : Z.Warmed39 s.vm) {K : String} {index : Nat} (hown : s.vm.findClass own = some m.cls) (w : (Jvm.Cond.classLink own index K).before a0 Z = true) (eT : T.heap = h) {a : Addr} (Fl : Ins Z h a K true) (hd : decode c.code pc = .ok (.instanceof index, 3)) (k : ∀ T', Stand p l e R s m args below meth c T' locs cells slots → T'.heap = h → Go p e below F Q T' (mkF m (pc + 3) Ls (.int 1 :: S))) : Go p e below F Q T (mkF m pc Ls (.ref a :: S)) := by
  obtain ⟨T', X', e', st⟩ := Jvm.RoadKit.instY X hx hZ hown w eT Fl (g := mkF m pc Ls (.ref a :: S)) rfl rfl hd
  exact (k T' X' e').st st
theorem Go.castY (X : Stand p l e R s m args below meth c T locs cells slots) (hx : p.tables.exec = Jvm.exec) (hZ : Z.Warmed39 s.vm) {K : String} {index : Nat} (hown : s.vm.findClass own = some m.cls) (w : (Jvm.Cond.classLink own index K).before a0 Z = true) (eT : T.heap = h) {a : Addr} (Fl : Ins Z h a K true) (hd : decode c.code pc = .ok (.checkcast index, 3)) (k : ∀ T', Stand p l e R s m args below meth c T' locs cells slots → T'.heap = h → Go p e below F Q T' (mkF m (pc + 3) Ls (.ref a :: S))) : Go p e below F Q T (mkF m pc Ls (.ref a :: S)) := by
  obtain ⟨T', X', e', st⟩ := Jvm.RoadKit.castY X hx hZ hown w eT Fl (g := mkF m pc Ls (.ref a :: S)) rfl rfl hd
  exact (k T' X' e').st st
theorem Go.instNo (X : Stand p l e R s m args below meth c T locs cells slots) (hx : p.tables.exec = Jvm.exec) (hZ : Z.Warmed39 s.vm) {K K0 : String} {index : Nat} (hown : s.vm.findClass own = some m.cls) (w : (Jvm.Cond.classLink own index K).before a0 Z = true) (eT : T.heap = h) {a : Addr} (E : Exa Z h a K0) (Fl : ∃ c t, Z.vm.findClass K0 = some c ∧ Z.vm.findClass K = some t ∧ Z.vm.assignable c t = false) (hd : decode c.code pc = .ok (.instanceof index, 3)) (k : ∀ T', Stand p l e R s m args below meth c T' locs cells slots → T'.heap = h → Go p e below F Q T' (mkF m (pc + 3) Ls (.int 0 :: S))) : Go p e below F Q T (mkF m pc Ls (.ref a :: S)) := by
  obtain ⟨T', X', e', st⟩ := Jvm.RoadKit.instNo X hx hZ hown w eT E Fl (g := mkF m pc Ls (.ref a :: S)) rfl rfl hd
  exact (k T' X' e').st st
theorem Go.instNull (X : Stand p l e R s m args below meth c T locs cells slots) (hx : p.tables.exec = Jvm.exec) {index : Nat} (hd : decode c.code pc = .ok (.instanceof index, 3)) (h : Go p e below F Q T (mkF m (pc + 3) Ls (.int 0 :: S))) : Go p e below F Q T (mkF m pc Ls (.null :: S)) := h.st fun _ k => X.instanceofNull hx (g := mkF m pc Ls (.null :: S)) rfl rfl hd _ k
theorem Go.castNull (X : Stand p l e R s m args below meth c T locs cells slots) (hx : p.tables.exec = Jvm.exec) {index : Nat} (hd : decode c.code pc = .ok (.checkcast index, 3)) (h : Go p e below F Q T (mkF m (pc + 3) Ls (.null :: S))) : Go p e below F Q T (mkF m pc Ls (.null :: S)) := h.st fun _ k => X.checkcastNull hx (g := mkF m pc Ls (.null :: S)) rfl rfl hd _ k
theorem own_noSub {K0 S0 K : String} {n : Nat} (w : (Jvm.Cond.superclass K0 S0).before a0 Z = true) (wk : (Jvm.Cond.instantiable K n).before a0 Z = true) (q : NS Z K0 K) (hn : K0 ≠ K) : ∃ c t, Z.vm.findClass K0 = some c ∧ Z.vm.findClass K = some t ∧ Z.vm.assignable c t = false := by
  obtain ⟨c, t, h0, g0, n3⟩ := q
  obtain ⟨p, k, kp, h1, h2, h3, h4, h5, -, h7⟩ := Cond.superclass_spec h0 w
  obtain ⟨t', k', g1, g2, g3, g4, -⟩ := Cond.instantiable_spec wk
  cases g0.symm.trans g1
  have g5 : k'.isInterface = false := by simp only [Bool.or_eq_false_iff] at g4; exact g4.1
  have ne := ids_ne h0 g0 hn
  refine ⟨c, t, h0, g0, ?_⟩
  show Z.vm.assignableAux (255 + 1) c t = false
  simp [Vm.assignableAux, ne, h2, g2, h5, g3, g5, Vm.isSubclass, n3]
theorem own_nsRoot {O K : String} {n : Nat} (w : (Jvm.Cond.noSuperclass O).before a0 Z = true) (wk : (Jvm.Cond.instantiable K n).before a0 Z = true) (hn : O ≠ K) : NS Z O K := by
  obtain ⟨c, k, h1, h2, h3, -, -⟩ := Cond.noSuperclass_spec w
  obtain ⟨t, k', g1, -⟩ := Cond.instantiable_spec wk
  have ne := ids_ne h1 g1 hn
  refine ⟨c, t, h1, g1, fun fuel => ?_⟩
  cases fuel with
  | zero => rfl
  | succ f => simp [Vm.isSubclassAux, ne, h2, h3]
theorem Sta.own_keep {h' : Heap} {K n d : String} {v : Value} {ws : List Addr} (Fl : Sta Z h K n d v) (k : Keep h h' ws) (q : ∀ x ∈ ws, ∀ cell : Cell, h[x]? = some cell → cell.vm.isStatics = false) : Sta Z h' K n d v := by
  obtain ⟨cf, i, kk, f, st, cell, h1, h2, h3, h4, h5, h6, h7⟩ := Fl
  refine ⟨cf, i, kk, f, st, cell, h1, h2, h3, h4, k.2.1 _ _ h5 (fun hm => ?_), h6, h7⟩
  have := q _ hm _ h5
  rw [h6] at this; cases this
theorem Go.newP (X : Stand p l e R s m args below meth c T locs cells slots) (hx : p.tables.exec = Jvm.exec) (hZ : Z.Warmed39 s.vm) {aty : ArrayType} (w : (Jvm.Cond.arrayClass (newarray.typeOf aty)).before a0 Z = true) (eT : T.heap = h) {n : Int32} (hd : decode c.code pc = .ok (.newarray aty, 2)) (hn : ¬ n < 0) {cap : Nat} (hcap : n.toNatClampNeg ≤ cap) (hb : cap * 8 ≤ 536870912) (hc : cells + 1 ≤ R.cells) (hl : slots + cap ≤ R.slots) (k : ∀ T' h' cA a, a = h.size → Stand p l e R s m args below meth c T' locs (cells + 1) (slots + cap) → T'.heap = h' → Ext h h' → Arr Z h' a (newA cA (newarray.typeOf aty) n) (newarray.typeOf aty) → Go p e below F Q T' (mkF m (pc + 2) Ls (.ref a :: S))) : Go p e below F Q T (mkF m pc Ls (.int n :: S)) := by
  obtain ⟨T', h', cA, X', e', E', A', st⟩ := Jvm.RoadKit.newP X hx hZ w eT (g := mkF m pc Ls (.int n :: S)) rfl hd rfl hn hcap hb hc hl
  exact (k T' h' cA _ rfl X' e' E' A').st st
theorem Go.stI (X : Stand p l e R s m args below meth c T locs cells slots) (hx : p.tables.exec = Jvm.exec) (hZ : Z.Warmed39 s.vm) (eT : T.heap = h) {a : Addr} {cl : Cell} (A : Arr Z h a cl .int) {j : Int32} {x : Int32} (hj : ¬ (j < 0 ∨ cl.slots.size ≤ j.toNatClampNeg)) (hd : decode c.code pc = .ok (.iastore, 1)) (k : ∀ T' h', Stand p l e R s m args below meth c T' (locs ++ [⟨a, j.toNatClampNeg⟩]) cells slots → T'.heap = h' → Wr h h' a j.toNatClampNeg (.int x) → Go p e below F Q T' (mkF m (pc + 1) Ls S)) : Go p e below F Q T (mkF m pc Ls (.int x :: .int j :: .ref a :: S)) := by
  obtain ⟨T', h', X', e', W', st⟩ := Jvm.RoadKit.stI X hx hZ eT A hj (g := mkF m pc Ls (.int x :: .int j :: .ref a :: S)) rfl rfl hd
  exact (k T' h' X' e' W').st st
theorem Go.stC (X : Stand p l e R s m args below meth c T locs cells slots) (hx : p.tables.exec = Jvm.exec) (hZ : Z.Warmed39 s.vm) (eT : T.heap = h) {a : Addr} {cl : Cell} (A : Arr Z h a cl .char) {j : Int32} {x : Int32} (hj : ¬ (j < 0 ∨ cl.slots.size ≤ j.toNatClampNeg)) (hd : decode c.code pc = .ok (.castore, 1)) (k : ∀ T' h', Stand p l e R s m args below meth c T' (locs ++ [⟨a, j.toNatClampNeg⟩]) cells slots → T'.heap = h' → Wr h h' a j.toNatClampNeg (.int (nar .char x)) → Go p e below F Q T' (mkF m (pc + 1) Ls S)) : Go p e below F Q T (mkF m pc Ls (.int x :: .int j :: .ref a :: S)) := by
  obtain ⟨T', h', X', e', W', st⟩ := Jvm.RoadKit.stC X hx hZ eT A hj (g := mkF m pc Ls (.int x :: .int j :: .ref a :: S)) rfl rfl hd
  exact (k T' h' X' e' W').st st
theorem Go.stB (X : Stand p l e R s m args below meth c T locs cells slots) (hx : p.tables.exec = Jvm.exec) (hZ : Z.Warmed39 s.vm) (eT : T.heap = h) {a : Addr} {cl : Cell} (A : Arr Z h a cl .byte) {j : Int32} {x : Int32} (hj : ¬ (j < 0 ∨ cl.slots.size ≤ j.toNatClampNeg)) (hd : decode c.code pc = .ok (.bastore, 1)) (k : ∀ T' h', Stand p l e R s m args below meth c T' (locs ++ [⟨a, j.toNatClampNeg⟩]) cells slots → T'.heap = h' → Wr h h' a j.toNatClampNeg (.int (nar .byte x)) → Go p e below F Q T' (mkF m (pc + 1) Ls S)) : Go p e below F Q T (mkF m pc Ls (.int x :: .int j :: .ref a :: S)) := by
  obtain ⟨T', h', X', e', W', st⟩ := Jvm.RoadKit.stB X hx hZ eT A hj (g := mkF m pc Ls (.int x :: .int j :: .ref a :: S)) rfl rfl hd
  exact (k T' h' X' e' W').st st
theorem Go.stZ (X : Stand p l e R s m args below meth c T locs cells slots) (hx : p.tables.exec = Jvm.exec) (hZ : Z.Warmed39 s.vm) (eT : T.heap = h) {a : Addr} {cl : Cell} (A : Arr Z h a cl .boolean) {j : Int32} {x : Int32} (hj : ¬ (j < 0 ∨ cl.slots.size ≤ j.toNatClampNeg)) (hd : decode c.code pc = .ok (.bastore, 1)) (k : ∀ T' h', Stand p l e R s m args below meth c T' (locs ++ [⟨a, j.toNatClampNeg⟩]) cells slots → T'.heap = h' → Wr h h' a j.toNatClampNeg (.int (nar .boolean x)) → Go p e below F Q T' (mkF m (pc + 1) Ls S)) : Go p e below F Q T (mkF m pc Ls (.int x :: .int j :: .ref a :: S)) := by
  obtain ⟨T', h', X', e', W', st⟩ := Jvm.RoadKit.stZ X hx hZ eT A hj (g := mkF m pc Ls (.int x :: .int j :: .ref a :: S)) rfl rfl hd
  exact (k T' h' X' e' W').st st
theorem Go.stS (X : Stand p l e R s m args below meth c T locs cells slots) (hx : p.tables.exec = Jvm.exec) (hZ : Z.Warmed39 s.vm) (eT : T.heap = h) {a : Addr} {cl : Cell} (A : Arr Z h a cl .short) {j : Int32} {x : Int32} (hj : ¬ (j < 0 ∨ cl.slots.size ≤ j.toNatClampNeg)) (hd : decode c.code pc = .ok (.sastore, 1)) (k : ∀ T' h', Stand p l e R s m args below meth c T' (locs ++ [⟨a, j.toNatClampNeg⟩]) cells slots → T'.heap = h' → Wr h h' a j.toNatClampNeg (.int (nar .short x)) → Go p e below F Q T' (mkF m (pc + 1) Ls S)) : Go p e below F Q T (mkF m pc Ls (.int x :: .int j :: .ref a :: S)) := by
  obtain ⟨T', h', X', e', W', st⟩ := Jvm.RoadKit.stS X hx hZ eT A hj (g := mkF m pc Ls (.int x :: .int j :: .ref a :: S)) rfl rfl hd
  exact (k T' h' X' e' W').st st
theorem Go.stJ (X : Stand p l e R s m args below meth c T locs cells slots) (hx : p.tables.exec = Jvm.exec) (hZ : Z.Warmed39 s.vm) (eT : T.heap = h) {a : Addr} {cl : Cell} (A : Arr Z h a cl .long) {j : Int32} {x : Int64} (hj : ¬ (j < 0 ∨ cl.slots.size ≤ j.toNatClampNeg)) (hd : decode c.code pc = .ok (.lastore, 1)) (k : ∀ T' h', Stand p l e R s m args below meth c T' (locs ++ [⟨a, j.toNatClampNeg⟩]) cells slots → T'.heap = h' → Wr h h' a j.toNatClampNeg (.long x) → Go p e below F Q T' (mkF m (pc + 1) Ls S)) : Go p e below F Q T (mkF m pc Ls (.long x :: .int j :: .ref a :: S)) := by
  obtain ⟨T', h', X', e', W', st⟩ := Jvm.RoadKit.stJ X hx hZ eT A hj (g := mkF m pc Ls (.long x :: .int j :: .ref a :: S)) rfl rfl hd
  exact (k T' h' X' e' W').st st
theorem Go.iaload (X : Stand p l e R s m args below meth c T locs cells slots) (hx : p.tables.exec = Jvm.exec) (hZ : Z.Warmed39 s.vm) (eT : T.heap = h) {a : Addr} {cl : Cell} (A : Arr Z h a cl .int) {j : Int32} {v : Value} (hj : ¬ (j < 0 ∨ cl.slots.size ≤ j.toNatClampNeg)) (hv : cl.slots[j.toNatClampNeg]? = some v) (hd : decode c.code pc = .ok (.iaload, 1)) (k : Go p e below F Q T (mkF m (pc + 1) Ls (v :: S))) : Go p e below F Q T (mkF m pc Ls (.int j :: .ref a :: S)) := k.st fun _ q => X.iaload hx (by rw [eT]; exact A.1) (State.isArrayOf_alike hZ.alike A.2.1) A.2.2 hj hv (g := mkF m pc Ls (.int j :: .ref a :: S)) rfl rfl hd _ q
theorem Go.caload (X : Stand p l e R s m args below meth c T locs cells slots) (hx : p.tables.exec = Jvm.exec) (hZ : Z.Warmed39 s.vm) (eT : T.heap = h) {a : Addr} {cl : Cell} (A : Arr Z h a cl .char) {j : Int32} {v : Value} (hj : ¬ (j < 0 ∨ cl.slots.size ≤ j.toNatClampNeg)) (hv : cl.slots[j.toNatClampNeg]? = some v) (hd : decode c.code pc = .ok (.caload, 1)) (k : Go p e below F Q T (mkF m (pc + 1) Ls (v :: S))) : Go p e below F Q T (mkF m pc Ls (.int j :: .ref a :: S)) := k.st fun _ q => X.caload hx (by rw [eT]; exact A.1) (State.isArrayOf_alike hZ.alike A.2.1) A.2.2 hj hv (g := mkF m pc Ls (.int j :: .ref a :: S)) rfl rfl hd _ q
theorem Go.saload (X : Stand p l e R s m args below meth c T locs cells slots) (hx : p.tables.exec = Jvm.exec) (hZ : Z.Warmed39 s.vm) (eT : T.heap = h) {a : Addr} {cl : Cell} (A : Arr Z h a cl .short) {j : Int32} {v : Value} (hj : ¬ (j < 0 ∨ cl.slots.size ≤ j.toNatClampNeg)) (hv : cl.slots[j.toNatClampNeg]? = some v) (hd : decode c.code pc = .ok (.saload, 1)) (k : Go p e below F Q T (mkF m (pc + 1) Ls (v :: S))) : Go p e below F Q T (mkF m pc Ls (.int j :: .ref a :: S)) := k.st fun _ q => X.saload hx (by rw [eT]; exact A.1) (State.isArrayOf_alike hZ.alike A.2.1) A.2.2 hj hv (g := mkF m pc Ls (.int j :: .ref a :: S)) rfl rfl hd _ q
theorem Go.laload (X : Stand p l e R s m args below meth c T locs cells slots) (hx : p.tables.exec = Jvm.exec) (hZ : Z.Warmed39 s.vm) (eT : T.heap = h) {a : Addr} {cl : Cell} (A : Arr Z h a cl .long) {j : Int32} {v : Value} (hj : ¬ (j < 0 ∨ cl.slots.size ≤ j.toNatClampNeg)) (hv : cl.slots[j.toNatClampNeg]? = some v) (hd : decode c.code pc = .ok (.laload, 1)) (k : Go p e below F Q T (mkF m (pc + 1) Ls (v :: S))) : Go p e below F Q T (mkF m pc Ls (.int j :: .ref a :: S)) := k.st fun _ q => X.laload hx (by rw [eT]; exact A.1) (State.isArrayOf_alike hZ.alike A.2.1) A.2.2 hj hv (g := mkF m pc Ls (.int j :: .ref a :: S)) rfl rfl hd _ q
theorem Go.baload (X : Stand p l e R s m args below meth c T locs cells slots) (hx : p.tables.exec = Jvm.exec) (hZ : Z.Warmed39 s.vm) (eT : T.heap = h) {a : Addr} {cl : Cell} (A : Arr Z h a cl .byte) {j : Int32} {v : Value} (hj : ¬ (j < 0 ∨ cl.slots.size ≤ j.toNatClampNeg)) (hv : cl.slots[j.toNatClampNeg]? = some v) (hd : decode c.code pc = .ok (.baload, 1)) (k : Go p e below F Q T (mkF m (pc + 1) Ls (v :: S))) : Go p e below F Q T (mkF m pc Ls (.int j :: .ref a :: S)) := k.st fun _ q => X.baloadBytes hx (by rw [eT]; exact A.1) (State.isArrayOf_alike hZ.alike A.2.1) A.2.2 hj hv (g := mkF m pc Ls (.int j :: .ref a :: S)) rfl rfl hd _ q
theorem Go.aaload (X : Stand p l e R s m args below meth c T locs cells slots) (hx : p.tables.exec = Jvm.exec) (hZ : Z.Warmed39 s.vm) (eT : T.heap = h) {a : Addr} {cl : Cell} {ty : FieldType} (A : Arr Z h a cl ty) (hty : ty.isReference = true) {j : Int32} {v : Value} (hj : ¬ (j < 0 ∨ cl.slots.size ≤ j.toNatClampNeg)) (hv : cl.slots[j.toNatClampNeg]? = some v) (hd : decode c.code pc = .ok (.aaload, 1)) (k : Go p e below F Q T (mkF m (pc + 1) Ls (v :: S))) : Go p e below F Q T (mkF m pc Ls (.int j :: .ref a :: S)) := k.st fun _ q => X.aaload hx (by rw [eT]; exact A.1) (State.isArrayOf_alike hZ.alike A.2.1) hty A.2.2 hj hv (g := mkF m pc Ls (.int j :: .ref a :: S)) rfl rfl hd _ q
theorem Go.arraylength (X : Stand p l e R s m args below meth c T locs cells slots) (hx : p.tables.exec = Jvm.exec) (hZ : Z.Warmed39 s.vm) (eT : T.heap = h) {a : Addr} {cl : Cell} {ty : FieldType} (A : Arr Z h a cl ty) {n : Int32} (S1 : cl.slots.size = n.toNatClampNeg) (hn : ¬ n < 0) (hd : decode c.code pc = .ok (.arraylength, 1)) (k : Go p e below F Q T (mkF m (pc + 1) Ls (.int n :: S))) : Go p e below F Q T (mkF m pc Ls (.ref a :: S)) := k.st fun _ q => X.arraylength hx (by rw [eT]; exact A.1) (State.isArrayOf_alike hZ.alike A.2.1) (g := mkF m pc Ls (.ref a :: S)) rfl rfl hd _ (by rw [len_of S1 hn]; exact q)
theorem Go.callIB (X : Stand p l e R s m args below meth c T locs cells slots) (hx : p.tables.exec = Jvm.exec) (hZ : Z.Warmed39 s.vm) {index : Nat} {y : MethodName} {as' : Array Value} {C1 N1 : Nat} {Qy : Option Value → Heap → List Loc → Prop} {W : Nat} (hK : Back l R p e below s args y 3 W (fun P a => a = as' ∧ P.U.heap = h ∧ P.cells + C1 ≤ R.cells ∧ P.slots + N1 ≤ R.slots) (fun P _ v B => ∃ L, Qy v B.U.heap L ∧ B.locs = P.locs ++ L ∧ B.cells = P.cells + C1 ∧ B.slots = P.slots + N1)) (hy1 : y.name = "<init>") (hown : s.vm.findClass own = some m.cls) (wl : (Jvm.Cond.methodLink own index y).before a0 Z = true) (ws : (Jvm.Cond.instanceMethod y).before a0 Z = true) {bytes : ByteArray} {maxL : Nat} (wc : (Jvm.Cond.code y bytes maxL none).before a0 Z = true) (hy : y.cls ≠ "java/lang/invoke/MethodHandle" ∧ y.cls ≠ "java/lang/invoke/VarHandle") (eT : T.heap = h) {a : Addr} (hsize : Ls.size = c.maxLocals) {argsL : List Value} (hW : (S.map fun v => v.category).sum ≤ W) (hc : cells + C1 ≤ R.cells) (hs : slots + N1 ≤ R.slots) {ps : List FieldType} {r : Option FieldType} (hds : parseMethodDescriptor y.desc = some ⟨ps, r⟩) (hlen : argsL.length = ps.length) (has : (.ref a :: argsL).toArray = as') (hd : decode c.code pc = .ok (.invokespecial index, 3)) (k : ∀ v T' L, Stand p l e R s m args below meth c T' (locs ++ L) (cells + C1) (slots + N1) → Qy v T'.heap L → Go p e below F Q T' (mkF m (pc + 3) Ls (v.toList ++ S))) : Go p e below F Q T (mkF m pc Ls (argsL.reverse ++ .ref a :: S)) := by
  obtain ⟨_, _, ⟨T', L', k', n'⟩, -, X', ⟨L, hq, e1, e2, e3⟩, st⟩ := X.specialBack hx hy1 hown (mvT hZ wl) (mvT hZ ws) (mvT hZ wc) hy hK (g := mkF m pc Ls (argsL.reverse ++ .ref a :: S)) rfl hsize (Steps.refl _) (a := a) (argsL := argsL) (rest := S) (lenOf hds hlen) rfl (by show 2 * 0 + _ ≤ _; omega) hd (fun _ _ => ⟨has, eT, hc, hs⟩)
  dsimp only [Pt.U, Pt.locs, Pt.cells, Pt.slots] at X' e1 e2 e3 st hq
  subst e1 e2 e3
  exact (k _ _ _ X' hq).tr st
theorem Go.callVB (X : Stand p l e R s m args below meth c T locs cells slots) (hx : p.tables.exec = Jvm.exec) (hZ : Z.Warmed39 s.vm) {index : Nat} {K : String} {y : MethodName} {as' : Array Value} {C1 N1 : Nat} {Qy : Option Value → Heap → List Loc → Prop} {W : Nat} (hK : Back l R p e below s args y 3 W (fun P a => a = as' ∧ P.U.heap = h ∧ P.cells + C1 ≤ R.cells ∧ P.slots + N1 ≤ R.slots) (fun P _ v B => ∃ L, Qy v B.U.heap L ∧ B.locs = P.locs ++ L ∧ B.cells = P.cells + C1 ∧ B.slots = P.slots + N1)) {y0 : MethodName} (hy : y0.cls ≠ "java/lang/invoke/MethodHandle" ∧ y0.cls ≠ "java/lang/invoke/VarHandle") (hown : s.vm.findClass own = some m.cls) (wl : (Jvm.Cond.methodLink own index y0).before a0 Z = true) (wd : (Jvm.Cond.declares y0).before a0 Z = true) (hnf : NotFace s y0) (wsel : (Jvm.Cond.selects K y0 y).before a0 Z = true) (ws : (Jvm.Cond.instanceMethod y).before a0 Z = true) (eT : T.heap = h) {a : Addr} (E : Exa Z h a K) (hsize : Ls.size = c.maxLocals) {argsL : List Value} (hW : (S.map fun v => v.category).sum ≤ W) (hc : cells + C1 ≤ R.cells) (hs : slots + N1 ≤ R.slots) {ps : List FieldType} {r : Option FieldType} (hds : parseMethodDescriptor y0.desc = some ⟨ps, r⟩) (hlen : argsL.length = ps.length) (has : (.ref a :: argsL).toArray = as') (hd : decode c.code pc = .ok (.invokevirtual index, 3)) (k : ∀ v T' L, Stand p l e R s m args below meth c T' (locs ++ L) (cells + C1) (slots + N1) → Qy v T'.heap L → Go p e below F Q T' (mkF m (pc + 3) Ls (v.toList ++ S))) : Go p e below F Q T (mkF m pc Ls (argsL.reverse ++ .ref a :: S)) := by
  obtain ⟨cq, kq, q1, q2, q3⟩ := isOf hZ eT E
  obtain ⟨_, _, ⟨T', L', k', n'⟩, -, X', ⟨L, hq, e1, e2, e3⟩, st⟩ := X.virtualBack hx hown (mvT hZ wl) (mvT hZ wd) hnf (mvT hZ wsel) (mvT hZ ws) hy hK q1 q3 (g := mkF m pc Ls (argsL.reverse ++ .ref a :: S)) rfl hsize (Steps.refl _) (argsL := argsL) (rest := S) (lenOf hds hlen) rfl (by show 2 * 0 + _ ≤ _; omega) hd (fun _ _ => ⟨has, eT, hc, hs⟩)
  dsimp only [Pt.U, Pt.locs, Pt.cells, Pt.slots] at X' e1 e2 e3 st hq
  subst e1 e2 e3
  exact (k _ _ _ X' hq).tr st
end OwnKit
section OwnKitS
variable {p : Program} {l : Launch} {e : Env} {R : Room} {s : State} {vm0 : Vm} {k0 : Nat} {m : MethodId} {args : Array Value} {below : List Frame} {meth : Method} {c : Code} {T : State} {locs : List Loc} {cells slots : Nat} {C N : Nat} {F : Outcome → State → List Loc → Prop} {Q : Option Value → Heap → List Loc → Prop} {pc : Nat} {Ls : Array Slot} {S : List Value} {Z : State} {a0 : Array Value} {h : Heap} {own : String}
def WE (s : State) (C N : Nat) (o : Outcome) (t : State) (L : List Loc) : Prop := ReturnedEndW s o t L C N
theorem metOfW {y : MethodName} {bytes : ByteArray} {maxL : Nat} {ret : Option FieldType} {rm : Room} {ws : List Jvm.Cond} {as' : Array Value} {h0 : Heap} (hpl : plainFor y = true)
    (body : ∀ p e s m below meth c s₁, Stand p l e rm (s.setVm s.vm) m as' below meth c s₁ [] 0 0 → p.tables.exec = Jvm.exec → c.code = bytes → c.maxLocals = maxL → meth.sig.returnType = ret → meth.locks = false → Z.Warmed39 (s.setVm s.vm).vm → (s.setVm s.vm).vm.findClass y.cls = some m.cls → meth.name = y.name → s₁.heap = h0 → s.Since s.vm 0 → Go p e below (WE s rm.cells rm.slots) Q s₁ (entryFrame m as' maxL)) :
    MetFree l y (head1 (Jvm.Cond.code y bytes maxL ret :: ws) rm) (fun a U => a = as' ∧ Z.Warmed39 U.vm ∧ U.heap = h0) (fun _ _ _ _ _ => True) (fun _ U o U' => ∃ v L, o = .returned v ∧ Q v U'.heap L ∧ ReturnedEndW U o U' L rm.cells rm.slots) := by
  refine MetFree.of_bodySF hpl hisR ?_
  intro p e s m args below meth c s₁ Bd hml0 hP hK
  obtain ⟨rfl, hZ, hh⟩ := hP
  exact body p e s m below meth c s₁ (Stand.of_body Bd) Bd.exec Bd.bytes hml0 Bd.returns Bd.notSynchronized hZ (findClass_of_methodNamed Bd.named) (name_of_methodNamed Bd.named Bd.method).1 (by rw [← hh, Bd.state]; rfl) ((State.WarmedH.refl s).since 0)
theorem ReturnedEndW.own_mono {o : Outcome} {t : State} {L : List Loc} {a b : Nat} (h : ReturnedEndW s o t L a b) (hC : a ≤ C) (hN : b ≤ N) : WE s C N o t L := ⟨h.1, h.2.1, h.2.2.1, h.2.2.2.mono hC hN⟩
theorem Go.retNW (X : Stand p l e R (s.setVm vm0) m args below meth c T locs cells slots) (hx : p.tables.exec = Jvm.exec) (hS : s.Since vm0 k0) (eT : T.heap = h) (hk : k0 ≤ h.size) {t : FieldType} {z : Int32} (hret : meth.sig.returnType = some t) (hlk : meth.locks = false) (ht : t = .boolean ∨ t = .byte ∨ t = .char ∨ t = .short) (hd : decode c.code pc = .ok (.ireturn, 1)) (hC : cells ≤ C) (hN : slots ≤ N) (hQ : Q (some (.int (nar t z))) T.heap locs) : Go p e below (WE s C N) Q T (mkF m pc Ls (.int z :: S)) := by
  obtain ⟨fs, hr, hrun, hended, hW⟩ := X.leaveW hS (by rw [eT]; exact hk) (v := some (.int (nar t z))) (fun h => by rw [hret] at h; cases h) hlk
  exact ⟨_, _, Jvm.RoadKit.retN X hx hret ht hd hr, hrun, hended, _, _, rfl, hQ, ReturnedEndW.own_mono hW hC hN⟩
theorem Go.retIW (X : Stand p l e R (s.setVm vm0) m args below meth c T locs cells slots) (hx : p.tables.exec = Jvm.exec) (hS : s.Since vm0 k0) (eT : T.heap = h) (hk : k0 ≤ h.size) {z : Int32} (hret : meth.sig.returnType = some .int) (hlk : meth.locks = false) (hd : decode c.code pc = .ok (.ireturn, 1)) (hC : cells ≤ C) (hN : slots ≤ N) (hQ : Q (some (.int z)) T.heap locs) : Go p e below (WE s C N) Q T (mkF m pc Ls (.int z :: S)) := by
  obtain ⟨fs, hr, hrun, hended, hW⟩ := X.leaveW hS (by rw [eT]; exact hk) (v := some (.int z)) (fun h => by rw [hret] at h; cases h) hlk
  exact ⟨_, _, retOut X hx hret rfl (Or.inl ⟨rfl, Or.inl rfl, _, rfl⟩) hd hr, hrun, hended, _, _, rfl, hQ, ReturnedEndW.own_mono hW hC hN⟩
theorem Go.retJW (X : Stand p l e R (s.setVm vm0) m args below meth c T locs cells slots) (hx : p.tables.exec = Jvm.exec) (hS : s.Since vm0 k0) (eT : T.heap = h) (hk : k0 ≤ h.size) {z : Int64} (hret : meth.sig.returnType = some .long) (hlk : meth.locks = false) (hd : decode c.code pc = .ok (.lreturn, 1)) (hC : cells ≤ C) (hN : slots ≤ N) (hQ : Q (some (.long z)) T.heap locs) : Go p e below (WE s C N) Q T (mkF m pc Ls (.long z :: S)) := by
  obtain ⟨fs, hr, hrun, hended, hW⟩ := X.leaveW hS (by rw [eT]; exact hk) (v := some (.long z)) (fun h => by rw [hret] at h; cases h) hlk
  exact ⟨_, _, retOut X hx hret rfl (Or.inr (Or.inl ⟨rfl, rfl, _, rfl⟩)) hd hr, hrun, hended, _, _, rfl, hQ, ReturnedEndW.own_mono hW hC hN⟩
theorem Go.retAW (X : Stand p l e R (s.setVm vm0) m args below meth c T locs cells slots) (hx : p.tables.exec = Jvm.exec) (hS : s.Since vm0 k0) (eT : T.heap = h) (hk : k0 ≤ h.size) {w : Value} {t : FieldType} (hret : meth.sig.returnType = some t) (hlk : meth.locks = false) (ht : t.isReference = true) (hw : w.isRef = true) (hn : narrow t w = w) (hd : decode c.code pc = .ok (.areturn, 1)) (hC : cells ≤ C) (hN : slots ≤ N) (hQ : Q (some w) T.heap locs) : Go p e below (WE s C N) Q T (mkF m pc Ls (w :: S)) := by
  obtain ⟨fs, hr, hrun, hended, hW⟩ := X.leaveW hS (by rw [eT]; exact hk) (v := some w) (fun h => by rw [hret] at h; cases h) hlk
  exact ⟨_, _, retOut X hx hret hn (Or.inr (Or.inr (Or.inr (Or.inr ⟨rfl, ht, hw⟩)))) hd hr, hrun, hended, _, _, rfl, hQ, ReturnedEndW.own_mono hW hC hN⟩
theorem Go.retVW (X : Stand p l e R (s.setVm vm0) m args below meth c T locs cells slots) (hx : p.tables.exec = Jvm.exec) (hS : s.Since vm0 k0) (eT : T.heap = h) (hk : k0 ≤ h.size) (hret : meth.sig.returnType = none) (hlk : meth.locks = false) (hd : decode c.code pc = .ok (.return_, 1)) (hC : cells ≤ C) (hN : slots ≤ N) (hQ : Q none T.heap locs) : Go p e below (WE s C N) Q T (mkF m pc Ls []) := by
  obtain ⟨fs, hr, hrun, hended, hW⟩ := X.leaveW hS (by rw [eT]; exact hk) (v := none) (fun _ => rfl) hlk
  exact ⟨_, _, X.returnOut hx hret hd hr, hrun, hended, _, _, rfl, hQ, ReturnedEndW.own_mono hW hC hN⟩
theorem Go.ldcS (X : Stand p l e R (s.setVm vm0) m args below meth c T locs cells slots) (hx : p.tables.exec = Jvm.exec) (hZ : Z.Warmed39 (s.setVm vm0).vm) {text : String} {index : Nat} (hown : (s.setVm vm0).vm.findClass own = some m.cls) (w : (Jvm.Cond.stringLink own index text).before a0 Z = true) (wS : ∀ a ∈ Bundle.stringAtoms, a.before a0 Z = true) (hS : s.Since vm0 k0) (eT : T.heap = h) (hk : k0 ≤ h.size) (hd : decode c.code pc = .ok (.ldc index, 2)) {n : Nat} (hn : 4 * text.toList.length ≤ n) (hbig : n ≤ 536870912) (hc : cells + 2 ≤ R.cells) (hl : slots + (n + 4) ≤ R.slots) (k : ∀ a T' h' k1, Stand p l e R (s.setVm T'.vm) m args below meth c T' locs (cells + 2) (slots + (n + 4)) → T'.heap = h' → Ext h h' → s.Since T'.vm k1 → k1 ≤ h'.size → Z.Warmed39 (s.setVm T'.vm).vm → (s.setVm T'.vm).vm.findClass own = some m.cls → Go p e below F Q T' (mkF m (pc + 2) Ls (.ref a :: S))) : Go p e below F Q T (mkF m pc Ls S) := by
  obtain ⟨a, T', h', k1, X', e', E', hS', hk', hZ', ho', st⟩ := Jvm.RoadKit.ldcS X hx hZ hown w wS eT hS hk (g := mkF m pc Ls S) rfl hd hn hbig hc hl
  exact (k a T' h' k1 X' e' E' hS' hk' hZ' ho').st st
theorem Go.callSS (X : Stand p l e R (s.setVm vm0) m args below meth c T locs cells slots) (hx : p.tables.exec = Jvm.exec) (hZ : Z.Warmed39 (s.setVm vm0).vm) {index : Nat} {y : MethodName} {bytes : ByteArray} {maxL : Nat} {ret : Option FieldType} {rm : Room} {as' : Array Value} {Qy : Option Value → Heap → List Loc → Prop} (hM : MetFree l y (head1 [Jvm.Cond.code y bytes maxL ret] rm) (fun a U => a = as' ∧ Z.Warmed39 U.vm ∧ U.heap = h) (fun _ _ _ _ _ => True) (fun _ U o U' => ∃ v L, o = .returned v ∧ Qy v U'.heap L ∧ ReturnedEndW U o U' L rm.cells rm.slots)) (hown : (s.setVm vm0).vm.findClass own = some m.cls) (wl : (Jvm.Cond.methodLink own index y).before a0 Z = true) (ws : (Jvm.Cond.static y).before a0 Z = true) (wi : (Jvm.Cond.initialized y.cls).before a0 Z = true) (wc : (Jvm.Cond.code y bytes maxL ret).before a0 Z = true) (hy : y.cls ≠ "java/lang/invoke/MethodHandle" ∧ y.cls ≠ "java/lang/invoke/VarHandle") (hS : s.Since vm0 k0) (eT : T.heap = h) (hk : k0 ≤ h.size) {W : Nat} (hsize : Ls.size = c.maxLocals) {argsL : List Value} (hW : (S.map fun v => v.category).sum ≤ W) (hf : rm.frames + 1 ≤ R.frames) (hl : W + (maxL + 11) + rm.locals ≤ R.locals) (hc : cells + rm.cells ≤ R.cells) (hs : slots + rm.slots ≤ R.slots) {ps : List FieldType} {r : Option FieldType} (hds : parseMethodDescriptor y.desc = some ⟨ps, r⟩) (hlen : argsL.length = ps.length) (has : argsL.toArray = as') (hd : decode c.code pc = .ok (.invokestatic index, 3)) (k : ∀ v T' L, Stand p l e R (s.setVm T'.vm) m args below meth c T' (locs ++ L) (cells + rm.cells) (slots + rm.slots) → Qy v T'.heap L → s.Since T'.vm T'.heap.size → h.size ≤ T'.heap.size → Z.Warmed39 (s.setVm T'.vm).vm → (s.setVm T'.vm).vm.findClass own = some m.cls → Go p e below F Q T' (mkF m (pc + 3) Ls (v.toList ++ S))) : Go p e below F Q T (mkF m pc Ls (argsL.reverse ++ S)) := by
  obtain ⟨_, _, ⟨T', L', k', n'⟩, -, X', hS', hg', ⟨L, hq, e1, e2, e3⟩, st⟩ := Jvm.RoadKit.callSS X hx hown (mvT hZ wl) (mvT hZ ws) (mvT hZ wi) (mvT hZ wc) hy (backOfS (W := W) hM hZ wc wi hf hl) (g := mkF m pc Ls (argsL.reverse ++ S)) rfl hsize (argsL := argsL) (rest := S) (lenOf hds hlen) rfl (by show 2 * 0 + _ ≤ _; omega) hd (fun _ _ => ⟨has, eT, hc, hs⟩)
  dsimp only [Pt.U, Pt.locs, Pt.cells, Pt.slots] at X' hS' hg' e1 e2 e3 st hq
  subst e1 e2 e3
  subst eT
  obtain ⟨X2, hS2, hZ2, ho2⟩ := rebS hS hk X' hS' hg' hZ hown
  exact (k _ _ _ X2 hq hS2 hg' hZ2 ho2).tr st
theorem Go.callIS (X : Stand p l e R (s.setVm vm0) m args below meth c T locs cells slots) (hx : p.tables.exec = Jvm.exec) (hZ : Z.Warmed39 (s.setVm vm0).vm) {index : Nat} {y : MethodName} {bytes : ByteArray} {maxL : Nat} {rm : Room} {as' : Array Value} {Qy : Option Value → Heap → List Loc → Prop} (hM : MetFree l y (head1 [Jvm.Cond.code y bytes maxL none] rm) (fun a U => a = as' ∧ Z.Warmed39 U.vm ∧ U.heap = h) (fun _ _ _ _ _ => True) (fun _ U o U' => ∃ v L, o = .returned v ∧ Qy v U'.heap L ∧ ReturnedEndW U o U' L rm.cells rm.slots)) (hy1 : y.name = "<init>") (hown : (s.setVm vm0).vm.findClass own = some m.cls) (wl : (Jvm.Cond.methodLink own index y).before a0 Z = true) (ws : (Jvm.Cond.instanceMethod y).before a0 Z = true) (wi : (Jvm.Cond.initialized y.cls).before a0 Z = true) (wc : (Jvm.Cond.code y bytes maxL none).before a0 Z = true) (hy : y.cls ≠ "java/lang/invoke/MethodHandle" ∧ y.cls ≠ "java/lang/invoke/VarHandle") (hS : s.Since vm0 k0) (eT : T.heap = h) (hk : k0 ≤ h.size) {a : Addr} {W : Nat} (hsize : Ls.size = c.maxLocals) {argsL : List Value} (hW : (S.map fun v => v.category).sum ≤ W) (hf : rm.frames + 1 ≤ R.frames) (hl : W + (maxL + 11) + rm.locals ≤ R.locals) (hc : cells + rm.cells ≤ R.cells) (hs : slots + rm.slots ≤ R.slots) {ps : List FieldType} {r : Option FieldType} (hds : parseMethodDescriptor y.desc = some ⟨ps, r⟩) (hlen : argsL.length = ps.length) (has : (.ref a :: argsL).toArray = as') (hd : decode c.code pc = .ok (.invokespecial index, 3)) (k : ∀ v T' L, Stand p l e R (s.setVm T'.vm) m args below meth c T' (locs ++ L) (cells + rm.cells) (slots + rm.slots) → Qy v T'.heap L → s.Since T'.vm T'.heap.size → h.size ≤ T'.heap.size → Z.Warmed39 (s.setVm T'.vm).vm → (s.setVm T'.vm).vm.findClass own = some m.cls → Go p e below F Q T' (mkF m (pc + 3) Ls (v.toList ++ S))) : Go p e below F Q T (mkF m pc Ls (argsL.reverse ++ .ref a :: S)) := by
  obtain ⟨_, _, ⟨T', L', k', n'⟩, -, X', hS', hg', ⟨L, hq, e1, e2, e3⟩, st⟩ := X.specialBackS hx hy1 hown (mvT hZ wl) (mvT hZ ws) (mvT hZ wc) hy (backOfS (W := W) hM hZ wc wi hf hl) (g := mkF m pc Ls (argsL.reverse ++ .ref a :: S)) rfl hsize (Steps.refl _) (a := a) (argsL := argsL) (rest := S) (lenOf hds hlen) rfl (by show 2 * 0 + _ ≤ _; omega) hd (fun _ _ => ⟨has, eT, hc, hs⟩)
  dsimp only [Pt.U, Pt.locs, Pt.cells, Pt.slots] at X' hS' hg' e1 e2 e3 st hq
  subst e1 e2 e3
  subst eT
  obtain ⟨X2, hS2, hZ2, ho2⟩ := rebS hS hk X' hS' hg' hZ hown
  exact (k _ _ _ X2 hq hS2 hg' hZ2 ho2).tr st
end OwnKitS
theorem own_nar {c : Int32} (h : ¬ c < 0 ∧ ¬ (255 : Int32) < c) : nar .char c = c := by
  show c.toUInt32.toUInt16.toUInt32.toInt32 = c
  have h1 := c_i2c c
  have r := rng32 c
  rw [Int32.lt_iff_toInt_lt, Int32.lt_iff_toInt_lt] at h
  have e0 : (0 : Int32).toInt = 0 := rfl
  have e1 : (255 : Int32).toInt = 255 := rfl
  rw [← Int32.toInt_inj]
  omega
abbrev own_lo (cs : List Int32) : List Int32 := cs.map (fun c => c.toInt8.toInt32)
theorem own_up {cs : List Int32} (h : ∀ c ∈ cs, ¬ c < 0 ∧ ¬ (255 : Int32) < c) : ∀ c ∈ cs, ¬ c < 0 ∧ ¬ (65535 : Int32) < c := fun c hc => ⟨(h c hc).1, fun q => (h c hc).2 (by
  rw [Int32.lt_iff_toInt_lt] at q ⊢
  have e0 : (255 : Int32).toInt = 255 := rfl
  have e1 : (65535 : Int32).toInt = 65535 := rfl
  omega)⟩
def StrAt (Z : State) (h : Heap) (x t : Addr) (kb : ClassId) (cs : List Int32) : Prop := Exa Z h x "java/lang/String" ∧ Fld Z h x "java/lang/String" "coder" "B" (.int 0) ∧ Fld Z h x "java/lang/String" "value" "[B" (.ref t) ∧ Arv Z h t kb .byte (Int32.ofNat cs.length) ((own_lo cs).map Value.int) (.int 0)
section OwnStr
variable {Z : State} {h h' : Heap} {x t a : Addr} {kb : ClassId} {cs ds : List Int32} {ws : List Addr} {sl : Nat} {v : Value}
theorem StrAt.ext (S : StrAt Z h x t kb cs) (E : Ext h h') : StrAt Z h' x t kb cs := ⟨S.1.ext E, S.2.1.ext E, S.2.2.1.ext E, S.2.2.2.ext E⟩
theorem StrAt.keep (S : StrAt Z h x t kb cs) (K : Keep h h' ws) (hx : x ∉ ws) (ht : t ∉ ws) : StrAt Z h' x t kb cs := ⟨S.1.keep K, S.2.1.keep K hx, S.2.2.1.keep K hx, S.2.2.2.keep K ht⟩
theorem StrAt.wr (S : StrAt Z h x t kb cs) (W : Wr h h' a sl v) (hx : x ≠ a) (ht : t ≠ a) : StrAt Z h' x t kb cs := ⟨S.1.wr W, S.2.1.other W (Or.inl hx), S.2.2.1.other W (Or.inl hx), S.2.2.2.other W ht⟩
theorem StrAt.ltx (S : StrAt Z h x t kb cs) : x < h.size := S.1.lt
theorem StrAt.ltt (S : StrAt Z h x t kb cs) : t < h.size := S.2.2.2.lt
theorem own_eqv {w : Option Value} (q : (w = some (.int 1) ∧ cs = ds) ∨ (w = some (.int 0) ∧ ¬ cs = ds)) : w = some (.int (if cs = ds then (1 : Int32) else (0 : Int32))) := by
  rcases q with ⟨q1, q2⟩ | ⟨q1, q2⟩
  · rw [if_pos q2]; exact q1
  · rw [if_neg q2]; exact q1
end OwnStr
theorem own_hwords {Z : State} {a0 : Array Value} (hw : ∀ d ∈ tables_1, d.before a0 Z = true) : ∀ d ∈ StrChars.Road.words, d.before a0 Z = true := fun d hd => hw d ((by decide +kernel : ∀ d ∈ StrChars.Road.words, d ∈ tables_1) d hd)
theorem own_hwordsLen {Z : State} {a0 : Array Value} (hw : ∀ d ∈ tables_1, d.before a0 Z = true) : ∀ d ∈ StrChars.Road.wordsLen, d.before a0 Z = true := fun d hd => hw d ((by decide +kernel : ∀ d ∈ StrChars.Road.wordsLen, d ∈ tables_1) d hd)
theorem own_hwordsChN {Z : State} {a0 : Array Value} (hw : ∀ d ∈ tables_1, d.before a0 Z = true) : ∀ d ∈ StrChars.Road.wordsChN, d.before a0 Z = true := fun d hd => hw d ((by decide +kernel : ∀ d ∈ StrChars.Road.wordsChN, d ∈ tables_1) d hd)
theorem own_hwordsEq {Z : State} {a0 : Array Value} (hw : ∀ d ∈ tables_1, d.before a0 Z = true) : ∀ d ∈ StrChars.Road.wordsEq, d.before a0 Z = true := fun d hd => hw d ((by decide +kernel : ∀ d ∈ StrChars.Road.wordsEq, d ∈ tables_1) d hd)
theorem own_hwordsEmp {Z : State} {a0 : Array Value} (hw : ∀ d ∈ tables_1, d.before a0 Z = true) : ∀ d ∈ StrChars.Road.wordsEmp, d.before a0 Z = true := fun d hd => hw d ((by decide +kernel : ∀ d ∈ StrChars.Road.wordsEmp, d ∈ tables_1) d hd)
theorem own_cod {cs : List Int32} (hp : ∀ c ∈ cs, ¬ c < 0 ∧ ¬ (255 : Int32) < c) : StrChars.Road.CodA cs 0 (Int32.ofNat cs.length) ((own_lo cs).map Value.int) := StrChars.Road.codOf (n := cs.length) rfl (fun c hc => (hp c hc).2)
theorem own_hwS {Z : State} {a0 : Array Value} (hw : ∀ d ∈ tables_1, d.before a0 Z = true) : ∀ a ∈ Bundle.stringAtoms, a.before a0 Z = true := fun d hd => hw d ((by decide +kernel : ∀ d ∈ Bundle.stringAtoms, d ∈ tables_1) d hd)

def own_ch (p : Int32) (q : Int32)  : Int32 := (nar .char (((32 : Int32) + ((((p.toUInt32 >>> (q &&& 31).toUInt32).toInt32) &&& (255 : Int32)) % (95 : Int32))).toUInt32.toUInt16.toUInt32.toInt32))
theorem d1_0 : decode method_2_code 0 = .ok (.iload_n 0, 1) := by decide +kernel
theorem d1_1 : decode method_2_code 1 = .ok (.iload_n 1, 1) := by decide +kernel
theorem d1_2 : decode method_2_code 2 = .ok (.iushr, 1) := by decide +kernel
theorem d1_3 : decode method_2_code 3 = .ok (.sipush 255, 3) := by decide +kernel
theorem d1_6 : decode method_2_code 6 = .ok (.iand, 1) := by decide +kernel
theorem d1_7 : decode method_2_code 7 = .ok (.bipush 95, 2) := by decide +kernel
theorem d1_9 : decode method_2_code 9 = .ok (.irem, 1) := by decide +kernel
theorem d1_10 : decode method_2_code 10 = .ok (.istore_n 2, 1) := by decide +kernel
theorem d1_11 : decode method_2_code 11 = .ok (.bipush 32, 2) := by decide +kernel
theorem d1_13 : decode method_2_code 13 = .ok (.iload_n 2, 1) := by decide +kernel
theorem d1_14 : decode method_2_code 14 = .ok (.iadd, 1) := by decide +kernel
theorem d1_15 : decode method_2_code 15 = .ok (.i2c, 1) := by decide +kernel
theorem d1_16 : decode method_2_code 16 = .ok (.ireturn, 1) := by decide +kernel
theorem pn_1 : plainName "com/example/safe_retries/saferetries/identity/IdempotencyKeyEqualsPinLaw" = true := by first | (simp [plainName, overriddenIn]; done) | decide +kernel
theorem ef_rm1 (m_ : MethodId) (p : Int32) (q : Int32) : entryFrame m_ #[(.int p), (.int q)] 3 = mkF m_ 0 #[.val (.int p), .val (.int q), .unset] [] := by first | (simp [entryFrame, mkF, argsToLocals, Value.category]; done) | rfl
def Q1 (Z : State) (p : Int32) (q : Int32)  (h0 : Heap) (n0 : Nat) (v : Option Value) (h : Heap) (L : List Loc) : Prop := v = some (.int (own_ch p q)) ∧ Fr n0 L ∧ h = h0
set_option maxRecDepth 65536 in
set_option maxHeartbeats 40000000 in
theorem rm1 (l : Launch) (Z : State) (a0 : Array Value) (hw : ∀ d ∈ tables_1, d.before a0 Z = true) (ws : List Jvm.Cond) (p : Int32) (q : Int32)  (h0 : Heap) (n0 : Nat) (Z0 : n0 ≤ h0.size)  :
    MetFree l (⟨"com/example/safe_retries/saferetries/identity/IdempotencyKeyEqualsPinLaw", "ch", "(II)C"⟩ : MethodName) (head1 (Jvm.Cond.code (⟨"com/example/safe_retries/saferetries/identity/IdempotencyKeyEqualsPinLaw", "ch", "(II)C"⟩ : MethodName) method_2_code 3 (some .char) :: ws) ({ frames := 0, cells := 0, slots := 0, locals := 0 } : Room)) (fun a_ U_ => a_ = #[(.int p), (.int q)] ∧ Z.Warmed39 U_.vm ∧ U_.heap = h0) (fun _ _ _ _ _ => True) (fun _ U_ o_ V_ => ∃ v_ L_, o_ = .returned v_ ∧ Q1 Z p q h0 n0 v_ V_.heap L_ ∧ FrameEnd U_ o_ V_ L_ ({ frames := 0, cells := 0, slots := 0, locals := 0 } : Room).cells ({ frames := 0, cells := 0, slots := 0, locals := 0 } : Room).slots) := by
  refine metOf (Q := Q1 Z p q h0 n0) (plainFor_of_name pn_1) ?_
  intro p_ e_ s_ m_ below meth c_ s₁ X0 hx hby hml hret hlk hZ hown hnm e0
  rw [ef_rm1]
  have N0 := Fr.nil n0
  show Go p_ e_ below _ _ s₁ (mkF m_ 0 #[.val (.int p), .val (.int q), .unset] [])
  refine Go.iloadN X0 hx (hb hby d1_0) rfl ?_
  refine Go.iloadN X0 hx (hb hby d1_1) rfl ?_
  refine Go.iushr X0 hx (hb hby d1_2) ?_
  refine Go.sipush X0 hx (255 : Int32) (hb hby d1_3) rfl ?_
  refine Go.iand X0 hx (hb hby d1_6) ?_
  refine Go.bipush X0 hx (95 : Int32) (hb hby d1_7) rfl ?_
  refine Go.irem X0 hx (hb hby d1_9) (by decide) ?_
  refine Go.istoreN X0 hx (l' := #[.val (.int p), .val (.int q), .val (.int ((((p.toUInt32 >>> (q &&& 31).toUInt32).toInt32) &&& (255 : Int32)) % (95 : Int32)))]) (hb hby d1_10) rfl ?_
  refine Go.bipush X0 hx (32 : Int32) (hb hby d1_11) rfl ?_
  refine Go.iloadN X0 hx (hb hby d1_13) rfl ?_
  refine Go.iadd X0 hx (hb hby d1_14) ?_
  refine Go.i2c X0 hx (hb hby d1_15) ?_
  refine Go.retN X0 hx hret hlk (by simp) (hb hby d1_16) (by decide) (by decide) ?_
  exact ⟨by unfold own_ch; rfl, N0, e0⟩
theorem own_chr (p q : Int32) : 32 ≤ (own_ch p q).toInt ∧ (own_ch p q).toInt ≤ 126 := by
  unfold own_ch
  show 32 ≤ ((_ : Int32).toUInt32.toUInt16.toUInt32.toInt32).toInt ∧ ((_ : Int32).toUInt32.toUInt16.toUInt32.toInt32).toInt ≤ 126
  generalize hy : (p.toUInt32 >>> (q &&& 31).toUInt32).toInt32 = y
  have h1 : (y &&& 255).toInt = y.toInt % (2 ^ 8 : Nat) := c_mask y 255 8 (by decide) (by decide)
  have h2 := c_irem (y &&& 255) 95 95 (by decide)
  have h3 := c_iadd 32 ((y &&& 255) % 95)
  have e1 : (32 : Int32).toInt = 32 := rfl
  have r := rng32 (32 + (y &&& 255) % 95)
  have h4 := c_i2c (32 + (y &&& 255) % 95)
  have h5 := c_i2c ((32 + (y &&& 255) % 95).toUInt32.toUInt16.toUInt32.toInt32)
  omega
theorem own_pr {c : Int32} (h : 32 ≤ c.toInt ∧ c.toInt ≤ 126) : (¬ c < 0 ∧ ¬ (255 : Int32) < c) ∧ ¬ c < (32 : Int32) ∧ ¬ (126 : Int32) < c := by
  simp only [Int32.lt_iff_toInt_lt]
  have e0 : (0 : Int32).toInt = 0 := rfl
  have e1 : (32 : Int32).toInt = 32 := rfl
  have e2 : (126 : Int32).toInt = 126 := rfl
  have e3 : (255 : Int32).toInt = 255 := rfl
  omega
def own_cs (n a b c : Int32) : List Int32 := if n = (1 : Int32) then [a] else if n = (2 : Int32) then [a, b] else [a, b, c]
theorem own_all {P : Int32 → Prop} {n a b c : Int32} (ha : P a) (hb : P b) (hc : P c) : ∀ x ∈ own_cs n a b c, P x := by
  unfold own_cs
  intro x hx
  split at hx
  · simp only [List.mem_cons, List.not_mem_nil, or_false] at hx; subst hx; exact ha
  · split at hx
    · simp only [List.mem_cons, List.not_mem_nil, or_false] at hx; rcases hx with rfl | rfl <;> assumption
    · simp only [List.mem_cons, List.not_mem_nil, or_false] at hx; rcases hx with rfl | rfl | rfl <;> assumption
theorem own_csl (n a b c : Int32) : 0 < (own_cs n a b c).length ∧ (own_cs n a b c).length ≤ 3 := by
  unfold own_cs
  split
  · exact ⟨by simp, by simp⟩
  · split
    · exact ⟨by simp, by simp⟩
    · exact ⟨by simp, by simp⟩
theorem own_mem1 {P : Int32 → Prop} {a : Int32} (h : P a) : ∀ x ∈ [a], P x := by intro x hx; simp only [List.mem_cons, List.not_mem_nil, or_false] at hx; subst hx; exact h
theorem own_mem2 {P : Int32 → Prop} {a b : Int32} (h : P a) (h2 : P b) : ∀ x ∈ [a, b], P x := by intro x hx; simp only [List.mem_cons, List.not_mem_nil, or_false] at hx; rcases hx with rfl | rfl <;> assumption
theorem own_mem3 {P : Int32 → Prop} {a b c : Int32} (h : P a) (h2 : P b) (h3 : P c) : ∀ x ∈ [a, b, c], P x := by intro x hx; simp only [List.mem_cons, List.not_mem_nil, or_false] at hx; rcases hx with rfl | rfl | rfl <;> assumption
theorem pd_oACcV : parseMethodDescriptor "([C)V" = some ⟨[(.array .char)], none⟩ := by decide +kernel
theorem d2_0 : decode method_3_code 0 = .ok (.iload_n 0, 1) := by decide +kernel
theorem d2_1 : decode method_3_code 1 = .ok (.iconst 1, 1) := by decide +kernel
theorem d2_2 : decode method_3_code 2 = .ok (.if_icmp .ne 18, 3) := by decide +kernel
theorem d2_5 : decode method_3_code 5 = .ok (.new 7, 3) := by decide +kernel
theorem d2_8 : decode method_3_code 8 = .ok (.dup, 1) := by decide +kernel
theorem d2_9 : decode method_3_code 9 = .ok (.iconst 1, 1) := by decide +kernel
theorem d2_10 : decode method_3_code 10 = .ok (.newarray .char, 2) := by decide +kernel
theorem d2_12 : decode method_3_code 12 = .ok (.dup, 1) := by decide +kernel
theorem d2_13 : decode method_3_code 13 = .ok (.iconst 0, 1) := by decide +kernel
theorem d2_14 : decode method_3_code 14 = .ok (.iload_n 1, 1) := by decide +kernel
theorem d2_15 : decode method_3_code 15 = .ok (.castore, 1) := by decide +kernel
theorem d2_16 : decode method_3_code 16 = .ok (.invokespecial 9, 3) := by decide +kernel
theorem d2_19 : decode method_3_code 19 = .ok (.areturn, 1) := by decide +kernel
theorem d2_20 : decode method_3_code 20 = .ok (.iload_n 0, 1) := by decide +kernel
theorem d2_21 : decode method_3_code 21 = .ok (.iconst 2, 1) := by decide +kernel
theorem d2_22 : decode method_3_code 22 = .ok (.if_icmp .ne 22, 3) := by decide +kernel
theorem d2_25 : decode method_3_code 25 = .ok (.new 7, 3) := by decide +kernel
theorem d2_28 : decode method_3_code 28 = .ok (.dup, 1) := by decide +kernel
theorem d2_29 : decode method_3_code 29 = .ok (.iconst 2, 1) := by decide +kernel
theorem d2_30 : decode method_3_code 30 = .ok (.newarray .char, 2) := by decide +kernel
theorem d2_32 : decode method_3_code 32 = .ok (.dup, 1) := by decide +kernel
theorem d2_33 : decode method_3_code 33 = .ok (.iconst 0, 1) := by decide +kernel
theorem d2_34 : decode method_3_code 34 = .ok (.iload_n 1, 1) := by decide +kernel
theorem d2_35 : decode method_3_code 35 = .ok (.castore, 1) := by decide +kernel
theorem d2_36 : decode method_3_code 36 = .ok (.dup, 1) := by decide +kernel
theorem d2_37 : decode method_3_code 37 = .ok (.iconst 1, 1) := by decide +kernel
theorem d2_38 : decode method_3_code 38 = .ok (.iload_n 2, 1) := by decide +kernel
theorem d2_39 : decode method_3_code 39 = .ok (.castore, 1) := by decide +kernel
theorem d2_40 : decode method_3_code 40 = .ok (.invokespecial 9, 3) := by decide +kernel
theorem d2_43 : decode method_3_code 43 = .ok (.areturn, 1) := by decide +kernel
theorem d2_44 : decode method_3_code 44 = .ok (.new 7, 3) := by decide +kernel
theorem d2_47 : decode method_3_code 47 = .ok (.dup, 1) := by decide +kernel
theorem d2_48 : decode method_3_code 48 = .ok (.iconst 3, 1) := by decide +kernel
theorem d2_49 : decode method_3_code 49 = .ok (.newarray .char, 2) := by decide +kernel
theorem d2_51 : decode method_3_code 51 = .ok (.dup, 1) := by decide +kernel
theorem d2_52 : decode method_3_code 52 = .ok (.iconst 0, 1) := by decide +kernel
theorem d2_53 : decode method_3_code 53 = .ok (.iload_n 1, 1) := by decide +kernel
theorem d2_54 : decode method_3_code 54 = .ok (.castore, 1) := by decide +kernel
theorem d2_55 : decode method_3_code 55 = .ok (.dup, 1) := by decide +kernel
theorem d2_56 : decode method_3_code 56 = .ok (.iconst 1, 1) := by decide +kernel
theorem d2_57 : decode method_3_code 57 = .ok (.iload_n 2, 1) := by decide +kernel
theorem d2_58 : decode method_3_code 58 = .ok (.castore, 1) := by decide +kernel
theorem d2_59 : decode method_3_code 59 = .ok (.dup, 1) := by decide +kernel
theorem d2_60 : decode method_3_code 60 = .ok (.iconst 2, 1) := by decide +kernel
theorem d2_61 : decode method_3_code 61 = .ok (.iload_n 3, 1) := by decide +kernel
theorem d2_62 : decode method_3_code 62 = .ok (.castore, 1) := by decide +kernel
theorem d2_63 : decode method_3_code 63 = .ok (.invokespecial 9, 3) := by decide +kernel
theorem d2_66 : decode method_3_code 66 = .ok (.areturn, 1) := by decide +kernel
theorem pn_2 : plainName "com/example/safe_retries/saferetries/identity/IdempotencyKeyEqualsPinLaw" = true := by first | (simp [plainName, overriddenIn]; done) | decide +kernel
theorem ef_rm2 (m_ : MethodId) (p0 : Int32) (c1 : Int32) (c2 : Int32) (c3 : Int32) : entryFrame m_ #[(.int p0), (.int c1), (.int c2), (.int c3)] 4 = mkF m_ 0 #[.val (.int p0), .val (.int c1), .val (.int c2), .val (.int c3)] [] := by first | (simp [entryFrame, mkF, argsToLocals, Value.category]; done) | rfl
def Q2 (Z : State) (p0 : Int32) (c1 : Int32) (c2 : Int32) (c3 : Int32) (zc : Int32) (h0 : Heap) (n0 : Nat) (v : Option Value) (h : Heap) (L : List Loc) : Prop := ∃ x t kb, v = some (.ref x) ∧ Fr n0 L ∧ Keep h0 h [] ∧ n0 ≤ x ∧ n0 ≤ t ∧ h0.size ≤ x ∧ h0.size ≤ t ∧ ¬ t = x ∧ StrAt Z h x t kb (own_cs p0 c1 c2 c3)
set_option maxRecDepth 65536 in
set_option maxHeartbeats 40000000 in
theorem rm2 (l : Launch) (Z : State) (a0 : Array Value) (hw : ∀ d ∈ tables_1, d.before a0 Z = true) (ws : List Jvm.Cond) (p0 : Int32) (c1 : Int32) (c2 : Int32) (c3 : Int32) (zc : Int32) (h0 : Heap) (n0 : Nat) (Z0 : n0 ≤ h0.size) (O : Old Z n0 h0) (Sco : Sta Z Z.heap "java/lang/String" "COMPACT_STRINGS" "Z" (.int zc)) (hzc : ¬ zc = 0) (r1 : ¬ c1 < 0 ∧ ¬ (255 : Int32) < c1) (r2 : ¬ c2 < 0 ∧ ¬ (255 : Int32) < c2) (r3 : ¬ c3 < 0 ∧ ¬ (255 : Int32) < c3) :
    MetFree l (⟨"com/example/safe_retries/saferetries/identity/IdempotencyKeyEqualsPinLaw", "mk", "(ICCC)Ljava/lang/String;"⟩ : MethodName) (head1 (Jvm.Cond.code (⟨"com/example/safe_retries/saferetries/identity/IdempotencyKeyEqualsPinLaw", "mk", "(ICCC)Ljava/lang/String;"⟩ : MethodName) method_3_code 4 (some (.object "java/lang/String")) :: ws) ({ frames := 4, cells := 3, slots := 10, locals := 66 } : Room)) (fun a_ U_ => a_ = #[(.int p0), (.int c1), (.int c2), (.int c3)] ∧ Z.Warmed39 U_.vm ∧ U_.heap = h0) (fun _ _ _ _ _ => True) (fun _ U_ o_ V_ => ∃ v_ L_, o_ = .returned v_ ∧ Q2 Z p0 c1 c2 c3 zc h0 n0 v_ V_.heap L_ ∧ FrameEnd U_ o_ V_ L_ ({ frames := 4, cells := 3, slots := 10, locals := 66 } : Room).cells ({ frames := 4, cells := 3, slots := 10, locals := 66 } : Room).slots) := by
  refine metOf (Q := Q2 Z p0 c1 c2 c3 zc h0 n0) (plainFor_of_name pn_2) ?_
  intro p_ e_ s_ m_ below meth c_ s₁ X0 hx hby hml hret hlk hZ hown hnm e0
  rw [ef_rm2]
  have N0 := Fr.nil n0
  show Go p_ e_ below _ _ s₁ (mkF m_ 0 #[.val (.int p0), .val (.int c1), .val (.int c2), .val (.int c3)] [])
  refine Go.iloadN X0 hx (hb hby d2_0) rfl ?_
  refine Go.iconst X0 hx (1 : Int32) (hb hby d2_1) rfl ?_
  by_cases hc2_1 : p0 = (1 : Int32)
  · skip
    refine Go.icmpNo X0 hx (hb hby d2_2) (teq hc2_1).2 ?_
    show Go p_ e_ below _ _ s₁ (mkF m_ 5 #[.val (.int p0), .val (.int c1), .val (.int c2), .val (.int c3)] [])
    refine Go.newO X0 hx hZ hown (hw _ (List.mem_of_getElem? (i := 7) rfl)) (hw _ (List.mem_of_getElem? (i := 8) rfl)) (hw _ (List.mem_of_getElem? (i := 9) rfl)) e0 (hb hby d2_5) (by decide) (by decide) ?_
    intro T2 h2 b2 zq2 X2 e2 E2 A2 D2
    have g_b2 : n0 ≤ b2 := Nat.le_trans Z0 (Nat.le_of_eq zq2.symm)
    have Z2 : n0 ≤ h2.size := Nat.le_trans Z0 E2.1
    have sz_b2 : h0.size ≤ b2 := Nat.le_trans (Keep.refl h0 []).1 (Nat.le_of_eq zq2.symm)
    have K2 : Keep h0 h2 [] := (Keep.refl h0 []).ext E2
    have O_2_ := O.ext E2
    have F_b2_coder : Fld Z h2 b2 "java/lang/String" "coder" "B" (.int (0 : Int32)) := D2 (Or.inr (hw _ (List.mem_of_getElem? (i := 34) rfl))) (ty := .byte) (by decide)
    have F_b2_value : Fld Z h2 b2 "java/lang/String" "value" "[B" .null := D2 (Or.inr (hw _ (List.mem_of_getElem? (i := 36) rfl))) (ty := (.array .byte)) (by decide)
    show Go p_ e_ below _ _ T2 (mkF m_ 8 #[.val (.int p0), .val (.int c1), .val (.int c2), .val (.int c3)] [(.ref b2)])
    refine Go.dup X2 hx (hb hby d2_8) rfl ?_
    refine Go.iconst X2 hx (1 : Int32) (hb hby d2_9) rfl ?_
    refine Go.newP X2 hx hZ (hw _ (List.mem_of_getElem? (i := 10) rfl)) e2 (hb hby d2_10) (by decide) (cap := 1) (by decide) (by decide) (by decide) (by decide) ?_
    intro T3 h3 kc3 b3 zq3 X3 e3 E3 A3
    have ne_b2_b3 : b2 ≠ b3 := Nat.ne_of_lt (Nat.lt_of_lt_of_le A2.lt (Nat.le_of_eq zq3.symm))
    have g_b3 : n0 ≤ b3 := Nat.le_trans Z2 (Nat.le_of_eq zq3.symm)
    have Z3 : n0 ≤ h3.size := Nat.le_trans Z2 E3.1
    have sz_b3 : h0.size ≤ b3 := Nat.le_trans K2.1 (Nat.le_of_eq zq3.symm)
    have K3 : Keep h0 h3 [] := K2.ext E3
    have O_3_ := O_2_.ext E3
    have E_3_b2 := A2.ext E3
    have F_3_b2_coder := F_b2_coder.ext E3
    have F_3_b2_value := F_b2_value.ext E3
    have V3 : Arv Z h3 b3 kc3 .char (1 : Int32) [(.int (0 : Int32))] (.int (0 : Int32)) := (Arv.new A3 (by decide)).pad (pad_rep [] (.int (0 : Int32)) 1)
    show Go p_ e_ below _ _ T3 (mkF m_ 12 #[.val (.int p0), .val (.int c1), .val (.int c2), .val (.int c3)] [(.ref b3), (.ref b2), (.ref b2)])
    refine Go.dup X3 hx (hb hby d2_12) rfl ?_
    refine Go.iconst X3 hx (0 : Int32) (hb hby d2_13) rfl ?_
    refine Go.iloadN X3 hx (hb hby d2_14) rfl ?_
    obtain ⟨cl4, Ar4, q4, S4, M4, H4, G4⟩ := V3
    refine Go.stC X3 hx hZ e3 Ar4 (inb_of S4 ⟨by decide, by decide⟩) (hb hby d2_15) ?_
    intro T4 h4 X4 e4 W4
    have N4 := Fr.snoc X4 N0 g_b3
    have V4 : Arv Z h4 b3 kc3 .char (1 : Int32) [(.int (nar .char c1))] (.int (0 : Int32)) := Arv.set Ar4 q4 S4 M4 H4 G4 (fits_nar_char _) W4 0 rfl (Nat.le_of_ble_eq_true rfl)
    rw [own_nar r1] at V4
    have O_4_ := O_3_.wr W4 g_b3
    have E_4_b2 := E_3_b2.wr W4
    have F_4_b2_coder := F_3_b2_coder.other W4 (Or.inl ne_b2_b3)
    have F_4_b2_value := F_3_b2_value.other W4 (Or.inl ne_b2_b3)
    have Z4 : n0 ≤ h4.size := (by rw [W4.size]; exact Z3)
    have K4 : Keep h0 h4 [] := K3.wr W4 (Or.inr sz_b3)
    show Go p_ e_ below _ _ T4 (mkF m_ 16 #[.val (.int p0), .val (.int c1), .val (.int c2), .val (.int c3)] [(.ref b3), (.ref b2), (.ref b2)])
    refine Go.callIB X4 hx hZ (StrChars.Road.backV (W := 1) hZ (own_hwords hw) (kI := 4) (hw _ (List.mem_of_getElem? (i := 8) rfl)) (cs := [c1]) (bs := own_lo [c1]) (n := 1) g_b2 Z4 E_4_b2 F_4_b2_value F_4_b2_coder V4 (Sco.ext O_4_.2) hzc rfl rfl (by decide) (by decide) (own_mem1 (P := fun c => ¬ c < 0 ∧ ¬ (255 : Int32) < c) r1) rfl (by decide) (by decide)) rfl hown (hw _ (List.mem_of_getElem? (i := 11) rfl)) (hw _ (List.mem_of_getElem? (i := 12) rfl)) (hw _ (List.mem_of_getElem? (i := 13) rfl)) (by decide) e4 (a := b2) (by rw [hml]; rfl) (argsL := [(.ref b3)]) (S := [(.ref b2)]) (Nat.le_of_ble_eq_true rfl) (by decide) (by decide) pd_oACcV rfl rfl (hb hby d2_16) ?_
    rintro _ T5 L5 X5 ⟨rfl, N5q, K5, E5, C5, t5, kb5, g_t5, zs5, ne5, Fv5, V5⟩
    have N5 := Fr.app N4 N5q
    have ne_b2_t5 : b2 ≠ t5 := Nat.ne_of_lt (Nat.lt_of_lt_of_le E_4_b2.lt zs5)
    have ne_b3_t5 : b3 ≠ t5 := Nat.ne_of_lt (Nat.lt_of_lt_of_le V4.lt zs5)
    have sz_t5 : h0.size ≤ t5 := Nat.le_trans K4.1 zs5
    have O_5_ := O_4_.keep K5 (allS g_b2 all0)
    have V_5_b3 := V4.keep K5 (ninS (Ne.symm ne_b2_b3) nin0)
    have Z5 : n0 ≤ T5.heap.size := Nat.le_trans Z4 K5.1
    have KK5 : Keep h0 T5.heap [] := K4.trans K5 (allS (Or.inr sz_b2) all0)
    have S_b2 : StrAt Z T5.heap b2 t5 kb5 [c1] := ⟨E5, C5, Fv5, V5⟩
    show Go p_ e_ below _ _ T5 (mkF m_ 19 #[.val (.int p0), .val (.int c1), .val (.int c2), .val (.int c3)] [(.ref b2)])
    refine Go.retA X5 hx hret hlk rfl rfl rfl (hb hby d2_19) (by decide) (by decide) ?_
    exact ⟨_, _, _, rfl, N5, KK5, g_b2, g_t5, sz_b2, sz_t5, ne5, by unfold own_cs; rw [if_pos hc2_1]; exact S_b2⟩
  · skip
    refine Go.icmpYes X0 hx (pc' := 20) (hb hby d2_2) (feq hc2_1).2 (by decide) (by decide) ?_
    show Go p_ e_ below _ _ s₁ (mkF m_ 20 #[.val (.int p0), .val (.int c1), .val (.int c2), .val (.int c3)] [])
    refine Go.iloadN X0 hx (hb hby d2_20) rfl ?_
    refine Go.iconst X0 hx (2 : Int32) (hb hby d2_21) rfl ?_
    by_cases hc22_6 : p0 = (2 : Int32)
    · skip
      refine Go.icmpNo X0 hx (hb hby d2_22) (teq hc22_6).2 ?_
      show Go p_ e_ below _ _ s₁ (mkF m_ 25 #[.val (.int p0), .val (.int c1), .val (.int c2), .val (.int c3)] [])
      refine Go.newO X0 hx hZ hown (hw _ (List.mem_of_getElem? (i := 7) rfl)) (hw _ (List.mem_of_getElem? (i := 8) rfl)) (hw _ (List.mem_of_getElem? (i := 9) rfl)) e0 (hb hby d2_25) (by decide) (by decide) ?_
      intro T7 h7 b7 zq7 X7 e7 E7 A7 D7
      have g_b7 : n0 ≤ b7 := Nat.le_trans Z0 (Nat.le_of_eq zq7.symm)
      have Z7 : n0 ≤ h7.size := Nat.le_trans Z0 E7.1
      have sz_b7 : h0.size ≤ b7 := Nat.le_trans (Keep.refl h0 []).1 (Nat.le_of_eq zq7.symm)
      have K7 : Keep h0 h7 [] := (Keep.refl h0 []).ext E7
      have O_7_ := O.ext E7
      have F_b7_coder : Fld Z h7 b7 "java/lang/String" "coder" "B" (.int (0 : Int32)) := D7 (Or.inr (hw _ (List.mem_of_getElem? (i := 34) rfl))) (ty := .byte) (by decide)
      have F_b7_value : Fld Z h7 b7 "java/lang/String" "value" "[B" .null := D7 (Or.inr (hw _ (List.mem_of_getElem? (i := 36) rfl))) (ty := (.array .byte)) (by decide)
      show Go p_ e_ below _ _ T7 (mkF m_ 28 #[.val (.int p0), .val (.int c1), .val (.int c2), .val (.int c3)] [(.ref b7)])
      refine Go.dup X7 hx (hb hby d2_28) rfl ?_
      refine Go.iconst X7 hx (2 : Int32) (hb hby d2_29) rfl ?_
      refine Go.newP X7 hx hZ (hw _ (List.mem_of_getElem? (i := 10) rfl)) e7 (hb hby d2_30) (by decide) (cap := 2) (by decide) (by decide) (by decide) (by decide) ?_
      intro T8 h8 kc8 b8 zq8 X8 e8 E8 A8
      have ne_b7_b8 : b7 ≠ b8 := Nat.ne_of_lt (Nat.lt_of_lt_of_le A7.lt (Nat.le_of_eq zq8.symm))
      have g_b8 : n0 ≤ b8 := Nat.le_trans Z7 (Nat.le_of_eq zq8.symm)
      have Z8 : n0 ≤ h8.size := Nat.le_trans Z7 E8.1
      have sz_b8 : h0.size ≤ b8 := Nat.le_trans K7.1 (Nat.le_of_eq zq8.symm)
      have K8 : Keep h0 h8 [] := K7.ext E8
      have O_8_ := O_7_.ext E8
      have E_8_b7 := A7.ext E8
      have F_8_b7_coder := F_b7_coder.ext E8
      have F_8_b7_value := F_b7_value.ext E8
      have V8 : Arv Z h8 b8 kc8 .char (2 : Int32) [(.int (0 : Int32)), (.int (0 : Int32))] (.int (0 : Int32)) := (Arv.new A8 (by decide)).pad (pad_rep [] (.int (0 : Int32)) 2)
      show Go p_ e_ below _ _ T8 (mkF m_ 32 #[.val (.int p0), .val (.int c1), .val (.int c2), .val (.int c3)] [(.ref b8), (.ref b7), (.ref b7)])
      refine Go.dup X8 hx (hb hby d2_32) rfl ?_
      refine Go.iconst X8 hx (0 : Int32) (hb hby d2_33) rfl ?_
      refine Go.iloadN X8 hx (hb hby d2_34) rfl ?_
      obtain ⟨cl9, Ar9, q9, S9, M9, H9, G9⟩ := V8
      refine Go.stC X8 hx hZ e8 Ar9 (inb_of S9 ⟨by decide, by decide⟩) (hb hby d2_35) ?_
      intro T9 h9 X9 e9 W9
      have N9 := Fr.snoc X9 N0 g_b8
      have V9 : Arv Z h9 b8 kc8 .char (2 : Int32) [(.int (nar .char c1)), (.int (0 : Int32))] (.int (0 : Int32)) := Arv.set Ar9 q9 S9 M9 H9 G9 (fits_nar_char _) W9 0 rfl (Nat.le_of_ble_eq_true rfl)
      rw [own_nar r1] at V9
      have O_9_ := O_8_.wr W9 g_b8
      have E_9_b7 := E_8_b7.wr W9
      have F_9_b7_coder := F_8_b7_coder.other W9 (Or.inl ne_b7_b8)
      have F_9_b7_value := F_8_b7_value.other W9 (Or.inl ne_b7_b8)
      have Z9 : n0 ≤ h9.size := (by rw [W9.size]; exact Z8)
      have K9 : Keep h0 h9 [] := K8.wr W9 (Or.inr sz_b8)
      show Go p_ e_ below _ _ T9 (mkF m_ 36 #[.val (.int p0), .val (.int c1), .val (.int c2), .val (.int c3)] [(.ref b8), (.ref b7), (.ref b7)])
      refine Go.dup X9 hx (hb hby d2_36) rfl ?_
      refine Go.iconst X9 hx (1 : Int32) (hb hby d2_37) rfl ?_
      refine Go.iloadN X9 hx (hb hby d2_38) rfl ?_
      obtain ⟨cl10, Ar10, q10, S10, M10, H10, G10⟩ := V9
      refine Go.stC X9 hx hZ e9 Ar10 (inb_of S10 ⟨by decide, by decide⟩) (hb hby d2_39) ?_
      intro T10 h10 X10 e10 W10
      have N10 := Fr.snoc X10 N9 g_b8
      have V10 : Arv Z h10 b8 kc8 .char (2 : Int32) [(.int c1), (.int (nar .char c2))] (.int (0 : Int32)) := Arv.set Ar10 q10 S10 M10 H10 G10 (fits_nar_char _) W10 1 rfl (Nat.le_of_ble_eq_true rfl)
      rw [own_nar r2] at V10
      have O_10_ := O_9_.wr W10 g_b8
      have E_10_b7 := E_9_b7.wr W10
      have F_10_b7_coder := F_9_b7_coder.other W10 (Or.inl ne_b7_b8)
      have F_10_b7_value := F_9_b7_value.other W10 (Or.inl ne_b7_b8)
      have Z10 : n0 ≤ h10.size := (by rw [W10.size]; exact Z9)
      have K10 : Keep h0 h10 [] := K9.wr W10 (Or.inr sz_b8)
      show Go p_ e_ below _ _ T10 (mkF m_ 40 #[.val (.int p0), .val (.int c1), .val (.int c2), .val (.int c3)] [(.ref b8), (.ref b7), (.ref b7)])
      refine Go.callIB X10 hx hZ (StrChars.Road.backV (W := 1) hZ (own_hwords hw) (kI := 4) (hw _ (List.mem_of_getElem? (i := 8) rfl)) (cs := [c1, c2]) (bs := own_lo [c1, c2]) (n := 2) g_b7 Z10 E_10_b7 F_10_b7_value F_10_b7_coder V10 (Sco.ext O_10_.2) hzc rfl rfl (by decide) (by decide) (own_mem2 (P := fun c => ¬ c < 0 ∧ ¬ (255 : Int32) < c) r1 r2) rfl (by decide) (by decide)) rfl hown (hw _ (List.mem_of_getElem? (i := 11) rfl)) (hw _ (List.mem_of_getElem? (i := 12) rfl)) (hw _ (List.mem_of_getElem? (i := 13) rfl)) (by decide) e10 (a := b7) (by rw [hml]; rfl) (argsL := [(.ref b8)]) (S := [(.ref b7)]) (Nat.le_of_ble_eq_true rfl) (by decide) (by decide) pd_oACcV rfl rfl (hb hby d2_40) ?_
      rintro _ T11 L11 X11 ⟨rfl, N11q, K11, E11, C11, t11, kb11, g_t11, zs11, ne11, Fv11, V11⟩
      have N11 := Fr.app N10 N11q
      have ne_b7_t11 : b7 ≠ t11 := Nat.ne_of_lt (Nat.lt_of_lt_of_le E_10_b7.lt zs11)
      have ne_b8_t11 : b8 ≠ t11 := Nat.ne_of_lt (Nat.lt_of_lt_of_le V10.lt zs11)
      have sz_t11 : h0.size ≤ t11 := Nat.le_trans K10.1 zs11
      have O_11_ := O_10_.keep K11 (allS g_b7 all0)
      have V_11_b8 := V10.keep K11 (ninS (Ne.symm ne_b7_b8) nin0)
      have Z11 : n0 ≤ T11.heap.size := Nat.le_trans Z10 K11.1
      have KK11 : Keep h0 T11.heap [] := K10.trans K11 (allS (Or.inr sz_b7) all0)
      have S_b7 : StrAt Z T11.heap b7 t11 kb11 [c1, c2] := ⟨E11, C11, Fv11, V11⟩
      show Go p_ e_ below _ _ T11 (mkF m_ 43 #[.val (.int p0), .val (.int c1), .val (.int c2), .val (.int c3)] [(.ref b7)])
      refine Go.retA X11 hx hret hlk rfl rfl rfl (hb hby d2_43) (by decide) (by decide) ?_
      exact ⟨_, _, _, rfl, N11, KK11, g_b7, g_t11, sz_b7, sz_t11, ne11, by unfold own_cs; rw [if_neg hc2_1, if_pos hc22_6]; exact S_b7⟩
    · skip
      refine Go.icmpYes X0 hx (pc' := 44) (hb hby d2_22) (feq hc22_6).2 (by decide) (by decide) ?_
      show Go p_ e_ below _ _ s₁ (mkF m_ 44 #[.val (.int p0), .val (.int c1), .val (.int c2), .val (.int c3)] [])
      refine Go.newO X0 hx hZ hown (hw _ (List.mem_of_getElem? (i := 7) rfl)) (hw _ (List.mem_of_getElem? (i := 8) rfl)) (hw _ (List.mem_of_getElem? (i := 9) rfl)) e0 (hb hby d2_44) (by decide) (by decide) ?_
      intro T12 h12 b12 zq12 X12 e12 E12 A12 D12
      have g_b12 : n0 ≤ b12 := Nat.le_trans Z0 (Nat.le_of_eq zq12.symm)
      have Z12 : n0 ≤ h12.size := Nat.le_trans Z0 E12.1
      have sz_b12 : h0.size ≤ b12 := Nat.le_trans (Keep.refl h0 []).1 (Nat.le_of_eq zq12.symm)
      have K12 : Keep h0 h12 [] := (Keep.refl h0 []).ext E12
      have O_12_ := O.ext E12
      have F_b12_coder : Fld Z h12 b12 "java/lang/String" "coder" "B" (.int (0 : Int32)) := D12 (Or.inr (hw _ (List.mem_of_getElem? (i := 34) rfl))) (ty := .byte) (by decide)
      have F_b12_value : Fld Z h12 b12 "java/lang/String" "value" "[B" .null := D12 (Or.inr (hw _ (List.mem_of_getElem? (i := 36) rfl))) (ty := (.array .byte)) (by decide)
      show Go p_ e_ below _ _ T12 (mkF m_ 47 #[.val (.int p0), .val (.int c1), .val (.int c2), .val (.int c3)] [(.ref b12)])
      refine Go.dup X12 hx (hb hby d2_47) rfl ?_
      refine Go.iconst X12 hx (3 : Int32) (hb hby d2_48) rfl ?_
      refine Go.newP X12 hx hZ (hw _ (List.mem_of_getElem? (i := 10) rfl)) e12 (hb hby d2_49) (by decide) (cap := 3) (by decide) (by decide) (by decide) (by decide) ?_
      intro T13 h13 kc13 b13 zq13 X13 e13 E13 A13
      have ne_b12_b13 : b12 ≠ b13 := Nat.ne_of_lt (Nat.lt_of_lt_of_le A12.lt (Nat.le_of_eq zq13.symm))
      have g_b13 : n0 ≤ b13 := Nat.le_trans Z12 (Nat.le_of_eq zq13.symm)
      have Z13 : n0 ≤ h13.size := Nat.le_trans Z12 E13.1
      have sz_b13 : h0.size ≤ b13 := Nat.le_trans K12.1 (Nat.le_of_eq zq13.symm)
      have K13 : Keep h0 h13 [] := K12.ext E13
      have O_13_ := O_12_.ext E13
      have E_13_b12 := A12.ext E13
      have F_13_b12_coder := F_b12_coder.ext E13
      have F_13_b12_value := F_b12_value.ext E13
      have V13 : Arv Z h13 b13 kc13 .char (3 : Int32) [(.int (0 : Int32)), (.int (0 : Int32)), (.int (0 : Int32))] (.int (0 : Int32)) := (Arv.new A13 (by decide)).pad (pad_rep [] (.int (0 : Int32)) 3)
      show Go p_ e_ below _ _ T13 (mkF m_ 51 #[.val (.int p0), .val (.int c1), .val (.int c2), .val (.int c3)] [(.ref b13), (.ref b12), (.ref b12)])
      refine Go.dup X13 hx (hb hby d2_51) rfl ?_
      refine Go.iconst X13 hx (0 : Int32) (hb hby d2_52) rfl ?_
      refine Go.iloadN X13 hx (hb hby d2_53) rfl ?_
      obtain ⟨cl14, Ar14, q14, S14, M14, H14, G14⟩ := V13
      refine Go.stC X13 hx hZ e13 Ar14 (inb_of S14 ⟨by decide, by decide⟩) (hb hby d2_54) ?_
      intro T14 h14 X14 e14 W14
      have N14 := Fr.snoc X14 N0 g_b13
      have V14 : Arv Z h14 b13 kc13 .char (3 : Int32) [(.int (nar .char c1)), (.int (0 : Int32)), (.int (0 : Int32))] (.int (0 : Int32)) := Arv.set Ar14 q14 S14 M14 H14 G14 (fits_nar_char _) W14 0 rfl (Nat.le_of_ble_eq_true rfl)
      rw [own_nar r1] at V14
      have O_14_ := O_13_.wr W14 g_b13
      have E_14_b12 := E_13_b12.wr W14
      have F_14_b12_coder := F_13_b12_coder.other W14 (Or.inl ne_b12_b13)
      have F_14_b12_value := F_13_b12_value.other W14 (Or.inl ne_b12_b13)
      have Z14 : n0 ≤ h14.size := (by rw [W14.size]; exact Z13)
      have K14 : Keep h0 h14 [] := K13.wr W14 (Or.inr sz_b13)
      show Go p_ e_ below _ _ T14 (mkF m_ 55 #[.val (.int p0), .val (.int c1), .val (.int c2), .val (.int c3)] [(.ref b13), (.ref b12), (.ref b12)])
      refine Go.dup X14 hx (hb hby d2_55) rfl ?_
      refine Go.iconst X14 hx (1 : Int32) (hb hby d2_56) rfl ?_
      refine Go.iloadN X14 hx (hb hby d2_57) rfl ?_
      obtain ⟨cl15, Ar15, q15, S15, M15, H15, G15⟩ := V14
      refine Go.stC X14 hx hZ e14 Ar15 (inb_of S15 ⟨by decide, by decide⟩) (hb hby d2_58) ?_
      intro T15 h15 X15 e15 W15
      have N15 := Fr.snoc X15 N14 g_b13
      have V15 : Arv Z h15 b13 kc13 .char (3 : Int32) [(.int c1), (.int (nar .char c2)), (.int (0 : Int32))] (.int (0 : Int32)) := Arv.set Ar15 q15 S15 M15 H15 G15 (fits_nar_char _) W15 1 rfl (Nat.le_of_ble_eq_true rfl)
      rw [own_nar r2] at V15
      have O_15_ := O_14_.wr W15 g_b13
      have E_15_b12 := E_14_b12.wr W15
      have F_15_b12_coder := F_14_b12_coder.other W15 (Or.inl ne_b12_b13)
      have F_15_b12_value := F_14_b12_value.other W15 (Or.inl ne_b12_b13)
      have Z15 : n0 ≤ h15.size := (by rw [W15.size]; exact Z14)
      have K15 : Keep h0 h15 [] := K14.wr W15 (Or.inr sz_b13)
      show Go p_ e_ below _ _ T15 (mkF m_ 59 #[.val (.int p0), .val (.int c1), .val (.int c2), .val (.int c3)] [(.ref b13), (.ref b12), (.ref b12)])
      refine Go.dup X15 hx (hb hby d2_59) rfl ?_
      refine Go.iconst X15 hx (2 : Int32) (hb hby d2_60) rfl ?_
      refine Go.iloadN X15 hx (hb hby d2_61) rfl ?_
      obtain ⟨cl16, Ar16, q16, S16, M16, H16, G16⟩ := V15
      refine Go.stC X15 hx hZ e15 Ar16 (inb_of S16 ⟨by decide, by decide⟩) (hb hby d2_62) ?_
      intro T16 h16 X16 e16 W16
      have N16 := Fr.snoc X16 N15 g_b13
      have V16 : Arv Z h16 b13 kc13 .char (3 : Int32) [(.int c1), (.int c2), (.int (nar .char c3))] (.int (0 : Int32)) := Arv.set Ar16 q16 S16 M16 H16 G16 (fits_nar_char _) W16 2 rfl (Nat.le_of_ble_eq_true rfl)
      rw [own_nar r3] at V16
      have O_16_ := O_15_.wr W16 g_b13
      have E_16_b12 := E_15_b12.wr W16
      have F_16_b12_coder := F_15_b12_coder.other W16 (Or.inl ne_b12_b13)
      have F_16_b12_value := F_15_b12_value.other W16 (Or.inl ne_b12_b13)
      have Z16 : n0 ≤ h16.size := (by rw [W16.size]; exact Z15)
      have K16 : Keep h0 h16 [] := K15.wr W16 (Or.inr sz_b13)
      show Go p_ e_ below _ _ T16 (mkF m_ 63 #[.val (.int p0), .val (.int c1), .val (.int c2), .val (.int c3)] [(.ref b13), (.ref b12), (.ref b12)])
      refine Go.callIB X16 hx hZ (StrChars.Road.backV (W := 1) hZ (own_hwords hw) (kI := 4) (hw _ (List.mem_of_getElem? (i := 8) rfl)) (cs := [c1, c2, c3]) (bs := own_lo [c1, c2, c3]) (n := 3) g_b12 Z16 E_16_b12 F_16_b12_value F_16_b12_coder V16 (Sco.ext O_16_.2) hzc rfl rfl (by decide) (by decide) (own_mem3 (P := fun c => ¬ c < 0 ∧ ¬ (255 : Int32) < c) r1 r2 r3) rfl (by decide) (by decide)) rfl hown (hw _ (List.mem_of_getElem? (i := 11) rfl)) (hw _ (List.mem_of_getElem? (i := 12) rfl)) (hw _ (List.mem_of_getElem? (i := 13) rfl)) (by decide) e16 (a := b12) (by rw [hml]; rfl) (argsL := [(.ref b13)]) (S := [(.ref b12)]) (Nat.le_of_ble_eq_true rfl) (by decide) (by decide) pd_oACcV rfl rfl (hb hby d2_63) ?_
      rintro _ T17 L17 X17 ⟨rfl, N17q, K17, E17, C17, t17, kb17, g_t17, zs17, ne17, Fv17, V17⟩
      have N17 := Fr.app N16 N17q
      have ne_b12_t17 : b12 ≠ t17 := Nat.ne_of_lt (Nat.lt_of_lt_of_le E_16_b12.lt zs17)
      have ne_b13_t17 : b13 ≠ t17 := Nat.ne_of_lt (Nat.lt_of_lt_of_le V16.lt zs17)
      have sz_t17 : h0.size ≤ t17 := Nat.le_trans K16.1 zs17
      have O_17_ := O_16_.keep K17 (allS g_b12 all0)
      have V_17_b13 := V16.keep K17 (ninS (Ne.symm ne_b12_b13) nin0)
      have Z17 : n0 ≤ T17.heap.size := Nat.le_trans Z16 K17.1
      have KK17 : Keep h0 T17.heap [] := K16.trans K17 (allS (Or.inr sz_b12) all0)
      have S_b12 : StrAt Z T17.heap b12 t17 kb17 [c1, c2, c3] := ⟨E17, C17, Fv17, V17⟩
      show Go p_ e_ below _ _ T17 (mkF m_ 66 #[.val (.int p0), .val (.int c1), .val (.int c2), .val (.int c3)] [(.ref b12)])
      refine Go.retA X17 hx hret hlk rfl rfl rfl (hb hby d2_66) (by decide) (by decide) ?_
      exact ⟨_, _, _, rfl, N17, KK17, g_b12, g_t17, sz_b12, sz_t17, ne17, by unfold own_cs; rw [if_neg hc2_1, if_neg hc22_6]; exact S_b12⟩
theorem d10_0 : decode jdk_31_method_11_code 0 = .ok (.aload_n 0, 1) := by decide +kernel
theorem d10_1 : decode jdk_31_method_11_code 1 = .ok (.ifnonnull 12, 3) := by decide +kernel
theorem d10_13 : decode jdk_31_method_11_code 13 = .ok (.aload_n 0, 1) := by decide +kernel
theorem d10_14 : decode jdk_31_method_11_code 14 = .ok (.areturn, 1) := by decide +kernel
theorem pn_10 : plainName "java/util/Objects" = true := by first | (simp [plainName, overriddenIn]; done) | decide +kernel
theorem ef_rm10 (m_ : MethodId) (x : Addr) (y : Addr) : entryFrame m_ #[(.ref x), (.ref y)] 2 = mkF m_ 0 #[.val (.ref x), .val (.ref y)] [] := by first | (simp [entryFrame, mkF, argsToLocals, Value.category]; done) | rfl
def Q10 (Z : State) (x : Addr) (y : Addr)  (h0 : Heap) (n0 : Nat) (v : Option Value) (h : Heap) (L : List Loc) : Prop := v = some (.ref x) ∧ Fr n0 L ∧ h = h0
set_option maxRecDepth 65536 in
set_option maxHeartbeats 40000000 in
theorem rm10 (l : Launch) (Z : State) (a0 : Array Value) (hw : ∀ d ∈ tables_1, d.before a0 Z = true) (ws : List Jvm.Cond) (x : Addr) (y : Addr)  (h0 : Heap) (n0 : Nat) (Z0 : n0 ≤ h0.size)  :
    MetFree l (⟨"java/util/Objects", "requireNonNull", "(Ljava/lang/Object;Ljava/lang/String;)Ljava/lang/Object;"⟩ : MethodName) (head1 (Jvm.Cond.code (⟨"java/util/Objects", "requireNonNull", "(Ljava/lang/Object;Ljava/lang/String;)Ljava/lang/Object;"⟩ : MethodName) jdk_31_method_11_code 2 (some (.object "java/lang/Object")) :: ws) ({ frames := 0, cells := 0, slots := 0, locals := 0 } : Room)) (fun a_ U_ => a_ = #[(.ref x), (.ref y)] ∧ Z.Warmed39 U_.vm ∧ U_.heap = h0) (fun _ _ _ _ _ => True) (fun _ U_ o_ V_ => ∃ v_ L_, o_ = .returned v_ ∧ Q10 Z x y h0 n0 v_ V_.heap L_ ∧ FrameEnd U_ o_ V_ L_ ({ frames := 0, cells := 0, slots := 0, locals := 0 } : Room).cells ({ frames := 0, cells := 0, slots := 0, locals := 0 } : Room).slots) := by
  refine metOf (Q := Q10 Z x y h0 n0) (plainFor_of_name pn_10) ?_
  intro p_ e_ s_ m_ below meth c_ s₁ X0 hx hby hml hret hlk hZ hown hnm e0
  rw [ef_rm10]
  have N0 := Fr.nil n0
  show Go p_ e_ below _ _ s₁ (mkF m_ 0 #[.val (.ref x), .val (.ref y)] [])
  refine Go.aloadN X0 hx (hb hby d10_0) rfl rfl ?_
  refine Go.ifnonnullYes X0 hx (pc' := 13) (hb hby d10_1) (by decide) (by decide) ?_
  refine Go.aloadN X0 hx (hb hby d10_13) rfl rfl ?_
  refine Go.retA X0 hx hret hlk rfl rfl rfl (hb hby d10_14) (by decide) (by decide) ?_
  exact ⟨rfl, N0, e0⟩
theorem own_ofl {i n : Nat} (h : n ≤ 255) (hi : i ≤ n) : Int32.ofNat i < Int32.ofNat n ↔ i < n := by
  rw [Int32.lt_iff_toInt_lt, Int32.toInt_ofNat_small (by show i < 2147483648; omega), Int32.toInt_ofNat_small (by show n < 2147483648; omega)]
  omega
theorem own_inc (i : Nat) : Int32.ofNat i + (1 : Int32) = Int32.ofNat (i + 1) := by
  apply Int32.toBitVec_inj.mp
  simp
theorem own_255 {n : Nat} (h : n ≤ 255) : ¬ (255 : Int32) < Int32.ofNat n := by
  rw [Int32.lt_iff_toInt_lt, Int32.toInt_ofNat_small (by show n < 2147483648; omega)]
  have : (255 : Int32).toInt = 255 := rfl
  omega
theorem own_getp {P : Int32 → Prop} {cs : List Int32} (h : ∀ c ∈ cs, P c) {i : Nat} (hi : i < cs.length) : P (cs.getD i 0) := by
  have : cs.getD i 0 = cs[i] := by simp [List.getD_eq_getElem?_getD, hi]
  rw [this]; exact h _ (List.getElem_mem hi)
theorem pd_oLjava_lang_ObjectLjava_lang_StringcLjava_lang_Object : parseMethodDescriptor "(Ljava/lang/Object;Ljava/lang/String;)Ljava/lang/Object;" = some ⟨[(.object "java/lang/Object"), (.object "java/lang/String")], some (.object "java/lang/Object")⟩ := by decide +kernel
theorem pd_ocZ : parseMethodDescriptor "()Z" = some ⟨[], some .boolean⟩ := by decide +kernel
theorem pd_ocI : parseMethodDescriptor "()I" = some ⟨[], some .int⟩ := by decide +kernel
theorem pd_oIcC : parseMethodDescriptor "(I)C" = some ⟨[.int], some .char⟩ := by decide +kernel
theorem d9_0 : decode prog_16_method_1_code 0 = .ok (.aload_n 0, 1) := by decide +kernel
theorem d9_1 : decode prog_16_method_1_code 1 = .ok (.invokespecial 1, 3) := by decide +kernel
theorem d9_4 : decode prog_16_method_1_code 4 = .ok (.aload_n 1, 1) := by decide +kernel
theorem d9_5 : decode prog_16_method_1_code 5 = .ok (.ldc 7, 2) := by decide +kernel
theorem d9_7 : decode prog_16_method_1_code 7 = .ok (.invokestatic 9, 3) := by decide +kernel
theorem d9_10 : decode prog_16_method_1_code 10 = .ok (.pop, 1) := by decide +kernel
theorem d9_11 : decode prog_16_method_1_code 11 = .ok (.aload_n 1, 1) := by decide +kernel
theorem d9_12 : decode prog_16_method_1_code 12 = .ok (.invokevirtual 15, 3) := by decide +kernel
theorem d9_15 : decode prog_16_method_1_code 15 = .ok (.ifCond .eq 13, 3) := by decide +kernel
theorem d9_28 : decode prog_16_method_1_code 28 = .ok (.aload_n 1, 1) := by decide +kernel
theorem d9_29 : decode prog_16_method_1_code 29 = .ok (.invokevirtual 28, 3) := by decide +kernel
theorem d9_32 : decode prog_16_method_1_code 32 = .ok (.sipush 255, 3) := by decide +kernel
theorem d9_35 : decode prog_16_method_1_code 35 = .ok (.if_icmp .le 20, 3) := by decide +kernel
theorem d9_55 : decode prog_16_method_1_code 55 = .ok (.iconst 0, 1) := by decide +kernel
theorem d9_56 : decode prog_16_method_1_code 56 = .ok (.istore_n 2, 1) := by decide +kernel
theorem d9_57 : decode prog_16_method_1_code 57 = .ok (.iload_n 2, 1) := by decide +kernel
theorem d9_58 : decode prog_16_method_1_code 58 = .ok (.aload_n 1, 1) := by decide +kernel
theorem d9_59 : decode prog_16_method_1_code 59 = .ok (.invokevirtual 28, 3) := by decide +kernel
theorem d9_62 : decode prog_16_method_1_code 62 = .ok (.if_icmp .ge 58, 3) := by decide +kernel
theorem d9_65 : decode prog_16_method_1_code 65 = .ok (.aload_n 1, 1) := by decide +kernel
theorem d9_66 : decode prog_16_method_1_code 66 = .ok (.iload_n 2, 1) := by decide +kernel
theorem d9_67 : decode prog_16_method_1_code 67 = .ok (.invokevirtual 38, 3) := by decide +kernel
theorem d9_70 : decode prog_16_method_1_code 70 = .ok (.istore_n 3, 1) := by decide +kernel
theorem d9_71 : decode prog_16_method_1_code 71 = .ok (.iload_n 3, 1) := by decide +kernel
theorem d9_72 : decode prog_16_method_1_code 72 = .ok (.bipush 32, 2) := by decide +kernel
theorem d9_74 : decode prog_16_method_1_code 74 = .ok (.if_icmp .lt 9, 3) := by decide +kernel
theorem d9_77 : decode prog_16_method_1_code 77 = .ok (.iload_n 3, 1) := by decide +kernel
theorem d9_78 : decode prog_16_method_1_code 78 = .ok (.bipush 126, 2) := by decide +kernel
theorem d9_80 : decode prog_16_method_1_code 80 = .ok (.if_icmp .le 34, 3) := by decide +kernel
theorem d9_114 : decode prog_16_method_1_code 114 = .ok (.iinc 2 1, 3) := by decide +kernel
theorem d9_117 : decode prog_16_method_1_code 117 = .ok (.goto (-60), 3) := by decide +kernel
theorem d9_120 : decode prog_16_method_1_code 120 = .ok (.aload_n 0, 1) := by decide +kernel
theorem d9_121 : decode prog_16_method_1_code 121 = .ok (.aload_n 1, 1) := by decide +kernel
theorem d9_122 : decode prog_16_method_1_code 122 = .ok (.putfield 54, 3) := by decide +kernel
theorem d9_125 : decode prog_16_method_1_code 125 = .ok (.return_, 1) := by decide +kernel
theorem pn_9 : plainName "com/example/safe_retries/saferetries/identity/IdempotencyKey" = true := by first | (simp [plainName, overriddenIn]; done) | decide +kernel
theorem ef_rm9 (m_ : MethodId) (a : Addr) (x : Addr) : entryFrame m_ #[(.ref a), (.ref x)] 4 = mkF m_ 0 #[.val (.ref a), .val (.ref x), .unset, .unset] [] := by first | (simp [entryFrame, mkF, argsToLocals, Value.category]; done) | rfl
def Q9 (Z : State) (a : Addr) (x : Addr) (t : Addr) (kb : ClassId) (cs : List Int32) (zc : Int32) (fm : Value) (h0 : Heap) (n0 : Nat) (v : Option Value) (h : Heap) (L : List Loc) : Prop := v = none ∧ Fr n0 L ∧ Keep h0 h [a] ∧ Exa Z h a "com/example/safe_retries/saferetries/identity/IdempotencyKey" ∧ Fld Z h a "com/example/safe_retries/saferetries/identity/IdempotencyKey" "value" "Ljava/lang/String;" (.ref x)
set_option maxRecDepth 65536 in
set_option maxHeartbeats 40000000 in
theorem rm9 (l : Launch) (Z : State) (a0 : Array Value) (hw : ∀ d ∈ tables_1, d.before a0 Z = true) (ws : List Jvm.Cond) (a : Addr) (x : Addr) (t : Addr) (kb : ClassId) (cs : List Int32) (zc : Int32) (fm : Value) (h0 : Heap) (n0 : Nat) (Z0 : n0 ≤ h0.size) (O : Old Z n0 h0) (Sco : Sta Z Z.heap "java/lang/String" "COMPACT_STRINGS" "Z" (.int zc)) (hzc : ¬ zc = 0) (Sfm : Sta Z Z.heap "jdk/internal/util/Preconditions" "SIOOBE_FORMATTER" "Ljava/util/function/BiFunction;" fm) (rfm : fm.isRef = true) (E_a : Exa Z h0 a "com/example/safe_retries/saferetries/identity/IdempotencyKey") (F_v : Fld Z h0 a "com/example/safe_retries/saferetries/identity/IdempotencyKey" "value" "Ljava/lang/String;" .null) (g_a : n0 ≤ a) (S_x : StrAt Z h0 x t kb cs) (hp : ∀ c ∈ cs, ¬ c < 0 ∧ ¬ (255 : Int32) < c) (hpr : ∀ c ∈ cs, ¬ c < (32 : Int32) ∧ ¬ (126 : Int32) < c) (hlen : 0 < cs.length ∧ cs.length ≤ 255) (nex : x ≠ a) (net : t ≠ a) :
    MetFree l (⟨"com/example/safe_retries/saferetries/identity/IdempotencyKey", "<init>", "(Ljava/lang/String;)V"⟩ : MethodName) (head1 (Jvm.Cond.code (⟨"com/example/safe_retries/saferetries/identity/IdempotencyKey", "<init>", "(Ljava/lang/String;)V"⟩ : MethodName) prog_16_method_1_code 4 none :: ws) ({ frames := 4, cells := 2, slots := 24, locals := 53 } : Room)) (fun a_ U_ => a_ = #[(.ref a), (.ref x)] ∧ Z.Warmed39 U_.vm ∧ U_.heap = h0) (fun _ _ _ _ _ => True) (fun _ U_ o_ V_ => ∃ v_ L_, o_ = .returned v_ ∧ Q9 Z a x t kb cs zc fm h0 n0 v_ V_.heap L_ ∧ ReturnedEndW U_ o_ V_ L_ ({ frames := 4, cells := 2, slots := 24, locals := 53 } : Room).cells ({ frames := 4, cells := 2, slots := 24, locals := 53 } : Room).slots) := by
  refine metOfW (Q := Q9 Z a x t kb cs zc fm h0 n0) (plainFor_of_name pn_9) ?_
  intro p_ e_ s_ m_ below meth c_ s₁ X0 hx hby hml hret hlk hZ hown hnm e0 hS
  have hk : 0 ≤ h0.size := Nat.zero_le _
  rw [ef_rm9]
  have N0 := Fr.nil n0
  have hwS := own_hwS hw
  show Go p_ e_ below _ _ s₁ (mkF m_ 0 #[.val (.ref a), .val (.ref x), .unset, .unset] [])
  refine Go.aloadN X0 hx (hb hby d9_0) rfl rfl ?_
  refine Go.initO X0 hx hZ hown (hw _ (List.mem_of_getElem? (i := 43) rfl)) (hw _ (List.mem_of_getElem? (i := 19) rfl)) (hw _ (List.mem_of_getElem? (i := 20) rfl)) e0 (by rw [hml]; rfl) (hb hby d9_1) (by decide) (W := 0) (Nat.le_of_ble_eq_true rfl) (by decide) ?_
  intro T1 X1 e1
  show Go p_ e_ below _ _ T1 (mkF m_ 4 #[.val (.ref a), .val (.ref x), .unset, .unset] [])
  refine Go.aloadN X1 hx (hb hby d9_4) rfl rfl ?_
  refine Go.ldcS X1 hx hZ hown (hw _ (List.mem_of_getElem? (i := 44) rfl)) hwS hS e1 hk (hb hby d9_5) (n := 20) (by decide) (by decide) (by decide) (by decide) ?_
  intro lit2 T2 h2 k2 X2 e2 E2 hS2 hk2 hZ hown
  have Z2 : n0 ≤ h2.size := Nat.le_trans Z0 E2.1
  have K2 : Keep h0 h2 [a] := (Keep.refl h0 [a]).ext E2
  have O_2_ := O.ext E2
  have E_2_a := E_a.ext E2
  have F_2_a_value := F_v.ext E2
  have S2_x := S_x.ext E2
  show Go p_ e_ below _ _ T2 (mkF m_ 7 #[.val (.ref a), .val (.ref x), .unset, .unset] [(.ref lit2), (.ref x)])
  refine Go.callS X2 hx hZ (rm10 l Z a0 hw [] x lit2 h2 n0 Z2) hown (hw _ (List.mem_of_getElem? (i := 47) rfl)) (hw _ (List.mem_of_getElem? (i := 48) rfl)) (hw _ (List.mem_of_getElem? (i := 49) rfl)) (hw _ (List.mem_of_getElem? (i := 50) rfl)) (by decide) e2 (W := 0) (by rw [hml]; rfl) (argsL := [(.ref x), (.ref lit2)]) (S := []) (Nat.le_of_ble_eq_true rfl) (by decide) (by decide) (by decide) (by decide) pd_oLjava_lang_ObjectLjava_lang_StringcLjava_lang_Object rfl rfl (hb hby d9_7) ?_
  rintro _ T3 L3 X3 ⟨rfl, N3q, e3⟩
  have N3 := Fr.app N0 N3q
  show Go p_ e_ below _ _ T3 (mkF m_ 10 #[.val (.ref a), .val (.ref x), .unset, .unset] [(.ref x)])
  refine Go.pop X3 hx (hb hby d9_10) rfl ?_
  refine Go.aloadN X3 hx (hb hby d9_11) rfl rfl ?_
  refine Go.callVB X3 hx hZ (y0 := (⟨"java/lang/String", "isEmpty", "()Z"⟩ : MethodName)) (K := "java/lang/String") (C1 := 0) (N1 := 0) (Qy := fun v_ h_ L_ => (v_ = some (.int (if (cs).length = 0 then (1 : Int32) else (0 : Int32)))) ∧ L_ = [] ∧ h_ = h2) (StrChars.Road.empW (W := 0) hZ (own_hwordsEmp hw) (kI := 4) (hw _ (List.mem_of_getElem? (i := 8) rfl)) S2_x.1 S2_x.2.2.1 S2_x.2.1 S2_x.2.2.2 (own_cod hp) (own_up hp) (by omega) (by decide) (by decide)) (by decide) hown (hw _ (List.mem_of_getElem? (i := 51) rfl)) (hw _ (List.mem_of_getElem? (i := 52) rfl)) (notFace_of_selects (args := #[]) (mvT hZ (hw _ (List.mem_of_getElem? (i := 54) rfl)))) (hw _ (List.mem_of_getElem? (i := 54) rfl)) (hw _ (List.mem_of_getElem? (i := 53) rfl)) e3 S2_x.1 (by rw [hml]; rfl) (argsL := []) (S := []) (Nat.le_of_ble_eq_true rfl) (by decide) (by decide) pd_ocZ rfl rfl (hb hby d9_12) ?_
  rintro _ T4 L4 X4 ⟨rfl, rfl, e4⟩
  have N4 := Fr.app N3 (Fr.nil n0)
  show Go p_ e_ below _ _ T4 (mkF m_ 15 #[.val (.ref a), .val (.ref x), .unset, .unset] [(.int (if (cs).length = 0 then (1 : Int32) else (0 : Int32)))])
  refine Go.ifYes X4 hx (pc' := 28) (hb hby d9_15) ((if0 _ _).trans (teq (by rw [if_neg (by omega)])).1) (by decide) (by decide) ?_
  show Go p_ e_ below _ _ T4 (mkF m_ 28 #[.val (.ref a), .val (.ref x), .unset, .unset] [])
  refine Go.aloadN X4 hx (hb hby d9_28) rfl rfl ?_
  refine Go.callVB X4 hx hZ (y0 := (⟨"java/lang/String", "length", "()I"⟩ : MethodName)) (K := "java/lang/String") (C1 := 0) (N1 := 0) (Qy := fun v_ h_ L_ => (v_ = some (.int (Int32.ofNat (cs).length))) ∧ L_ = [] ∧ h_ = h2) (StrChars.Road.lenW (W := 0) hZ (own_hwordsLen hw) (kI := 4) (hw _ (List.mem_of_getElem? (i := 8) rfl)) S2_x.1 S2_x.2.2.1 S2_x.2.1 S2_x.2.2.2 (own_cod hp) (own_up hp) (Sco.ext O_2_.2) hzc (by omega) (by decide) (by decide)) (by decide) hown (hw _ (List.mem_of_getElem? (i := 56) rfl)) (hw _ (List.mem_of_getElem? (i := 57) rfl)) (notFace_of_selects (args := #[]) (mvT hZ (hw _ (List.mem_of_getElem? (i := 59) rfl)))) (hw _ (List.mem_of_getElem? (i := 59) rfl)) (hw _ (List.mem_of_getElem? (i := 58) rfl)) e4 S2_x.1 (by rw [hml]; rfl) (argsL := []) (S := []) (Nat.le_of_ble_eq_true rfl) (by decide) (by decide) pd_ocI rfl rfl (hb hby d9_29) ?_
  rintro _ T5 L5 X5 ⟨rfl, rfl, e5⟩
  have N5 := Fr.app N4 (Fr.nil n0)
  show Go p_ e_ below _ _ T5 (mkF m_ 32 #[.val (.ref a), .val (.ref x), .unset, .unset] [(.int (Int32.ofNat (cs).length))])
  refine Go.sipush X5 hx (255 : Int32) (hb hby d9_32) rfl ?_
  refine Go.icmpYes X5 hx (pc' := 55) (hb hby d9_35) (flt (own_255 hlen.2)).2.2.2 (by decide) (by decide) ?_
  show Go p_ e_ below _ _ T5 (mkF m_ 55 #[.val (.ref a), .val (.ref x), .unset, .unset] [])
  refine Go.iconst X5 hx (0 : Int32) (hb hby d9_55) rfl ?_
  refine Go.istoreN X5 hx (l' := #[.val (.ref a), .val (.ref x), .val (.int (0 : Int32)), .unset]) (hb hby d9_56) rfl ?_
  have loop : ∀ (k i : Nat) (T1 : State) (l1 : List Loc) (s3 : Slot), i + k = cs.length → Stand p_ l e_ ({ frames := 4, cells := 2, slots := 24, locals := 53 } : Room) (s_.setVm T2.vm) m_ #[(.ref a), (.ref x)] below meth c_ T1 l1 2 24 → Fr n0 l1 → T1.heap = h2 → One s3 → Go p_ e_ below (WE s_ ({ frames := 4, cells := 2, slots := 24, locals := 53 } : Room).cells ({ frames := 4, cells := 2, slots := 24, locals := 53 } : Room).slots) (Q9 Z a x t kb cs zc fm h0 n0) T1 (mkF m_ 57 #[.val (.ref a), .val (.ref x), .val (.int (Int32.ofNat i)), s3] []) := by
    intro k
    induction k with
    | zero =>
      intro i T1 l1 s3 hik X1 N1 e1 o3
      show Go p_ e_ below _ _ T1 (mkF m_ 57 #[.val (.ref a), .val (.ref x), .val (.int (Int32.ofNat i)), s3] [])
      refine Go.iloadN X1 hx (hb hby d9_57) rfl ?_
      refine Go.aloadN X1 hx (hb hby d9_58) rfl rfl ?_
      refine Go.callVB X1 hx hZ (y0 := (⟨"java/lang/String", "length", "()I"⟩ : MethodName)) (K := "java/lang/String") (C1 := 0) (N1 := 0) (Qy := fun v_ h_ L_ => (v_ = some (.int (Int32.ofNat (cs).length))) ∧ L_ = [] ∧ h_ = h2) (StrChars.Road.lenW (W := 1) hZ (own_hwordsLen hw) (kI := 4) (hw _ (List.mem_of_getElem? (i := 8) rfl)) S2_x.1 S2_x.2.2.1 S2_x.2.1 S2_x.2.2.2 (own_cod hp) (own_up hp) (Sco.ext O_2_.2) hzc (by omega) (by decide) (by decide)) (by decide) hown (hw _ (List.mem_of_getElem? (i := 56) rfl)) (hw _ (List.mem_of_getElem? (i := 57) rfl)) (notFace_of_selects (args := #[]) (mvT hZ (hw _ (List.mem_of_getElem? (i := 59) rfl)))) (hw _ (List.mem_of_getElem? (i := 59) rfl)) (hw _ (List.mem_of_getElem? (i := 58) rfl)) e1 S2_x.1 (by rw [hml]; rfl) (argsL := []) (S := [(.int (Int32.ofNat i))]) (Nat.le_of_ble_eq_true rfl) (by decide) (by decide) pd_ocI rfl rfl (hb hby d9_59) ?_
      rintro _ T7 L7 X7 ⟨rfl, rfl, e7⟩
      have N7 := Fr.app N1 (Fr.nil n0)
      show Go p_ e_ below _ _ T7 (mkF m_ 62 #[.val (.ref a), .val (.ref x), .val (.int (Int32.ofNat i)), s3] [(.int (Int32.ofNat (cs).length)), (.int (Int32.ofNat i))])
      refine Go.icmpYes X7 hx (pc' := 120) (hb hby d9_62) (flt (by rw [own_ofl (by omega) (by omega)]; omega)).2.1 (by decide) (by decide) ?_
      show Go p_ e_ below _ _ T7 (mkF m_ 120 #[.val (.ref a), .val (.ref x), .val (.int (Int32.ofNat i)), s3] [])
      refine Go.aloadN X7 hx (hb hby d9_120) rfl rfl ?_
      refine Go.aloadN X7 hx (hb hby d9_121) rfl rfl ?_
      refine Go.putF X7 hx hZ hown (host := "") (Or.inl (hw _ (List.mem_of_getElem? (i := 88) rfl))) Via.refl e7 F_2_a_value E_2_a (Or.inr ⟨(hw _ (List.mem_of_getElem? (i := 89) rfl)), rfl, hnm⟩) (hw _ (List.mem_of_getElem? (i := 38) rfl)) (ty := (.object "java/lang/String")) (by decide) rfl rfl (hb hby d9_122) ?_
      intro T8 h8 X8 e8 W8
      have N8 := Fr.snoc X8 N7 g_a
      have O_8_ := O_2_.wr W8 g_a
      have E_8_a := E_2_a.wr W8
      have F_8_a_value := F_2_a_value.same W8
      have S8_x := S2_x.wr W8 nex net
      have K8 : Keep h0 h8 [a] := K2.wr W8 (Or.inl (List.mem_of_getElem? (i := 0) rfl))
      have Z8 : n0 ≤ h8.size := (by rw [W8.size]; exact Z2)
      have hk8 : _ ≤ h8.size := (by rw [W8.size]; exact hk2)
      show Go p_ e_ below _ _ T8 (mkF m_ 125 #[.val (.ref a), .val (.ref x), .val (.int (Int32.ofNat i)), s3] [])
      refine Go.retVW X8 hx hS2 e8 hk8 hret hlk (hb hby d9_125) (by decide) (by decide) ?_
      rw [e8]
      exact ⟨rfl, N8, K8, E_8_a, F_8_a_value⟩
    | succ k ih =>
      intro i T1 l1 s3 hik X1 N1 e1 o3
      have hi : i < cs.length := by omega
      show Go p_ e_ below _ _ T1 (mkF m_ 57 #[.val (.ref a), .val (.ref x), .val (.int (Int32.ofNat i)), s3] [])
      refine Go.iloadN X1 hx (hb hby d9_57) rfl ?_
      refine Go.aloadN X1 hx (hb hby d9_58) rfl rfl ?_
      refine Go.callVB X1 hx hZ (y0 := (⟨"java/lang/String", "length", "()I"⟩ : MethodName)) (K := "java/lang/String") (C1 := 0) (N1 := 0) (Qy := fun v_ h_ L_ => (v_ = some (.int (Int32.ofNat (cs).length))) ∧ L_ = [] ∧ h_ = h2) (StrChars.Road.lenW (W := 1) hZ (own_hwordsLen hw) (kI := 4) (hw _ (List.mem_of_getElem? (i := 8) rfl)) S2_x.1 S2_x.2.2.1 S2_x.2.1 S2_x.2.2.2 (own_cod hp) (own_up hp) (Sco.ext O_2_.2) hzc (by omega) (by decide) (by decide)) (by decide) hown (hw _ (List.mem_of_getElem? (i := 56) rfl)) (hw _ (List.mem_of_getElem? (i := 57) rfl)) (notFace_of_selects (args := #[]) (mvT hZ (hw _ (List.mem_of_getElem? (i := 59) rfl)))) (hw _ (List.mem_of_getElem? (i := 59) rfl)) (hw _ (List.mem_of_getElem? (i := 58) rfl)) e1 S2_x.1 (by rw [hml]; rfl) (argsL := []) (S := [(.int (Int32.ofNat i))]) (Nat.le_of_ble_eq_true rfl) (by decide) (by decide) pd_ocI rfl rfl (hb hby d9_59) ?_
      rintro _ T9 L9 X9 ⟨rfl, rfl, e9⟩
      have N9 := Fr.app N1 (Fr.nil n0)
      show Go p_ e_ below _ _ T9 (mkF m_ 62 #[.val (.ref a), .val (.ref x), .val (.int (Int32.ofNat i)), s3] [(.int (Int32.ofNat (cs).length)), (.int (Int32.ofNat i))])
      refine Go.icmpNo X9 hx (hb hby d9_62) (tlt (by rw [own_ofl (by omega) (by omega)]; exact hi)).2.1 ?_
      show Go p_ e_ below _ _ T9 (mkF m_ 65 #[.val (.ref a), .val (.ref x), .val (.int (Int32.ofNat i)), s3] [])
      refine Go.aloadN X9 hx (hb hby d9_65) rfl rfl ?_
      refine Go.iloadN X9 hx (hb hby d9_66) rfl ?_
      refine Go.callVB X9 hx hZ (y0 := (⟨"java/lang/String", "charAt", "(I)C"⟩ : MethodName)) (K := "java/lang/String") (C1 := 0) (N1 := 0) (Qy := fun v_ h_ L_ => (v_ = some (.int ((cs).getD i 0))) ∧ L_ = [] ∧ h_ = h2) (StrChars.Road.chN (W := 0) hZ (own_hwordsChN hw) (kI := 4) (hw _ (List.mem_of_getElem? (i := 8) rfl)) S2_x.1 S2_x.2.2.1 S2_x.2.1 S2_x.2.2.2 (own_cod hp) (own_up hp) (Sco.ext O_2_.2) hzc (Sfm.ext O_2_.2) rfm (by omega) (i := i) hi (j := (Int32.ofNat i)) rfl (by decide) (by decide)) (by decide) hown (hw _ (List.mem_of_getElem? (i := 66) rfl)) (hw _ (List.mem_of_getElem? (i := 67) rfl)) (notFace_of_selects (args := #[]) (mvT hZ (hw _ (List.mem_of_getElem? (i := 69) rfl)))) (hw _ (List.mem_of_getElem? (i := 69) rfl)) (hw _ (List.mem_of_getElem? (i := 68) rfl)) e9 S2_x.1 (by rw [hml]; rfl) (argsL := [(.int (Int32.ofNat i))]) (S := []) (Nat.le_of_ble_eq_true rfl) (by decide) (by decide) pd_oIcC rfl rfl (hb hby d9_67) ?_
      rintro _ T10 L10 X10 ⟨rfl, rfl, e10⟩
      have N10 := Fr.app N9 (Fr.nil n0)
      show Go p_ e_ below _ _ T10 (mkF m_ 70 #[.val (.ref a), .val (.ref x), .val (.int (Int32.ofNat i)), s3] [(.int ((cs).getD i 0))])
      refine Go.istoreNS X10 hx (hb hby d9_70) rfl o3 ?_
      refine Go.iloadN X10 hx (hb hby d9_71) rfl ?_
      refine Go.bipush X10 hx (32 : Int32) (hb hby d9_72) rfl ?_
      refine Go.icmpNo X10 hx (hb hby d9_74) (flt (own_getp hpr hi).1).1 ?_
      show Go p_ e_ below _ _ T10 (mkF m_ 77 #[.val (.ref a), .val (.ref x), .val (.int (Int32.ofNat i)), .val (.int ((cs).getD i 0))] [])
      refine Go.iloadN X10 hx (hb hby d9_77) rfl ?_
      refine Go.bipush X10 hx (126 : Int32) (hb hby d9_78) rfl ?_
      refine Go.icmpYes X10 hx (pc' := 114) (hb hby d9_80) (flt (own_getp hpr hi).2).2.2.2 (by decide) (by decide) ?_
      show Go p_ e_ below _ _ T10 (mkF m_ 114 #[.val (.ref a), .val (.ref x), .val (.int (Int32.ofNat i)), .val (.int ((cs).getD i 0))] [])
      refine Go.iinc X10 hx (l' := #[.val (.ref a), .val (.ref x), .val (.int ((Int32.ofNat i) + (1 : Int32))), .val (.int ((cs).getD i 0))]) (1 : Int32) (hb hby d9_114) rfl rfl rfl ?_
      refine Go.goto X10 hx (pc' := 57) (hb hby d9_117) (by decide) (by decide) ?_
      show Go p_ e_ below _ _ T10 (mkF m_ 57 #[.val (.ref a), .val (.ref x), .val (.int ((Int32.ofNat i) + (1 : Int32))), .val (.int ((cs).getD i 0))] [])
      rw [own_inc]
      exact ih (i + 1) _ _ (.val (.int ((cs).getD i 0))) (by omega) X10 N10 e10 (One.val rfl)
  exact loop cs.length 0 _ _ (.unset) (by omega) X5 N5 e5 One.u
def own_ke (cs ds : List Int32) : Int32 := if (if cs = ds then (1 : Int32) else (0 : Int32)) = (0 : Int32) then (0 : Int32) else (1 : Int32)
theorem own_ke_eq (cs ds : List Int32) : own_ke cs ds = if cs = ds then 1 else 0 := by
  unfold own_ke
  by_cases h : cs = ds
  · simp [h]
  · simp [h]
theorem pd_oLjava_lang_ObjectcZ : parseMethodDescriptor "(Ljava/lang/Object;)Z" = some ⟨[(.object "java/lang/Object")], some .boolean⟩ := by decide +kernel
theorem d19_0 : decode prog_16_method_4_code 0 = .ok (.aload_n 1, 1) := by decide +kernel
theorem d19_1 : decode prog_16_method_4_code 1 = .ok (.instanceof 32, 3) := by decide +kernel
theorem d19_4 : decode prog_16_method_4_code 4 = .ok (.ifCond .eq 26, 3) := by decide +kernel
theorem d19_7 : decode prog_16_method_4_code 7 = .ok (.aload_n 1, 1) := by decide +kernel
theorem d19_8 : decode prog_16_method_4_code 8 = .ok (.checkcast 32, 3) := by decide +kernel
theorem d19_11 : decode prog_16_method_4_code 11 = .ok (.astore_n 2, 1) := by decide +kernel
theorem d19_12 : decode prog_16_method_4_code 12 = .ok (.aload_n 0, 1) := by decide +kernel
theorem d19_13 : decode prog_16_method_4_code 13 = .ok (.getfield 54, 3) := by decide +kernel
theorem d19_16 : decode prog_16_method_4_code 16 = .ok (.aload_n 2, 1) := by decide +kernel
theorem d19_17 : decode prog_16_method_4_code 17 = .ok (.getfield 54, 3) := by decide +kernel
theorem d19_20 : decode prog_16_method_4_code 20 = .ok (.invokevirtual 68, 3) := by decide +kernel
theorem d19_23 : decode prog_16_method_4_code 23 = .ok (.ifCond .eq 7, 3) := by decide +kernel
theorem d19_26 : decode prog_16_method_4_code 26 = .ok (.iconst 1, 1) := by decide +kernel
theorem d19_27 : decode prog_16_method_4_code 27 = .ok (.goto 4, 3) := by decide +kernel
theorem d19_30 : decode prog_16_method_4_code 30 = .ok (.iconst 0, 1) := by decide +kernel
theorem d19_31 : decode prog_16_method_4_code 31 = .ok (.ireturn, 1) := by decide +kernel
theorem pn_19 : plainName "com/example/safe_retries/saferetries/identity/IdempotencyKey" = true := by first | (simp [plainName, overriddenIn]; done) | decide +kernel
theorem ef_rm19 (m_ : MethodId) (a : Addr) (b : Addr) : entryFrame m_ #[(.ref a), (.ref b)] 3 = mkF m_ 0 #[.val (.ref a), .val (.ref b), .unset] [] := by first | (simp [entryFrame, mkF, argsToLocals, Value.category]; done) | rfl
def Q19 (Z : State) (a : Addr) (b : Addr) (x : Addr) (t : Addr) (kb : ClassId) (cs : List Int32) (y : Addr) (u : Addr) (kd : ClassId) (ds : List Int32) (zc : Int32) (h0 : Heap) (n0 : Nat) (v : Option Value) (h : Heap) (L : List Loc) : Prop := v = some (.int (own_ke cs ds)) ∧ Fr n0 L ∧ h = h0
set_option maxRecDepth 65536 in
set_option maxHeartbeats 40000000 in
theorem rm19 (l : Launch) (Z : State) (a0 : Array Value) (hw : ∀ d ∈ tables_1, d.before a0 Z = true) (ws : List Jvm.Cond) (a : Addr) (b : Addr) (x : Addr) (t : Addr) (kb : ClassId) (cs : List Int32) (y : Addr) (u : Addr) (kd : ClassId) (ds : List Int32) (zc : Int32) (h0 : Heap) (n0 : Nat) (Z0 : n0 ≤ h0.size) (O : Old Z n0 h0) (Sco : Sta Z Z.heap "java/lang/String" "COMPACT_STRINGS" "Z" (.int zc)) (hzc : ¬ zc = 0) (E_b : Exa Z h0 b "com/example/safe_retries/saferetries/identity/IdempotencyKey") (F_x : Fld Z h0 a "com/example/safe_retries/saferetries/identity/IdempotencyKey" "value" "Ljava/lang/String;" (.ref x)) (F_y : Fld Z h0 b "com/example/safe_retries/saferetries/identity/IdempotencyKey" "value" "Ljava/lang/String;" (.ref y)) (S_x : StrAt Z h0 x t kb cs) (hp : ∀ c ∈ cs, ¬ c < 0 ∧ ¬ (255 : Int32) < c) (lx : cs.length ≤ 4000) (S_y : StrAt Z h0 y u kd ds) (hq : ∀ c ∈ ds, ¬ c < 0 ∧ ¬ (255 : Int32) < c) (ly : ds.length ≤ 4000) :
    MetFree l (⟨"com/example/safe_retries/saferetries/identity/IdempotencyKey", "equals", "(Ljava/lang/Object;)Z"⟩ : MethodName) (head1 (Jvm.Cond.code (⟨"com/example/safe_retries/saferetries/identity/IdempotencyKey", "equals", "(Ljava/lang/Object;)Z"⟩ : MethodName) prog_16_method_4_code 3 (some .boolean) :: ws) ({ frames := 2, cells := 0, slots := 0, locals := 28 } : Room)) (fun a_ U_ => a_ = #[(.ref a), (.ref b)] ∧ Z.Warmed39 U_.vm ∧ U_.heap = h0) (fun _ _ _ _ _ => True) (fun _ U_ o_ V_ => ∃ v_ L_, o_ = .returned v_ ∧ Q19 Z a b x t kb cs y u kd ds zc h0 n0 v_ V_.heap L_ ∧ FrameEnd U_ o_ V_ L_ ({ frames := 2, cells := 0, slots := 0, locals := 28 } : Room).cells ({ frames := 2, cells := 0, slots := 0, locals := 28 } : Room).slots) := by
  refine metOf (Q := Q19 Z a b x t kb cs y u kd ds zc h0 n0) (plainFor_of_name pn_19) ?_
  intro p_ e_ s_ m_ below meth c_ s₁ X0 hx hby hml hret hlk hZ hown hnm e0
  rw [ef_rm19]
  have N0 := Fr.nil n0
  show Go p_ e_ below _ _ s₁ (mkF m_ 0 #[.val (.ref a), .val (.ref b), .unset] [])
  refine Go.aloadN X0 hx (hb hby d19_0) rfl rfl ?_
  refine Go.instY X0 hx hZ hown (hw _ (List.mem_of_getElem? (i := 95) rfl)) e0 (Ins.self E_b) (hb hby d19_1) ?_
  intro T1 X1 e1
  show Go p_ e_ below _ _ T1 (mkF m_ 4 #[.val (.ref a), .val (.ref b), .unset] [(.int (1 : Int32))])
  refine Go.ifNo X1 hx (hb hby d19_4) ((if0 _ _).trans (feq (by decide)).1) ?_
  show Go p_ e_ below _ _ T1 (mkF m_ 7 #[.val (.ref a), .val (.ref b), .unset] [])
  refine Go.aloadN X1 hx (hb hby d19_7) rfl rfl ?_
  refine Go.castY X1 hx hZ hown (hw _ (List.mem_of_getElem? (i := 95) rfl)) e1 (Ins.self E_b) (hb hby d19_8) ?_
  intro T2 X2 e2
  show Go p_ e_ below _ _ T2 (mkF m_ 11 #[.val (.ref a), .val (.ref b), .unset] [(.ref b)])
  refine Go.astoreN X2 hx (l' := #[.val (.ref a), .val (.ref b), .val (.ref b)]) (hb hby d19_11) rfl rfl ?_
  refine Go.aloadN X2 hx (hb hby d19_12) rfl rfl ?_
  refine Go.getF X2 hx hZ hown (host := "") (Or.inl (hw _ (List.mem_of_getElem? (i := 88) rfl))) Via.refl e2 F_x (hb hby d19_13) ?_
  intro T3 X3 e3
  show Go p_ e_ below _ _ T3 (mkF m_ 16 #[.val (.ref a), .val (.ref b), .val (.ref b)] [(.ref x)])
  refine Go.aloadN X3 hx (hb hby d19_16) rfl rfl ?_
  refine Go.getF X3 hx hZ hown (host := "") (Or.inl (hw _ (List.mem_of_getElem? (i := 88) rfl))) Via.refl e3 F_y (hb hby d19_17) ?_
  intro T4 X4 e4
  show Go p_ e_ below _ _ T4 (mkF m_ 20 #[.val (.ref a), .val (.ref b), .val (.ref b)] [(.ref y), (.ref x)])
  refine Go.callVB X4 hx hZ (y0 := (⟨"java/lang/String", "equals", "(Ljava/lang/Object;)Z"⟩ : MethodName)) (K := "java/lang/String") (C1 := 0) (N1 := 0) (Qy := fun v_ h_ L_ => ((v_ = some (.int 1) ∧ cs = ds) ∨ (v_ = some (.int 0) ∧ ¬ cs = ds)) ∧ L_ = [] ∧ h_ = h0) (StrChars.Road.eqW (W := 0) hZ (own_hwordsEq hw) (kI := 4) (hw _ (List.mem_of_getElem? (i := 8) rfl)) S_x.1 S_x.2.2.1 S_x.2.1 S_x.2.2.2 (own_cod hp) (own_up hp) lx S_y.1 S_y.2.2.1 S_y.2.1 S_y.2.2.2 (own_cod hq) (own_up hq) ly (Sco.ext O.2) hzc (by decide) (by decide)) (by decide) hown (hw _ (List.mem_of_getElem? (i := 97) rfl)) (hw _ (List.mem_of_getElem? (i := 98) rfl)) (notFace_of_selects (args := #[]) (mvT hZ (hw _ (List.mem_of_getElem? (i := 100) rfl)))) (hw _ (List.mem_of_getElem? (i := 100) rfl)) (hw _ (List.mem_of_getElem? (i := 99) rfl)) e4 S_x.1 (by rw [hml]; rfl) (argsL := [(.ref y)]) (S := []) (Nat.le_of_ble_eq_true rfl) (by decide) (by decide) pd_oLjava_lang_ObjectcZ rfl rfl (hb hby d19_20) ?_
  rintro vv5 T5 L5 X5 ⟨hv5, rfl, e5⟩
  obtain rfl := own_eqv hv5
  have N5 := Fr.app N0 (Fr.nil n0)
  show Go p_ e_ below _ _ T5 (mkF m_ 23 #[.val (.ref a), .val (.ref b), .val (.ref b)] [(.int (if cs = ds then (1 : Int32) else (0 : Int32)))])
  by_cases hc23_6 : (if cs = ds then (1 : Int32) else (0 : Int32)) = (0 : Int32)
  · skip
    refine Go.ifYes X5 hx (pc' := 30) (hb hby d19_23) ((if0 _ _).trans (teq hc23_6).1) (by decide) (by decide) ?_
    show Go p_ e_ below _ _ T5 (mkF m_ 30 #[.val (.ref a), .val (.ref b), .val (.ref b)] [])
    refine Go.iconst X5 hx (0 : Int32) (hb hby d19_30) rfl ?_
    refine Go.retN X5 hx hret hlk (by simp) (hb hby d19_31) (by decide) (by decide) ?_
    exact ⟨by unfold own_ke; rw [if_pos hc23_6] <;> rfl, N5, e5⟩
  · skip
    refine Go.ifNo X5 hx (hb hby d19_23) ((if0 _ _).trans (feq hc23_6).1) ?_
    show Go p_ e_ below _ _ T5 (mkF m_ 26 #[.val (.ref a), .val (.ref b), .val (.ref b)] [])
    refine Go.iconst X5 hx (1 : Int32) (hb hby d19_26) rfl ?_
    refine Go.goto X5 hx (pc' := 31) (hb hby d19_27) (by decide) (by decide) ?_
    refine Go.retN X5 hx hret hlk (by simp) (hb hby d19_31) (by decide) (by decide) ?_
    exact ⟨by unfold own_ke; rw [if_neg hc23_6] <;> rfl, N5, e5⟩
theorem ef_rm19n (m_ : MethodId) (a : Addr) : entryFrame m_ #[(.ref a), .null] 3 = mkF m_ 0 #[.val (.ref a), .val .null, .unset] [] := by first | (simp [entryFrame, mkF, argsToLocals, Value.category]; done) | rfl
def Q19n (Z : State) (a : Addr)  (h0 : Heap) (n0 : Nat) (v : Option Value) (h : Heap) (L : List Loc) : Prop := v = some (.int 0) ∧ Fr n0 L ∧ h = h0
set_option maxRecDepth 65536 in
set_option maxHeartbeats 40000000 in
theorem rm19n (l : Launch) (Z : State) (a0 : Array Value) (hw : ∀ d ∈ tables_1, d.before a0 Z = true) (ws : List Jvm.Cond) (a : Addr)  (h0 : Heap) (n0 : Nat) (Z0 : n0 ≤ h0.size)  :
    MetFree l (⟨"com/example/safe_retries/saferetries/identity/IdempotencyKey", "equals", "(Ljava/lang/Object;)Z"⟩ : MethodName) (head1 (Jvm.Cond.code (⟨"com/example/safe_retries/saferetries/identity/IdempotencyKey", "equals", "(Ljava/lang/Object;)Z"⟩ : MethodName) prog_16_method_4_code 3 (some .boolean) :: ws) ({ frames := 0, cells := 0, slots := 0, locals := 0 } : Room)) (fun a_ U_ => a_ = #[(.ref a), .null] ∧ Z.Warmed39 U_.vm ∧ U_.heap = h0) (fun _ _ _ _ _ => True) (fun _ U_ o_ V_ => ∃ v_ L_, o_ = .returned v_ ∧ Q19n Z a h0 n0 v_ V_.heap L_ ∧ FrameEnd U_ o_ V_ L_ ({ frames := 0, cells := 0, slots := 0, locals := 0 } : Room).cells ({ frames := 0, cells := 0, slots := 0, locals := 0 } : Room).slots) := by
  refine metOf (Q := Q19n Z a h0 n0) (plainFor_of_name pn_19) ?_
  intro p_ e_ s_ m_ below meth c_ s₁ X0 hx hby hml hret hlk hZ hown hnm e0
  rw [ef_rm19n]
  have N0 := Fr.nil n0
  show Go p_ e_ below _ _ s₁ (mkF m_ 0 #[.val (.ref a), .val .null, .unset] [])
  refine Go.aloadN X0 hx (hb hby d19_0) rfl rfl ?_
  refine Go.instNull X0 hx (hb hby d19_1) ?_
  refine Go.ifYes X0 hx (pc' := 30) (hb hby d19_4) ((if0 _ _).trans (teq rfl).1) (by decide) (by decide) ?_
  show Go p_ e_ below _ _ s₁ (mkF m_ 30 #[.val (.ref a), .val .null, .unset] [])
  refine Go.iconst X0 hx (0 : Int32) (hb hby d19_30) rfl ?_
  refine Go.retN X0 hx hret hlk (by simp) (hb hby d19_31) (by decide) (by decide) ?_
  exact ⟨rfl, N0, e0⟩
theorem ef_rm19o (m_ : MethodId) (a : Addr) (b : Addr) : entryFrame m_ #[(.ref a), (.ref b)] 3 = mkF m_ 0 #[.val (.ref a), .val (.ref b), .unset] [] := by first | (simp [entryFrame, mkF, argsToLocals, Value.category]; done) | rfl
def Q19o (Z : State) (a : Addr) (b : Addr)  (h0 : Heap) (n0 : Nat) (v : Option Value) (h : Heap) (L : List Loc) : Prop := v = some (.int 0) ∧ Fr n0 L ∧ h = h0
set_option maxRecDepth 65536 in
set_option maxHeartbeats 40000000 in
theorem rm19o (l : Launch) (Z : State) (a0 : Array Value) (hw : ∀ d ∈ tables_1, d.before a0 Z = true) (ws : List Jvm.Cond) (a : Addr) (b : Addr)  (h0 : Heap) (n0 : Nat) (Z0 : n0 ≤ h0.size) (E_b : Exa Z h0 b "java/lang/String") :
    MetFree l (⟨"com/example/safe_retries/saferetries/identity/IdempotencyKey", "equals", "(Ljava/lang/Object;)Z"⟩ : MethodName) (head1 (Jvm.Cond.code (⟨"com/example/safe_retries/saferetries/identity/IdempotencyKey", "equals", "(Ljava/lang/Object;)Z"⟩ : MethodName) prog_16_method_4_code 3 (some .boolean) :: ws) ({ frames := 0, cells := 0, slots := 0, locals := 0 } : Room)) (fun a_ U_ => a_ = #[(.ref a), (.ref b)] ∧ Z.Warmed39 U_.vm ∧ U_.heap = h0) (fun _ _ _ _ _ => True) (fun _ U_ o_ V_ => ∃ v_ L_, o_ = .returned v_ ∧ Q19o Z a b h0 n0 v_ V_.heap L_ ∧ FrameEnd U_ o_ V_ L_ ({ frames := 0, cells := 0, slots := 0, locals := 0 } : Room).cells ({ frames := 0, cells := 0, slots := 0, locals := 0 } : Room).slots) := by
  refine metOf (Q := Q19o Z a b h0 n0) (plainFor_of_name pn_19) ?_
  intro p_ e_ s_ m_ below meth c_ s₁ X0 hx hby hml hret hlk hZ hown hnm e0
  rw [ef_rm19o]
  have N0 := Fr.nil n0
  show Go p_ e_ below _ _ s₁ (mkF m_ 0 #[.val (.ref a), .val (.ref b), .unset] [])
  refine Go.aloadN X0 hx (hb hby d19_0) rfl rfl ?_
  refine Go.instNo X0 hx hZ hown (hw _ (List.mem_of_getElem? (i := 95) rfl)) e0 E_b (own_noSub (hw _ (List.mem_of_getElem? (i := 106) rfl)) (hw _ (List.mem_of_getElem? (i := 38) rfl)) (NS.step (hw _ (List.mem_of_getElem? (i := 106) rfl)) (own_nsRoot (hw _ (List.mem_of_getElem? (i := 107) rfl)) (hw _ (List.mem_of_getElem? (i := 38) rfl)) (by decide)) (by decide)) (by decide)) (hb hby d19_1) ?_
  intro T1 X1 e1
  show Go p_ e_ below _ _ T1 (mkF m_ 4 #[.val (.ref a), .val (.ref b), .unset] [(.int (0 : Int32))])
  refine Go.ifYes X1 hx (pc' := 30) (hb hby d19_4) ((if0 _ _).trans (teq rfl).1) (by decide) (by decide) ?_
  show Go p_ e_ below _ _ T1 (mkF m_ 30 #[.val (.ref a), .val (.ref b), .unset] [])
  refine Go.iconst X1 hx (0 : Int32) (hb hby d19_30) rfl ?_
  refine Go.retN X1 hx hret hlk (by simp) (hb hby d19_31) (by decide) (by decide) ?_
  exact ⟨rfl, N0, e1⟩
theorem own_l1 (x : Int32) : 1 ≤ ((1 : Int32) + ((x &&& (3 : Int32)) % (3 : Int32))).toInt ∧ ((1 : Int32) + ((x &&& (3 : Int32)) % (3 : Int32))).toInt ≤ 3 := by
  have h1 : (x &&& 3).toInt = x.toInt % (2 ^ 2 : Nat) := c_mask x 3 2 (by decide) (by decide)
  have h2 := c_irem (x &&& 3) 3 3 (by decide)
  have h3 := c_iadd 1 ((x &&& 3) % 3)
  have e1 : (1 : Int32).toInt = 1 := rfl
  have r := rng32 (1 + (x &&& 3) % 3)
  omega
theorem own_fin (l1 a0 a1 a2 l2 b0 b1 b2 ex : Int32) (h1 : 1 ≤ l1.toInt ∧ l1.toInt ≤ 3) (h2 : 1 ≤ l2.toInt ∧ l2.toInt ≤ 3)
    (h : ex = if l1 = l2 then (if a0 = b0 then (if l1 < (2 : Int32) then (if l1 < (3 : Int32) then (1 : Int32) else (if a2 = b2 then (1 : Int32) else (0 : Int32))) else (if a1 = b1 then (if l1 < (3 : Int32) then (1 : Int32) else (if a2 = b2 then (1 : Int32) else (0 : Int32))) else (0 : Int32))) else (0 : Int32)) else (0 : Int32)) :
    own_ke (own_cs l1 a0 a1 a2) (own_cs l2 b0 b1 b2) = ex ∧ own_ke (own_cs l2 b0 b1 b2) (own_cs l1 a0 a1 a2) = ex := by
  have key : ∀ l : Int32, 1 ≤ l.toInt ∧ l.toInt ≤ 3 → l = 1 ∨ l = 2 ∨ l = 3 := by
    intro l hl
    simp only [← Int32.toInt_inj]
    have e1 : (1 : Int32).toInt = 1 := rfl
    have e2 : (2 : Int32).toInt = 2 := rfl
    have e3 : (3 : Int32).toInt = 3 := rfl
    omega
  have es : ∀ cs ds : List Int32, own_ke ds cs = own_ke cs ds := fun cs ds => by rw [own_ke_eq, own_ke_eq]; simp only [eq_comm]
  rw [es (own_cs l1 a0 a1 a2)]
  suffices hh : own_ke (own_cs l1 a0 a1 a2) (own_cs l2 b0 b1 b2) = ex from ⟨hh, hh⟩
  rw [own_ke_eq]
  subst h
  rcases key l1 h1 with rfl | rfl | rfl <;> rcases key l2 h2 with rfl | rfl | rfl <;> simp [own_cs]
  all_goals (repeat' split) <;> simp_all
theorem own_self (cs : List Int32) : ¬ own_ke cs cs = 0 := by rw [own_ke_eq]; simp
theorem pd_oIIcC : parseMethodDescriptor "(II)C" = some ⟨[.int, .int], some .char⟩ := by decide +kernel
theorem pd_oICCCcLjava_lang_String : parseMethodDescriptor "(ICCC)Ljava/lang/String;" = some ⟨[.int, .char, .char, .char], some (.object "java/lang/String")⟩ := by decide +kernel
theorem pd_oLjava_lang_StringcV : parseMethodDescriptor "(Ljava/lang/String;)V" = some ⟨[(.object "java/lang/String")], none⟩ := by decide +kernel
theorem pn_0 : plainName "com/example/safe_retries/saferetries/identity/IdempotencyKeyEqualsPinLaw" = true := by first | (simp [plainName, overriddenIn]; done) | decide +kernel
theorem ef_rm0 (m_ : MethodId) (p0 : Int32) (p1 : Int32) (p2 : Int32) : entryFrame m_ #[(.int p0), (.int p1), (.int p2)] maxLocals = mkF m_ 0 #[.val (.int p0), .val (.int p1), .val (.int p2), .unset, .unset, .unset, .unset, .unset, .unset, .unset, .unset, .unset, .unset, .unset, .unset, .unset, .unset, .unset] [] := by first | (simp [entryFrame, mkF, argsToLocals, Value.category, maxLocals]; done) | rfl
def Q0 (Z : State) (p0 : Int32) (p1 : Int32) (p2 : Int32) (zc : Int32) (fm : Value) (h0 : Heap) (n0 : Nat) (v : Option Value) (h : Heap) (L : List Loc) : Prop := v = some (.int 1) ∧ Fr n0 L
set_option maxRecDepth 65536 in
set_option maxHeartbeats 40000000 in
theorem rm0 (l : Launch) (Z : State) (a0 : Array Value) (hw : ∀ d ∈ tables_1, d.before a0 Z = true) (ws : List Jvm.Cond) (p0 : Int32) (p1 : Int32) (p2 : Int32) (zc : Int32) (fm : Value) (h0 : Heap) (n0 : Nat) (Z0 : n0 ≤ h0.size) (O : Old Z n0 h0) (Sco : Sta Z Z.heap "java/lang/String" "COMPACT_STRINGS" "Z" (.int zc)) (hzc : ¬ zc = 0) (Sfm : Sta Z Z.heap "jdk/internal/util/Preconditions" "SIOOBE_FORMATTER" "Ljava/util/function/BiFunction;" fm) (rfm : fm.isRef = true) :
    MetFree l x (head1 (Jvm.Cond.code x code maxLocals ret :: ws) room_1) (fun a_ U_ => a_ = #[(.int p0), (.int p1), (.int p2)] ∧ Z.Warmed39 U_.vm ∧ U_.heap = h0) (fun _ _ _ _ _ => True) (fun _ U_ o_ V_ => ∃ v_ L_, o_ = .returned v_ ∧ Q0 Z p0 p1 p2 zc fm h0 n0 v_ V_.heap L_ ∧ ReturnedEndW U_ o_ V_ L_ room_1.cells room_1.slots) := by
  refine metOfW (Q := Q0 Z p0 p1 p2 zc fm h0 n0) (plainFor_of_name pn_0) ?_
  intro p_ e_ s_ m_ below meth c_ s₁ X0 hx hby hml hret hlk hZ hown hnm e0 hS
  have hk : 0 ≤ h0.size := Nat.zero_le _
  rw [ef_rm0]
  have N0 := Fr.nil n0
  have hwS := own_hwS hw
  show Go p_ e_ below _ _ s₁ (mkF m_ 0 #[.val (.int p0), .val (.int p1), .val (.int p2), .unset, .unset, .unset, .unset, .unset, .unset, .unset, .unset, .unset, .unset, .unset, .unset, .unset, .unset, .unset] [])
  refine Go.iconst X0 hx (1 : Int32) (hb hby at_0) rfl ?_
  refine Go.iloadN X0 hx (hb hby at_1) rfl ?_
  refine Go.iconst X0 hx (3 : Int32) (hb hby at_2) rfl ?_
  refine Go.iand X0 hx (hb hby at_3) ?_
  refine Go.iconst X0 hx (3 : Int32) (hb hby at_4) rfl ?_
  refine Go.irem X0 hx (hb hby at_5) (by decide) ?_
  refine Go.iadd X0 hx (hb hby at_6) ?_
  refine Go.istoreN X0 hx (l' := #[.val (.int p0), .val (.int p1), .val (.int p2), .val (.int ((1 : Int32) + ((p2 &&& (3 : Int32)) % (3 : Int32)))), .unset, .unset, .unset, .unset, .unset, .unset, .unset, .unset, .unset, .unset, .unset, .unset, .unset, .unset]) (hb hby at_7) rfl ?_
  have j1 : ∀ (T2 : State) (l2 : List Loc) (sl : Int32), Stand p_ l e_ room_1 (s_.setVm s_.vm) m_ #[(.int p0), (.int p1), (.int p2)] below meth c_ T2 l2 0 0 → Fr n0 l2 → T2.heap = h0 → (sl = (if (((p2.toUInt32 >>> ((2 : Int32) &&& 31).toUInt32).toInt32) &&& (1 : Int32)) = (0 : Int32) then (0 : Int32) else (1 : Int32))) → Go p_ e_ below (WE s_ room_1.cells room_1.slots) (Q0 Z p0 p1 p2 zc fm h0 n0) T2 (mkF m_ 21 #[.val (.int p0), .val (.int p1), .val (.int p2), .val (.int ((1 : Int32) + ((p2 &&& (3 : Int32)) % (3 : Int32)))), .unset, .unset, .unset, .unset, .unset, .unset, .unset, .unset, .unset, .unset, .unset, .unset, .unset, .unset] [(.int sl)]) := by
    intro T2 l2 sl X2 N2 e2  h_sl
    show Go p_ e_ below _ _ T2 (mkF m_ 21 #[.val (.int p0), .val (.int p1), .val (.int p2), .val (.int ((1 : Int32) + ((p2 &&& (3 : Int32)) % (3 : Int32)))), .unset, .unset, .unset, .unset, .unset, .unset, .unset, .unset, .unset, .unset, .unset, .unset, .unset, .unset] [(.int sl)])
    refine Go.istore X2 hx (l' := #[.val (.int p0), .val (.int p1), .val (.int p2), .val (.int ((1 : Int32) + ((p2 &&& (3 : Int32)) % (3 : Int32)))), .val (.int sl), .unset, .unset, .unset, .unset, .unset, .unset, .unset, .unset, .unset, .unset, .unset, .unset, .unset]) (hb hby at_21) rfl ?_
    have j3 : ∀ (T4 : State) (l4 : List Loc) (l2 : Int32), Stand p_ l e_ room_1 (s_.setVm s_.vm) m_ #[(.int p0), (.int p1), (.int p2)] below meth c_ T4 l4 0 0 → Fr n0 l4 → T4.heap = h0 → (1 ≤ l2.toInt ∧ l2.toInt ≤ 3) → Go p_ e_ below (WE s_ room_1.cells room_1.slots) (Q0 Z p0 p1 p2 zc fm h0 n0) T4 (mkF m_ 41 #[.val (.int p0), .val (.int p1), .val (.int p2), .val (.int ((1 : Int32) + ((p2 &&& (3 : Int32)) % (3 : Int32)))), .val (.int sl), .unset, .unset, .unset, .unset, .unset, .unset, .unset, .unset, .unset, .unset, .unset, .unset, .unset] [(.int l2)]) := by
      intro T4 l4 l2 X4 N4 e4  h_j3_0
      have h_l2r := h_j3_0
      show Go p_ e_ below _ _ T4 (mkF m_ 41 #[.val (.int p0), .val (.int p1), .val (.int p2), .val (.int ((1 : Int32) + ((p2 &&& (3 : Int32)) % (3 : Int32)))), .val (.int sl), .unset, .unset, .unset, .unset, .unset, .unset, .unset, .unset, .unset, .unset, .unset, .unset, .unset] [(.int l2)])
      refine Go.istore X4 hx (l' := #[.val (.int p0), .val (.int p1), .val (.int p2), .val (.int ((1 : Int32) + ((p2 &&& (3 : Int32)) % (3 : Int32)))), .val (.int sl), .val (.int l2), .unset, .unset, .unset, .unset, .unset, .unset, .unset, .unset, .unset, .unset, .unset, .unset]) (hb hby at_41) rfl ?_
      refine Go.iloadN X4 hx (hb hby at_43) rfl ?_
      refine Go.iconst X4 hx (0 : Int32) (hb hby at_44) rfl ?_
      refine Go.callS X4 hx hZ (rm1 l Z a0 hw [] p0 (0 : Int32)  h0 n0 Z0 ) hown (hw _ (List.mem_of_getElem? (i := 0) rfl)) (hw _ (List.mem_of_getElem? (i := 1) rfl)) (hw _ (List.mem_of_getElem? (i := 2) rfl)) (hw _ (List.mem_of_getElem? (i := 3) rfl)) (by decide) e4 (W := 0) (by rw [hml]; rfl) (argsL := [(.int p0), (.int (0 : Int32))]) (S := []) (Nat.le_of_ble_eq_true rfl) (by decide) (by decide) (by decide) (by decide) pd_oIIcC rfl rfl (hb hby at_45) ?_
      rintro _ T5 L5 X5 ⟨rfl, N5q, e5⟩
      have N5 := Fr.app N4 N5q
      show Go p_ e_ below _ _ T5 (mkF m_ 48 #[.val (.int p0), .val (.int p1), .val (.int p2), .val (.int ((1 : Int32) + ((p2 &&& (3 : Int32)) % (3 : Int32)))), .val (.int sl), .val (.int l2), .unset, .unset, .unset, .unset, .unset, .unset, .unset, .unset, .unset, .unset, .unset, .unset] [(.int (own_ch p0 (0 : Int32) ))])
      refine Go.istore X5 hx (l' := #[.val (.int p0), .val (.int p1), .val (.int p2), .val (.int ((1 : Int32) + ((p2 &&& (3 : Int32)) % (3 : Int32)))), .val (.int sl), .val (.int l2), .val (.int (own_ch p0 (0 : Int32) )), .unset, .unset, .unset, .unset, .unset, .unset, .unset, .unset, .unset, .unset, .unset]) (hb hby at_48) rfl ?_
      refine Go.iloadN X5 hx (hb hby at_50) rfl ?_
      refine Go.bipush X5 hx (8 : Int32) (hb hby at_51) rfl ?_
      refine Go.callS X5 hx hZ (rm1 l Z a0 hw [] p0 (8 : Int32)  h0 n0 Z0 ) hown (hw _ (List.mem_of_getElem? (i := 0) rfl)) (hw _ (List.mem_of_getElem? (i := 1) rfl)) (hw _ (List.mem_of_getElem? (i := 2) rfl)) (hw _ (List.mem_of_getElem? (i := 3) rfl)) (by decide) e5 (W := 0) (by rw [hml]; rfl) (argsL := [(.int p0), (.int (8 : Int32))]) (S := []) (Nat.le_of_ble_eq_true rfl) (by decide) (by decide) (by decide) (by decide) pd_oIIcC rfl rfl (hb hby at_53) ?_
      rintro _ T6 L6 X6 ⟨rfl, N6q, e6⟩
      have N6 := Fr.app N5 N6q
      show Go p_ e_ below _ _ T6 (mkF m_ 56 #[.val (.int p0), .val (.int p1), .val (.int p2), .val (.int ((1 : Int32) + ((p2 &&& (3 : Int32)) % (3 : Int32)))), .val (.int sl), .val (.int l2), .val (.int (own_ch p0 (0 : Int32) )), .unset, .unset, .unset, .unset, .unset, .unset, .unset, .unset, .unset, .unset, .unset] [(.int (own_ch p0 (8 : Int32) ))])
      refine Go.istore X6 hx (l' := #[.val (.int p0), .val (.int p1), .val (.int p2), .val (.int ((1 : Int32) + ((p2 &&& (3 : Int32)) % (3 : Int32)))), .val (.int sl), .val (.int l2), .val (.int (own_ch p0 (0 : Int32) )), .val (.int (own_ch p0 (8 : Int32) )), .unset, .unset, .unset, .unset, .unset, .unset, .unset, .unset, .unset, .unset]) (hb hby at_56) rfl ?_
      refine Go.iloadN X6 hx (hb hby at_58) rfl ?_
      refine Go.bipush X6 hx (16 : Int32) (hb hby at_59) rfl ?_
      refine Go.callS X6 hx hZ (rm1 l Z a0 hw [] p0 (16 : Int32)  h0 n0 Z0 ) hown (hw _ (List.mem_of_getElem? (i := 0) rfl)) (hw _ (List.mem_of_getElem? (i := 1) rfl)) (hw _ (List.mem_of_getElem? (i := 2) rfl)) (hw _ (List.mem_of_getElem? (i := 3) rfl)) (by decide) e6 (W := 0) (by rw [hml]; rfl) (argsL := [(.int p0), (.int (16 : Int32))]) (S := []) (Nat.le_of_ble_eq_true rfl) (by decide) (by decide) (by decide) (by decide) pd_oIIcC rfl rfl (hb hby at_61) ?_
      rintro _ T7 L7 X7 ⟨rfl, N7q, e7⟩
      have N7 := Fr.app N6 N7q
      show Go p_ e_ below _ _ T7 (mkF m_ 64 #[.val (.int p0), .val (.int p1), .val (.int p2), .val (.int ((1 : Int32) + ((p2 &&& (3 : Int32)) % (3 : Int32)))), .val (.int sl), .val (.int l2), .val (.int (own_ch p0 (0 : Int32) )), .val (.int (own_ch p0 (8 : Int32) )), .unset, .unset, .unset, .unset, .unset, .unset, .unset, .unset, .unset, .unset] [(.int (own_ch p0 (16 : Int32) ))])
      refine Go.istore X7 hx (l' := #[.val (.int p0), .val (.int p1), .val (.int p2), .val (.int ((1 : Int32) + ((p2 &&& (3 : Int32)) % (3 : Int32)))), .val (.int sl), .val (.int l2), .val (.int (own_ch p0 (0 : Int32) )), .val (.int (own_ch p0 (8 : Int32) )), .val (.int (own_ch p0 (16 : Int32) )), .unset, .unset, .unset, .unset, .unset, .unset, .unset, .unset, .unset]) (hb hby at_64) rfl ?_
      have j8 : ∀ (T9 : State) (l9 : List Loc) (b0 : Int32), Stand p_ l e_ room_1 (s_.setVm s_.vm) m_ #[(.int p0), (.int p1), (.int p2)] below meth c_ T9 l9 0 0 → Fr n0 l9 → T9.heap = h0 → (32 ≤ b0.toInt ∧ b0.toInt ≤ 126) → Go p_ e_ below (WE s_ room_1.cells room_1.slots) (Q0 Z p0 p1 p2 zc fm h0 n0) T9 (mkF m_ 84 #[.val (.int p0), .val (.int p1), .val (.int p2), .val (.int ((1 : Int32) + ((p2 &&& (3 : Int32)) % (3 : Int32)))), .val (.int sl), .val (.int l2), .val (.int (own_ch p0 (0 : Int32) )), .val (.int (own_ch p0 (8 : Int32) )), .val (.int (own_ch p0 (16 : Int32) )), .unset, .unset, .unset, .unset, .unset, .unset, .unset, .unset, .unset] [(.int b0)]) := by
        intro T9 l9 b0 X9 N9 e9  h_j8_0
        have h_b0r := h_j8_0
        show Go p_ e_ below _ _ T9 (mkF m_ 84 #[.val (.int p0), .val (.int p1), .val (.int p2), .val (.int ((1 : Int32) + ((p2 &&& (3 : Int32)) % (3 : Int32)))), .val (.int sl), .val (.int l2), .val (.int (own_ch p0 (0 : Int32) )), .val (.int (own_ch p0 (8 : Int32) )), .val (.int (own_ch p0 (16 : Int32) )), .unset, .unset, .unset, .unset, .unset, .unset, .unset, .unset, .unset] [(.int b0)])
        refine Go.istore X9 hx (l' := #[.val (.int p0), .val (.int p1), .val (.int p2), .val (.int ((1 : Int32) + ((p2 &&& (3 : Int32)) % (3 : Int32)))), .val (.int sl), .val (.int l2), .val (.int (own_ch p0 (0 : Int32) )), .val (.int (own_ch p0 (8 : Int32) )), .val (.int (own_ch p0 (16 : Int32) )), .val (.int b0), .unset, .unset, .unset, .unset, .unset, .unset, .unset, .unset]) (hb hby at_84) rfl ?_
        have j10 : ∀ (T11 : State) (l11 : List Loc) (b1 : Int32), Stand p_ l e_ room_1 (s_.setVm s_.vm) m_ #[(.int p0), (.int p1), (.int p2)] below meth c_ T11 l11 0 0 → Fr n0 l11 → T11.heap = h0 → (32 ≤ b1.toInt ∧ b1.toInt ≤ 126) → Go p_ e_ below (WE s_ room_1.cells room_1.slots) (Q0 Z p0 p1 p2 zc fm h0 n0) T11 (mkF m_ 106 #[.val (.int p0), .val (.int p1), .val (.int p2), .val (.int ((1 : Int32) + ((p2 &&& (3 : Int32)) % (3 : Int32)))), .val (.int sl), .val (.int l2), .val (.int (own_ch p0 (0 : Int32) )), .val (.int (own_ch p0 (8 : Int32) )), .val (.int (own_ch p0 (16 : Int32) )), .val (.int b0), .unset, .unset, .unset, .unset, .unset, .unset, .unset, .unset] [(.int b1)]) := by
          intro T11 l11 b1 X11 N11 e11  h_j10_0
          have h_b1r := h_j10_0
          show Go p_ e_ below _ _ T11 (mkF m_ 106 #[.val (.int p0), .val (.int p1), .val (.int p2), .val (.int ((1 : Int32) + ((p2 &&& (3 : Int32)) % (3 : Int32)))), .val (.int sl), .val (.int l2), .val (.int (own_ch p0 (0 : Int32) )), .val (.int (own_ch p0 (8 : Int32) )), .val (.int (own_ch p0 (16 : Int32) )), .val (.int b0), .unset, .unset, .unset, .unset, .unset, .unset, .unset, .unset] [(.int b1)])
          refine Go.istore X11 hx (l' := #[.val (.int p0), .val (.int p1), .val (.int p2), .val (.int ((1 : Int32) + ((p2 &&& (3 : Int32)) % (3 : Int32)))), .val (.int sl), .val (.int l2), .val (.int (own_ch p0 (0 : Int32) )), .val (.int (own_ch p0 (8 : Int32) )), .val (.int (own_ch p0 (16 : Int32) )), .val (.int b0), .val (.int b1), .unset, .unset, .unset, .unset, .unset, .unset, .unset]) (hb hby at_106) rfl ?_
          have j12 : ∀ (T13 : State) (l13 : List Loc) (b2 : Int32), Stand p_ l e_ room_1 (s_.setVm s_.vm) m_ #[(.int p0), (.int p1), (.int p2)] below meth c_ T13 l13 0 0 → Fr n0 l13 → T13.heap = h0 → (32 ≤ b2.toInt ∧ b2.toInt ≤ 126) → Go p_ e_ below (WE s_ room_1.cells room_1.slots) (Q0 Z p0 p1 p2 zc fm h0 n0) T13 (mkF m_ 128 #[.val (.int p0), .val (.int p1), .val (.int p2), .val (.int ((1 : Int32) + ((p2 &&& (3 : Int32)) % (3 : Int32)))), .val (.int sl), .val (.int l2), .val (.int (own_ch p0 (0 : Int32) )), .val (.int (own_ch p0 (8 : Int32) )), .val (.int (own_ch p0 (16 : Int32) )), .val (.int b0), .val (.int b1), .unset, .unset, .unset, .unset, .unset, .unset, .unset] [(.int b2)]) := by
            intro T13 l13 b2 X13 N13 e13  h_j12_0
            have h_b2r := h_j12_0
            show Go p_ e_ below _ _ T13 (mkF m_ 128 #[.val (.int p0), .val (.int p1), .val (.int p2), .val (.int ((1 : Int32) + ((p2 &&& (3 : Int32)) % (3 : Int32)))), .val (.int sl), .val (.int l2), .val (.int (own_ch p0 (0 : Int32) )), .val (.int (own_ch p0 (8 : Int32) )), .val (.int (own_ch p0 (16 : Int32) )), .val (.int b0), .val (.int b1), .unset, .unset, .unset, .unset, .unset, .unset, .unset] [(.int b2)])
            refine Go.istore X13 hx (l' := #[.val (.int p0), .val (.int p1), .val (.int p2), .val (.int ((1 : Int32) + ((p2 &&& (3 : Int32)) % (3 : Int32)))), .val (.int sl), .val (.int l2), .val (.int (own_ch p0 (0 : Int32) )), .val (.int (own_ch p0 (8 : Int32) )), .val (.int (own_ch p0 (16 : Int32) )), .val (.int b0), .val (.int b1), .val (.int b2), .unset, .unset, .unset, .unset, .unset, .unset]) (hb hby at_128) rfl ?_
            refine Go.iloadN X13 hx (hb hby at_130) rfl ?_
            refine Go.bipush X13 hx (8 : Int32) (hb hby at_131) rfl ?_
            refine Go.iushr X13 hx (hb hby at_133) ?_
            refine Go.iconst X13 hx (3 : Int32) (hb hby at_134) rfl ?_
            refine Go.iand X13 hx (hb hby at_135) ?_
            refine Go.istore X13 hx (l' := #[.val (.int p0), .val (.int p1), .val (.int p2), .val (.int ((1 : Int32) + ((p2 &&& (3 : Int32)) % (3 : Int32)))), .val (.int sl), .val (.int l2), .val (.int (own_ch p0 (0 : Int32) )), .val (.int (own_ch p0 (8 : Int32) )), .val (.int (own_ch p0 (16 : Int32) )), .val (.int b0), .val (.int b1), .val (.int b2), .val (.int (((p2.toUInt32 >>> ((8 : Int32) &&& 31).toUInt32).toInt32) &&& (3 : Int32))), .unset, .unset, .unset, .unset, .unset]) (hb hby at_136) rfl ?_
            refine Go.iloadN X13 hx (hb hby at_138) rfl ?_
            refine Go.iload X13 hx (hb hby at_139) rfl ?_
            refine Go.iload X13 hx (hb hby at_141) rfl ?_
            refine Go.iload X13 hx (hb hby at_143) rfl ?_
            refine Go.callS X13 hx hZ (rm2 l Z a0 hw [] ((1 : Int32) + ((p2 &&& (3 : Int32)) % (3 : Int32))) (own_ch p0 (0 : Int32) ) (own_ch p0 (8 : Int32) ) (own_ch p0 (16 : Int32) ) zc h0 n0 Z0 O Sco hzc (own_pr (own_chr _ _)).1 (own_pr (own_chr _ _)).1 (own_pr (own_chr _ _)).1) hown (hw _ (List.mem_of_getElem? (i := 4) rfl)) (hw _ (List.mem_of_getElem? (i := 5) rfl)) (hw _ (List.mem_of_getElem? (i := 2) rfl)) (hw _ (List.mem_of_getElem? (i := 6) rfl)) (by decide) e13 (W := 0) (by rw [hml]; rfl) (argsL := [(.int ((1 : Int32) + ((p2 &&& (3 : Int32)) % (3 : Int32)))), (.int (own_ch p0 (0 : Int32) )), (.int (own_ch p0 (8 : Int32) )), (.int (own_ch p0 (16 : Int32) ))]) (S := []) (Nat.le_of_ble_eq_true rfl) (by decide) (by decide) (by decide) (by decide) pd_oICCCcLjava_lang_String rfl rfl (hb hby at_145) ?_
            rintro _ T14 L14 X14 ⟨x14, t14, kb14, rfl, N14q, K14, g_x14, g_t14, zx14, zt14, ne14, S_x14⟩
            have N14 := Fr.app N13 N14q
            have O_14_ := O.keep K14 all0
            have Z14 : n0 ≤ T14.heap.size := Nat.le_trans Z0 K14.1
            have hk14 : _ ≤ T14.heap.size := Nat.le_trans hk K14.1
            show Go p_ e_ below _ _ T14 (mkF m_ 148 #[.val (.int p0), .val (.int p1), .val (.int p2), .val (.int ((1 : Int32) + ((p2 &&& (3 : Int32)) % (3 : Int32)))), .val (.int sl), .val (.int l2), .val (.int (own_ch p0 (0 : Int32) )), .val (.int (own_ch p0 (8 : Int32) )), .val (.int (own_ch p0 (16 : Int32) )), .val (.int b0), .val (.int b1), .val (.int b2), .val (.int (((p2.toUInt32 >>> ((8 : Int32) &&& 31).toUInt32).toInt32) &&& (3 : Int32))), .unset, .unset, .unset, .unset, .unset] [(.ref x14)])
            refine Go.astore X14 hx (l' := #[.val (.int p0), .val (.int p1), .val (.int p2), .val (.int ((1 : Int32) + ((p2 &&& (3 : Int32)) % (3 : Int32)))), .val (.int sl), .val (.int l2), .val (.int (own_ch p0 (0 : Int32) )), .val (.int (own_ch p0 (8 : Int32) )), .val (.int (own_ch p0 (16 : Int32) )), .val (.int b0), .val (.int b1), .val (.int b2), .val (.int (((p2.toUInt32 >>> ((8 : Int32) &&& 31).toUInt32).toInt32) &&& (3 : Int32))), .val (.ref x14), .unset, .unset, .unset, .unset]) (hb hby at_148) rfl rfl ?_
            refine Go.iload X14 hx (hb hby at_150) rfl ?_
            refine Go.iload X14 hx (hb hby at_152) rfl ?_
            refine Go.iload X14 hx (hb hby at_154) rfl ?_
            refine Go.iload X14 hx (hb hby at_156) rfl ?_
            refine Go.callS X14 hx hZ (rm2 l Z a0 hw [] l2 b0 b1 b2 zc T14.heap n0 Z14 O_14_ Sco hzc (own_pr h_b0r).1 (own_pr h_b1r).1 (own_pr h_b2r).1) hown (hw _ (List.mem_of_getElem? (i := 4) rfl)) (hw _ (List.mem_of_getElem? (i := 5) rfl)) (hw _ (List.mem_of_getElem? (i := 2) rfl)) (hw _ (List.mem_of_getElem? (i := 6) rfl)) (by decide) rfl (W := 0) (by rw [hml]; rfl) (argsL := [(.int l2), (.int b0), (.int b1), (.int b2)]) (S := []) (Nat.le_of_ble_eq_true rfl) (by decide) (by decide) (by decide) (by decide) pd_oICCCcLjava_lang_String rfl rfl (hb hby at_158) ?_
            rintro _ T15 L15 X15 ⟨x15, t15, kb15, rfl, N15q, K15, g_x15, g_t15, zx15, zt15, ne15, S_x15⟩
            have N15 := Fr.app N14 N15q
            have ne_x14_x15 : x14 ≠ x15 := Nat.ne_of_lt (Nat.lt_of_lt_of_le S_x14.ltx zx15)
            have ne_t14_x15 : t14 ≠ x15 := Nat.ne_of_lt (Nat.lt_of_lt_of_le S_x14.ltt zx15)
            have ne_x14_t15 : x14 ≠ t15 := Nat.ne_of_lt (Nat.lt_of_lt_of_le S_x14.ltx zt15)
            have ne_t14_t15 : t14 ≠ t15 := Nat.ne_of_lt (Nat.lt_of_lt_of_le S_x14.ltt zt15)
            have O_15_ := O_14_.keep K15 all0
            have S15_x14 := S_x14.keep K15 nin0 nin0
            have Z15 : n0 ≤ T15.heap.size := Nat.le_trans Z14 K15.1
            have hk15 : _ ≤ T15.heap.size := Nat.le_trans hk14 K15.1
            show Go p_ e_ below _ _ T15 (mkF m_ 161 #[.val (.int p0), .val (.int p1), .val (.int p2), .val (.int ((1 : Int32) + ((p2 &&& (3 : Int32)) % (3 : Int32)))), .val (.int sl), .val (.int l2), .val (.int (own_ch p0 (0 : Int32) )), .val (.int (own_ch p0 (8 : Int32) )), .val (.int (own_ch p0 (16 : Int32) )), .val (.int b0), .val (.int b1), .val (.int b2), .val (.int (((p2.toUInt32 >>> ((8 : Int32) &&& 31).toUInt32).toInt32) &&& (3 : Int32))), .val (.ref x14), .unset, .unset, .unset, .unset] [(.ref x15)])
            refine Go.astore X15 hx (l' := #[.val (.int p0), .val (.int p1), .val (.int p2), .val (.int ((1 : Int32) + ((p2 &&& (3 : Int32)) % (3 : Int32)))), .val (.int sl), .val (.int l2), .val (.int (own_ch p0 (0 : Int32) )), .val (.int (own_ch p0 (8 : Int32) )), .val (.int (own_ch p0 (16 : Int32) )), .val (.int b0), .val (.int b1), .val (.int b2), .val (.int (((p2.toUInt32 >>> ((8 : Int32) &&& 31).toUInt32).toInt32) &&& (3 : Int32))), .val (.ref x14), .val (.ref x15), .unset, .unset, .unset]) (hb hby at_161) rfl rfl ?_
            refine Go.newO X15 hx hZ hown (hw _ (List.mem_of_getElem? (i := 37) rfl)) (hw _ (List.mem_of_getElem? (i := 38) rfl)) (hw _ (List.mem_of_getElem? (i := 39) rfl)) rfl (hb hby at_163) (by decide) (by decide) ?_
            intro T16 h16 b16 zq16 X16 e16 E16 A16 D16
            have ne_x14_b16 : x14 ≠ b16 := Nat.ne_of_lt (Nat.lt_of_lt_of_le S15_x14.ltx (Nat.le_of_eq zq16.symm))
            have ne_t14_b16 : t14 ≠ b16 := Nat.ne_of_lt (Nat.lt_of_lt_of_le S15_x14.ltt (Nat.le_of_eq zq16.symm))
            have ne_x15_b16 : x15 ≠ b16 := Nat.ne_of_lt (Nat.lt_of_lt_of_le S_x15.ltx (Nat.le_of_eq zq16.symm))
            have ne_t15_b16 : t15 ≠ b16 := Nat.ne_of_lt (Nat.lt_of_lt_of_le S_x15.ltt (Nat.le_of_eq zq16.symm))
            have g_b16 : n0 ≤ b16 := Nat.le_trans Z15 (Nat.le_of_eq zq16.symm)
            have Z16 : n0 ≤ h16.size := Nat.le_trans Z15 E16.1
            have hk16 : _ ≤ h16.size := Nat.le_trans hk15 E16.1
            have O_16_ := O_15_.ext E16
            have S16_x14 := S15_x14.ext E16
            have S16_x15 := S_x15.ext E16
            have F_b16_value : Fld Z h16 b16 "com/example/safe_retries/saferetries/identity/IdempotencyKey" "value" "Ljava/lang/String;" .null := D16 (Or.inr (hw _ (List.mem_of_getElem? (i := 89) rfl))) (ty := (.object "java/lang/String")) (by decide)
            show Go p_ e_ below _ _ T16 (mkF m_ 166 #[.val (.int p0), .val (.int p1), .val (.int p2), .val (.int ((1 : Int32) + ((p2 &&& (3 : Int32)) % (3 : Int32)))), .val (.int sl), .val (.int l2), .val (.int (own_ch p0 (0 : Int32) )), .val (.int (own_ch p0 (8 : Int32) )), .val (.int (own_ch p0 (16 : Int32) )), .val (.int b0), .val (.int b1), .val (.int b2), .val (.int (((p2.toUInt32 >>> ((8 : Int32) &&& 31).toUInt32).toInt32) &&& (3 : Int32))), .val (.ref x14), .val (.ref x15), .unset, .unset, .unset] [(.ref b16)])
            refine Go.dup X16 hx (hb hby at_166) rfl ?_
            refine Go.aload X16 hx (hb hby at_167) rfl rfl ?_
            refine Go.callIS X16 hx hZ (rm9 l Z a0 hw [] b16 x14 t14 kb14 (own_cs ((1 : Int32) + ((p2 &&& (3 : Int32)) % (3 : Int32))) (own_ch p0 (0 : Int32) ) (own_ch p0 (8 : Int32) ) (own_ch p0 (16 : Int32) )) zc fm h16 n0 Z16 O_16_ Sco hzc Sfm rfm A16 F_b16_value g_b16 S16_x14 (own_all (P := fun c => ¬ c < 0 ∧ ¬ (255 : Int32) < c) (own_pr (own_chr _ _)).1 (own_pr (own_chr _ _)).1 (own_pr (own_chr _ _)).1) (own_all (P := fun c => ¬ c < (32 : Int32) ∧ ¬ (126 : Int32) < c) (own_pr (own_chr _ _)).2 (own_pr (own_chr _ _)).2 (own_pr (own_chr _ _)).2) ⟨(own_csl _ _ _ _).1, Nat.le_trans (own_csl _ _ _ _).2 (by decide)⟩ ne_x14_b16 ne_t14_b16) rfl hown (hw _ (List.mem_of_getElem? (i := 40) rfl)) (hw _ (List.mem_of_getElem? (i := 41) rfl)) (hw _ (List.mem_of_getElem? (i := 39) rfl)) (hw _ (List.mem_of_getElem? (i := 42) rfl)) (by decide) hS e16 hk16 (a := b16) (W := 1) (by rw [hml]; rfl) (argsL := [(.ref x14)]) (S := [(.ref b16)]) (Nat.le_of_ble_eq_true rfl) (by decide) (by decide) (by decide) (by decide) pd_oLjava_lang_StringcV rfl rfl (hb hby at_169) ?_
            rintro _ T17 L17 X17 ⟨rfl, N17q, K17, E17, Fv17⟩ hS17 hg17 hZ hown
            have N17 := Fr.app N15 N17q
            have O_17_ := O_16_.keep K17 (allS g_b16 all0)
            have S17_x14 := S16_x14.keep K17 (ninS ne_x14_b16 nin0) (ninS ne_t14_b16 nin0)
            have S17_x15 := S16_x15.keep K17 (ninS ne_x15_b16 nin0) (ninS ne_t15_b16 nin0)
            have Z17 : n0 ≤ T17.heap.size := Nat.le_trans Z16 K17.1
            have hk17 : _ ≤ T17.heap.size := Nat.le_trans hk16 K17.1
            show Go p_ e_ below _ _ T17 (mkF m_ 172 #[.val (.int p0), .val (.int p1), .val (.int p2), .val (.int ((1 : Int32) + ((p2 &&& (3 : Int32)) % (3 : Int32)))), .val (.int sl), .val (.int l2), .val (.int (own_ch p0 (0 : Int32) )), .val (.int (own_ch p0 (8 : Int32) )), .val (.int (own_ch p0 (16 : Int32) )), .val (.int b0), .val (.int b1), .val (.int b2), .val (.int (((p2.toUInt32 >>> ((8 : Int32) &&& 31).toUInt32).toInt32) &&& (3 : Int32))), .val (.ref x14), .val (.ref x15), .unset, .unset, .unset] [(.ref b16)])
            refine Go.astore X17 hx (l' := #[.val (.int p0), .val (.int p1), .val (.int p2), .val (.int ((1 : Int32) + ((p2 &&& (3 : Int32)) % (3 : Int32)))), .val (.int sl), .val (.int l2), .val (.int (own_ch p0 (0 : Int32) )), .val (.int (own_ch p0 (8 : Int32) )), .val (.int (own_ch p0 (16 : Int32) )), .val (.int b0), .val (.int b1), .val (.int b2), .val (.int (((p2.toUInt32 >>> ((8 : Int32) &&& 31).toUInt32).toInt32) &&& (3 : Int32))), .val (.ref x14), .val (.ref x15), .val (.ref b16), .unset, .unset]) (hb hby at_172) rfl rfl ?_
            refine Go.iload X17 hx (hb hby at_174) rfl ?_
            refine Go.iconst X17 hx (2 : Int32) (hb hby at_176) rfl ?_
            by_cases hc177_18 : (((p2.toUInt32 >>> ((8 : Int32) &&& 31).toUInt32).toInt32) &&& (3 : Int32)) = (2 : Int32)
            · skip
              refine Go.icmpNo X17 hx (hb hby at_177) (teq hc177_18).2 ?_
              show Go p_ e_ below _ _ T17 (mkF m_ 180 #[.val (.int p0), .val (.int p1), .val (.int p2), .val (.int ((1 : Int32) + ((p2 &&& (3 : Int32)) % (3 : Int32)))), .val (.int sl), .val (.int l2), .val (.int (own_ch p0 (0 : Int32) )), .val (.int (own_ch p0 (8 : Int32) )), .val (.int (own_ch p0 (16 : Int32) )), .val (.int b0), .val (.int b1), .val (.int b2), .val (.int (((p2.toUInt32 >>> ((8 : Int32) &&& 31).toUInt32).toInt32) &&& (3 : Int32))), .val (.ref x14), .val (.ref x15), .val (.ref b16), .unset, .unset] [])
              refine Go.aload X17 hx (hb hby at_180) rfl rfl ?_
              refine Go.aconstNull X17 hx (hb hby at_182) ?_
              refine Go.callV X17 hx hZ (y0 := (⟨"com/example/safe_retries/saferetries/identity/IdempotencyKey", "equals", "(Ljava/lang/Object;)Z"⟩ : MethodName)) (rm19n l Z a0 hw [] b16 T17.heap n0 Z17) (by decide) hown (hw _ (List.mem_of_getElem? (i := 90) rfl)) (hw _ (List.mem_of_getElem? (i := 91) rfl)) (notFace_of_selects (args := #[]) (mvT hZ (hw _ (List.mem_of_getElem? (i := 93) rfl)))) (hw _ (List.mem_of_getElem? (i := 93) rfl)) (hw _ (List.mem_of_getElem? (i := 92) rfl)) (hw _ (List.mem_of_getElem? (i := 39) rfl)) (hw _ (List.mem_of_getElem? (i := 94) rfl)) rfl E17 (W := 0) (by rw [hml]; rfl) (argsL := [.null]) (S := []) (Nat.le_of_ble_eq_true rfl) (by decide) (by decide) (by decide) (by decide) pd_oLjava_lang_ObjectcZ rfl rfl (hb hby at_183) ?_
              rintro _ T19 L19 X19 ⟨rfl, N19q, e19⟩
              have N19 := Fr.app N17 N19q
              show Go p_ e_ below _ _ T19 (mkF m_ 186 #[.val (.int p0), .val (.int p1), .val (.int p2), .val (.int ((1 : Int32) + ((p2 &&& (3 : Int32)) % (3 : Int32)))), .val (.int sl), .val (.int l2), .val (.int (own_ch p0 (0 : Int32) )), .val (.int (own_ch p0 (8 : Int32) )), .val (.int (own_ch p0 (16 : Int32) )), .val (.int b0), .val (.int b1), .val (.int b2), .val (.int (((p2.toUInt32 >>> ((8 : Int32) &&& 31).toUInt32).toInt32) &&& (3 : Int32))), .val (.ref x14), .val (.ref x15), .val (.ref b16), .unset, .unset] [(.int (0 : Int32))])
              refine Go.ifNo X19 hx (hb hby at_186) ((if0 _ _).trans (teq rfl).2) ?_
              show Go p_ e_ below _ _ T19 (mkF m_ 189 #[.val (.int p0), .val (.int p1), .val (.int p2), .val (.int ((1 : Int32) + ((p2 &&& (3 : Int32)) % (3 : Int32)))), .val (.int sl), .val (.int l2), .val (.int (own_ch p0 (0 : Int32) )), .val (.int (own_ch p0 (8 : Int32) )), .val (.int (own_ch p0 (16 : Int32) )), .val (.int b0), .val (.int b1), .val (.int b2), .val (.int (((p2.toUInt32 >>> ((8 : Int32) &&& 31).toUInt32).toInt32) &&& (3 : Int32))), .val (.ref x14), .val (.ref x15), .val (.ref b16), .unset, .unset] [])
              refine Go.iconst X19 hx (1 : Int32) (hb hby at_189) rfl ?_
              refine Go.goto X19 hx (pc' := 194) (hb hby at_190) (by decide) (by decide) ?_
              refine Go.retNW X19 hx hS17 e19 (Nat.le_refl _) hret hlk (by simp) (hb hby at_194) (by decide) (by decide) ?_
              exact ⟨rfl, N19⟩
            · skip
              refine Go.icmpYes X17 hx (pc' := 195) (hb hby at_177) (feq hc177_18).2 (by decide) (by decide) ?_
              show Go p_ e_ below _ _ T17 (mkF m_ 195 #[.val (.int p0), .val (.int p1), .val (.int p2), .val (.int ((1 : Int32) + ((p2 &&& (3 : Int32)) % (3 : Int32)))), .val (.int sl), .val (.int l2), .val (.int (own_ch p0 (0 : Int32) )), .val (.int (own_ch p0 (8 : Int32) )), .val (.int (own_ch p0 (16 : Int32) )), .val (.int b0), .val (.int b1), .val (.int b2), .val (.int (((p2.toUInt32 >>> ((8 : Int32) &&& 31).toUInt32).toInt32) &&& (3 : Int32))), .val (.ref x14), .val (.ref x15), .val (.ref b16), .unset, .unset] [])
              refine Go.iload X17 hx (hb hby at_195) rfl ?_
              refine Go.iconst X17 hx (3 : Int32) (hb hby at_197) rfl ?_
              by_cases hc198_20 : (((p2.toUInt32 >>> ((8 : Int32) &&& 31).toUInt32).toInt32) &&& (3 : Int32)) = (3 : Int32)
              · skip
                refine Go.icmpNo X17 hx (hb hby at_198) (teq hc198_20).2 ?_
                show Go p_ e_ below _ _ T17 (mkF m_ 201 #[.val (.int p0), .val (.int p1), .val (.int p2), .val (.int ((1 : Int32) + ((p2 &&& (3 : Int32)) % (3 : Int32)))), .val (.int sl), .val (.int l2), .val (.int (own_ch p0 (0 : Int32) )), .val (.int (own_ch p0 (8 : Int32) )), .val (.int (own_ch p0 (16 : Int32) )), .val (.int b0), .val (.int b1), .val (.int b2), .val (.int (((p2.toUInt32 >>> ((8 : Int32) &&& 31).toUInt32).toInt32) &&& (3 : Int32))), .val (.ref x14), .val (.ref x15), .val (.ref b16), .unset, .unset] [])
                refine Go.aload X17 hx (hb hby at_201) rfl rfl ?_
                refine Go.aload X17 hx (hb hby at_203) rfl rfl ?_
                refine Go.callV X17 hx hZ (y0 := (⟨"com/example/safe_retries/saferetries/identity/IdempotencyKey", "equals", "(Ljava/lang/Object;)Z"⟩ : MethodName)) (rm19o l Z a0 hw [] b16 x14 T17.heap n0 Z17 S17_x14.1) (by decide) hown (hw _ (List.mem_of_getElem? (i := 90) rfl)) (hw _ (List.mem_of_getElem? (i := 91) rfl)) (notFace_of_selects (args := #[]) (mvT hZ (hw _ (List.mem_of_getElem? (i := 93) rfl)))) (hw _ (List.mem_of_getElem? (i := 93) rfl)) (hw _ (List.mem_of_getElem? (i := 92) rfl)) (hw _ (List.mem_of_getElem? (i := 39) rfl)) (hw _ (List.mem_of_getElem? (i := 94) rfl)) rfl E17 (W := 0) (by rw [hml]; rfl) (argsL := [(.ref x14)]) (S := []) (Nat.le_of_ble_eq_true rfl) (by decide) (by decide) (by decide) (by decide) pd_oLjava_lang_ObjectcZ rfl rfl (hb hby at_205) ?_
                rintro _ T21 L21 X21 ⟨rfl, N21q, e21⟩
                have N21 := Fr.app N17 N21q
                show Go p_ e_ below _ _ T21 (mkF m_ 208 #[.val (.int p0), .val (.int p1), .val (.int p2), .val (.int ((1 : Int32) + ((p2 &&& (3 : Int32)) % (3 : Int32)))), .val (.int sl), .val (.int l2), .val (.int (own_ch p0 (0 : Int32) )), .val (.int (own_ch p0 (8 : Int32) )), .val (.int (own_ch p0 (16 : Int32) )), .val (.int b0), .val (.int b1), .val (.int b2), .val (.int (((p2.toUInt32 >>> ((8 : Int32) &&& 31).toUInt32).toInt32) &&& (3 : Int32))), .val (.ref x14), .val (.ref x15), .val (.ref b16), .unset, .unset] [(.int (0 : Int32))])
                refine Go.ifNo X21 hx (hb hby at_208) ((if0 _ _).trans (teq rfl).2) ?_
                show Go p_ e_ below _ _ T21 (mkF m_ 211 #[.val (.int p0), .val (.int p1), .val (.int p2), .val (.int ((1 : Int32) + ((p2 &&& (3 : Int32)) % (3 : Int32)))), .val (.int sl), .val (.int l2), .val (.int (own_ch p0 (0 : Int32) )), .val (.int (own_ch p0 (8 : Int32) )), .val (.int (own_ch p0 (16 : Int32) )), .val (.int b0), .val (.int b1), .val (.int b2), .val (.int (((p2.toUInt32 >>> ((8 : Int32) &&& 31).toUInt32).toInt32) &&& (3 : Int32))), .val (.ref x14), .val (.ref x15), .val (.ref b16), .unset, .unset] [])
                refine Go.iconst X21 hx (1 : Int32) (hb hby at_211) rfl ?_
                refine Go.goto X21 hx (pc' := 216) (hb hby at_212) (by decide) (by decide) ?_
                refine Go.retNW X21 hx hS17 e21 (Nat.le_refl _) hret hlk (by simp) (hb hby at_216) (by decide) (by decide) ?_
                exact ⟨rfl, N21⟩
              · skip
                refine Go.icmpYes X17 hx (pc' := 217) (hb hby at_198) (feq hc198_20).2 (by decide) (by decide) ?_
                show Go p_ e_ below _ _ T17 (mkF m_ 217 #[.val (.int p0), .val (.int p1), .val (.int p2), .val (.int ((1 : Int32) + ((p2 &&& (3 : Int32)) % (3 : Int32)))), .val (.int sl), .val (.int l2), .val (.int (own_ch p0 (0 : Int32) )), .val (.int (own_ch p0 (8 : Int32) )), .val (.int (own_ch p0 (16 : Int32) )), .val (.int b0), .val (.int b1), .val (.int b2), .val (.int (((p2.toUInt32 >>> ((8 : Int32) &&& 31).toUInt32).toInt32) &&& (3 : Int32))), .val (.ref x14), .val (.ref x15), .val (.ref b16), .unset, .unset] [])
                refine Go.newO X17 hx hZ hown (hw _ (List.mem_of_getElem? (i := 37) rfl)) (hw _ (List.mem_of_getElem? (i := 38) rfl)) (hw _ (List.mem_of_getElem? (i := 39) rfl)) rfl (hb hby at_217) (by decide) (by decide) ?_
                intro T22 h22 b22 zq22 X22 e22 E22 A22 D22
                have ne_x14_b22 : x14 ≠ b22 := Nat.ne_of_lt (Nat.lt_of_lt_of_le S17_x14.ltx (Nat.le_of_eq zq22.symm))
                have ne_t14_b22 : t14 ≠ b22 := Nat.ne_of_lt (Nat.lt_of_lt_of_le S17_x14.ltt (Nat.le_of_eq zq22.symm))
                have ne_x15_b22 : x15 ≠ b22 := Nat.ne_of_lt (Nat.lt_of_lt_of_le S17_x15.ltx (Nat.le_of_eq zq22.symm))
                have ne_t15_b22 : t15 ≠ b22 := Nat.ne_of_lt (Nat.lt_of_lt_of_le S17_x15.ltt (Nat.le_of_eq zq22.symm))
                have ne_b16_b22 : b16 ≠ b22 := Nat.ne_of_lt (Nat.lt_of_lt_of_le E17.lt (Nat.le_of_eq zq22.symm))
                have g_b22 : n0 ≤ b22 := Nat.le_trans Z17 (Nat.le_of_eq zq22.symm)
                have Z22 : n0 ≤ h22.size := Nat.le_trans Z17 E22.1
                have hk22 : _ ≤ h22.size := Nat.le_trans (Nat.le_refl _) E22.1
                have O_22_ := O_17_.ext E22
                have E_22_b16 := E17.ext E22
                have F_22_b16_value := Fv17.ext E22
                have S22_x14 := S17_x14.ext E22
                have S22_x15 := S17_x15.ext E22
                have F_b22_value : Fld Z h22 b22 "com/example/safe_retries/saferetries/identity/IdempotencyKey" "value" "Ljava/lang/String;" .null := D22 (Or.inr (hw _ (List.mem_of_getElem? (i := 89) rfl))) (ty := (.object "java/lang/String")) (by decide)
                show Go p_ e_ below _ _ T22 (mkF m_ 220 #[.val (.int p0), .val (.int p1), .val (.int p2), .val (.int ((1 : Int32) + ((p2 &&& (3 : Int32)) % (3 : Int32)))), .val (.int sl), .val (.int l2), .val (.int (own_ch p0 (0 : Int32) )), .val (.int (own_ch p0 (8 : Int32) )), .val (.int (own_ch p0 (16 : Int32) )), .val (.int b0), .val (.int b1), .val (.int b2), .val (.int (((p2.toUInt32 >>> ((8 : Int32) &&& 31).toUInt32).toInt32) &&& (3 : Int32))), .val (.ref x14), .val (.ref x15), .val (.ref b16), .unset, .unset] [(.ref b22)])
                refine Go.dup X22 hx (hb hby at_220) rfl ?_
                refine Go.aload X22 hx (hb hby at_221) rfl rfl ?_
                refine Go.callIS X22 hx hZ (rm9 l Z a0 hw [] b22 x15 t15 kb15 (own_cs l2 b0 b1 b2) zc fm h22 n0 Z22 O_22_ Sco hzc Sfm rfm A22 F_b22_value g_b22 S22_x15 (own_all (P := fun c => ¬ c < 0 ∧ ¬ (255 : Int32) < c) (own_pr h_b0r).1 (own_pr h_b1r).1 (own_pr h_b2r).1) (own_all (P := fun c => ¬ c < (32 : Int32) ∧ ¬ (126 : Int32) < c) (own_pr h_b0r).2 (own_pr h_b1r).2 (own_pr h_b2r).2) ⟨(own_csl _ _ _ _).1, Nat.le_trans (own_csl _ _ _ _).2 (by decide)⟩ ne_x15_b22 ne_t15_b22) rfl hown (hw _ (List.mem_of_getElem? (i := 40) rfl)) (hw _ (List.mem_of_getElem? (i := 41) rfl)) (hw _ (List.mem_of_getElem? (i := 39) rfl)) (hw _ (List.mem_of_getElem? (i := 42) rfl)) (by decide) hS17 e22 hk22 (a := b22) (W := 1) (by rw [hml]; rfl) (argsL := [(.ref x15)]) (S := [(.ref b22)]) (Nat.le_of_ble_eq_true rfl) (by decide) (by decide) (by decide) (by decide) pd_oLjava_lang_StringcV rfl rfl (hb hby at_223) ?_
                rintro _ T23 L23 X23 ⟨rfl, N23q, K23, E23, Fv23⟩ hS23 hg23 hZ hown
                have N23 := Fr.app N17 N23q
                have O_23_ := O_22_.keep K23 (allS g_b22 all0)
                have E_23_b16 := E_22_b16.keep K23
                have F_23_b16_value := F_22_b16_value.keep K23 (ninS ne_b16_b22 nin0)
                have S23_x14 := S22_x14.keep K23 (ninS ne_x14_b22 nin0) (ninS ne_t14_b22 nin0)
                have S23_x15 := S22_x15.keep K23 (ninS ne_x15_b22 nin0) (ninS ne_t15_b22 nin0)
                have Z23 : n0 ≤ T23.heap.size := Nat.le_trans Z22 K23.1
                have hk23 : _ ≤ T23.heap.size := Nat.le_trans hk22 K23.1
                show Go p_ e_ below _ _ T23 (mkF m_ 226 #[.val (.int p0), .val (.int p1), .val (.int p2), .val (.int ((1 : Int32) + ((p2 &&& (3 : Int32)) % (3 : Int32)))), .val (.int sl), .val (.int l2), .val (.int (own_ch p0 (0 : Int32) )), .val (.int (own_ch p0 (8 : Int32) )), .val (.int (own_ch p0 (16 : Int32) )), .val (.int b0), .val (.int b1), .val (.int b2), .val (.int (((p2.toUInt32 >>> ((8 : Int32) &&& 31).toUInt32).toInt32) &&& (3 : Int32))), .val (.ref x14), .val (.ref x15), .val (.ref b16), .unset, .unset] [(.ref b22)])
                refine Go.astore X23 hx (l' := #[.val (.int p0), .val (.int p1), .val (.int p2), .val (.int ((1 : Int32) + ((p2 &&& (3 : Int32)) % (3 : Int32)))), .val (.int sl), .val (.int l2), .val (.int (own_ch p0 (0 : Int32) )), .val (.int (own_ch p0 (8 : Int32) )), .val (.int (own_ch p0 (16 : Int32) )), .val (.int b0), .val (.int b1), .val (.int b2), .val (.int (((p2.toUInt32 >>> ((8 : Int32) &&& 31).toUInt32).toInt32) &&& (3 : Int32))), .val (.ref x14), .val (.ref x15), .val (.ref b16), .val (.ref b22), .unset]) (hb hby at_226) rfl rfl ?_
                have j24 : ∀ (T25 : State) (l25 : List Loc) (ex : Int32), Stand p_ l e_ room_1 (s_.setVm T23.vm) m_ #[(.int p0), (.int p1), (.int p2)] below meth c_ T25 l25 12 70 → Fr n0 l25 → T25.heap = T23.heap → (ex = (if ((1 : Int32) + ((p2 &&& (3 : Int32)) % (3 : Int32))) = l2 then (if (own_ch p0 (0 : Int32) ) = b0 then (if ((1 : Int32) + ((p2 &&& (3 : Int32)) % (3 : Int32))) < (2 : Int32) then (if ((1 : Int32) + ((p2 &&& (3 : Int32)) % (3 : Int32))) < (3 : Int32) then (1 : Int32) else (if (own_ch p0 (16 : Int32) ) = b2 then (1 : Int32) else (0 : Int32))) else (if (own_ch p0 (8 : Int32) ) = b1 then (if ((1 : Int32) + ((p2 &&& (3 : Int32)) % (3 : Int32))) < (3 : Int32) then (1 : Int32) else (if (own_ch p0 (16 : Int32) ) = b2 then (1 : Int32) else (0 : Int32))) else (0 : Int32))) else (0 : Int32)) else (0 : Int32))) → Go p_ e_ below (WE s_ room_1.cells room_1.slots) (Q0 Z p0 p1 p2 zc fm h0 n0) T25 (mkF m_ 270 #[.val (.int p0), .val (.int p1), .val (.int p2), .val (.int ((1 : Int32) + ((p2 &&& (3 : Int32)) % (3 : Int32)))), .val (.int sl), .val (.int l2), .val (.int (own_ch p0 (0 : Int32) )), .val (.int (own_ch p0 (8 : Int32) )), .val (.int (own_ch p0 (16 : Int32) )), .val (.int b0), .val (.int b1), .val (.int b2), .val (.int (((p2.toUInt32 >>> ((8 : Int32) &&& 31).toUInt32).toInt32) &&& (3 : Int32))), .val (.ref x14), .val (.ref x15), .val (.ref b16), .val (.ref b22), .unset] [(.int ex)]) := by
                  intro T25 l25 ex X25 N25 e25  h_ex
                  show Go p_ e_ below _ _ T25 (mkF m_ 270 #[.val (.int p0), .val (.int p1), .val (.int p2), .val (.int ((1 : Int32) + ((p2 &&& (3 : Int32)) % (3 : Int32)))), .val (.int sl), .val (.int l2), .val (.int (own_ch p0 (0 : Int32) )), .val (.int (own_ch p0 (8 : Int32) )), .val (.int (own_ch p0 (16 : Int32) )), .val (.int b0), .val (.int b1), .val (.int b2), .val (.int (((p2.toUInt32 >>> ((8 : Int32) &&& 31).toUInt32).toInt32) &&& (3 : Int32))), .val (.ref x14), .val (.ref x15), .val (.ref b16), .val (.ref b22), .unset] [(.int ex)])
                  refine Go.istore X25 hx (l' := #[.val (.int p0), .val (.int p1), .val (.int p2), .val (.int ((1 : Int32) + ((p2 &&& (3 : Int32)) % (3 : Int32)))), .val (.int sl), .val (.int l2), .val (.int (own_ch p0 (0 : Int32) )), .val (.int (own_ch p0 (8 : Int32) )), .val (.int (own_ch p0 (16 : Int32) )), .val (.int b0), .val (.int b1), .val (.int b2), .val (.int (((p2.toUInt32 >>> ((8 : Int32) &&& 31).toUInt32).toInt32) &&& (3 : Int32))), .val (.ref x14), .val (.ref x15), .val (.ref b16), .val (.ref b22), .val (.int ex)]) (hb hby at_270) rfl ?_
                  refine Go.aload X25 hx (hb hby at_272) rfl rfl ?_
                  refine Go.aload X25 hx (hb hby at_274) rfl rfl ?_
                  refine Go.callV X25 hx hZ (y0 := (⟨"com/example/safe_retries/saferetries/identity/IdempotencyKey", "equals", "(Ljava/lang/Object;)Z"⟩ : MethodName)) (rm19 l Z a0 hw [] b16 b22 x14 t14 kb14 (own_cs ((1 : Int32) + ((p2 &&& (3 : Int32)) % (3 : Int32))) (own_ch p0 (0 : Int32) ) (own_ch p0 (8 : Int32) ) (own_ch p0 (16 : Int32) )) x15 t15 kb15 (own_cs l2 b0 b1 b2) zc T23.heap n0 Z23 O_23_ Sco hzc E23 F_23_b16_value Fv23 S23_x14 (own_all (P := fun c => ¬ c < 0 ∧ ¬ (255 : Int32) < c) (own_pr (own_chr _ _)).1 (own_pr (own_chr _ _)).1 (own_pr (own_chr _ _)).1) (Nat.le_trans (own_csl _ _ _ _).2 (by decide)) S23_x15 (own_all (P := fun c => ¬ c < 0 ∧ ¬ (255 : Int32) < c) (own_pr h_b0r).1 (own_pr h_b1r).1 (own_pr h_b2r).1) (Nat.le_trans (own_csl _ _ _ _).2 (by decide))) (by decide) hown (hw _ (List.mem_of_getElem? (i := 90) rfl)) (hw _ (List.mem_of_getElem? (i := 91) rfl)) (notFace_of_selects (args := #[]) (mvT hZ (hw _ (List.mem_of_getElem? (i := 93) rfl)))) (hw _ (List.mem_of_getElem? (i := 93) rfl)) (hw _ (List.mem_of_getElem? (i := 92) rfl)) (hw _ (List.mem_of_getElem? (i := 39) rfl)) (hw _ (List.mem_of_getElem? (i := 94) rfl)) e25 E_23_b16 (W := 0) (by rw [hml]; rfl) (argsL := [(.ref b22)]) (S := []) (Nat.le_of_ble_eq_true rfl) (by decide) (by decide) (by decide) (by decide) pd_oLjava_lang_ObjectcZ rfl rfl (hb hby at_276) ?_
                  rintro _ T26 L26 X26 ⟨rfl, N26q, e26⟩
                  have N26 := Fr.app N25 N26q
                  show Go p_ e_ below _ _ T26 (mkF m_ 279 #[.val (.int p0), .val (.int p1), .val (.int p2), .val (.int ((1 : Int32) + ((p2 &&& (3 : Int32)) % (3 : Int32)))), .val (.int sl), .val (.int l2), .val (.int (own_ch p0 (0 : Int32) )), .val (.int (own_ch p0 (8 : Int32) )), .val (.int (own_ch p0 (16 : Int32) )), .val (.int b0), .val (.int b1), .val (.int b2), .val (.int (((p2.toUInt32 >>> ((8 : Int32) &&& 31).toUInt32).toInt32) &&& (3 : Int32))), .val (.ref x14), .val (.ref x15), .val (.ref b16), .val (.ref b22), .val (.int ex)] [(.int (own_ke (own_cs ((1 : Int32) + ((p2 &&& (3 : Int32)) % (3 : Int32))) (own_ch p0 (0 : Int32) ) (own_ch p0 (8 : Int32) ) (own_ch p0 (16 : Int32) )) (own_cs l2 b0 b1 b2)))])
                  refine Go.iload X26 hx (hb hby at_279) rfl ?_
                  refine Go.icmpNo X26 hx (hb hby at_281) (teq (own_fin _ _ _ _ _ _ _ _ _ (own_l1 _) h_l2r h_ex).1).2 ?_
                  show Go p_ e_ below _ _ T26 (mkF m_ 284 #[.val (.int p0), .val (.int p1), .val (.int p2), .val (.int ((1 : Int32) + ((p2 &&& (3 : Int32)) % (3 : Int32)))), .val (.int sl), .val (.int l2), .val (.int (own_ch p0 (0 : Int32) )), .val (.int (own_ch p0 (8 : Int32) )), .val (.int (own_ch p0 (16 : Int32) )), .val (.int b0), .val (.int b1), .val (.int b2), .val (.int (((p2.toUInt32 >>> ((8 : Int32) &&& 31).toUInt32).toInt32) &&& (3 : Int32))), .val (.ref x14), .val (.ref x15), .val (.ref b16), .val (.ref b22), .val (.int ex)] [])
                  refine Go.aload X26 hx (hb hby at_284) rfl rfl ?_
                  refine Go.aload X26 hx (hb hby at_286) rfl rfl ?_
                  refine Go.callV X26 hx hZ (y0 := (⟨"com/example/safe_retries/saferetries/identity/IdempotencyKey", "equals", "(Ljava/lang/Object;)Z"⟩ : MethodName)) (rm19 l Z a0 hw [] b22 b16 x15 t15 kb15 (own_cs l2 b0 b1 b2) x14 t14 kb14 (own_cs ((1 : Int32) + ((p2 &&& (3 : Int32)) % (3 : Int32))) (own_ch p0 (0 : Int32) ) (own_ch p0 (8 : Int32) ) (own_ch p0 (16 : Int32) )) zc T23.heap n0 Z23 O_23_ Sco hzc E_23_b16 Fv23 F_23_b16_value S23_x15 (own_all (P := fun c => ¬ c < 0 ∧ ¬ (255 : Int32) < c) (own_pr h_b0r).1 (own_pr h_b1r).1 (own_pr h_b2r).1) (Nat.le_trans (own_csl _ _ _ _).2 (by decide)) S23_x14 (own_all (P := fun c => ¬ c < 0 ∧ ¬ (255 : Int32) < c) (own_pr (own_chr _ _)).1 (own_pr (own_chr _ _)).1 (own_pr (own_chr _ _)).1) (Nat.le_trans (own_csl _ _ _ _).2 (by decide))) (by decide) hown (hw _ (List.mem_of_getElem? (i := 90) rfl)) (hw _ (List.mem_of_getElem? (i := 91) rfl)) (notFace_of_selects (args := #[]) (mvT hZ (hw _ (List.mem_of_getElem? (i := 93) rfl)))) (hw _ (List.mem_of_getElem? (i := 93) rfl)) (hw _ (List.mem_of_getElem? (i := 92) rfl)) (hw _ (List.mem_of_getElem? (i := 39) rfl)) (hw _ (List.mem_of_getElem? (i := 94) rfl)) e26 E23 (W := 0) (by rw [hml]; rfl) (argsL := [(.ref b16)]) (S := []) (Nat.le_of_ble_eq_true rfl) (by decide) (by decide) (by decide) (by decide) pd_oLjava_lang_ObjectcZ rfl rfl (hb hby at_288) ?_
                  rintro _ T27 L27 X27 ⟨rfl, N27q, e27⟩
                  have N27 := Fr.app N26 N27q
                  show Go p_ e_ below _ _ T27 (mkF m_ 291 #[.val (.int p0), .val (.int p1), .val (.int p2), .val (.int ((1 : Int32) + ((p2 &&& (3 : Int32)) % (3 : Int32)))), .val (.int sl), .val (.int l2), .val (.int (own_ch p0 (0 : Int32) )), .val (.int (own_ch p0 (8 : Int32) )), .val (.int (own_ch p0 (16 : Int32) )), .val (.int b0), .val (.int b1), .val (.int b2), .val (.int (((p2.toUInt32 >>> ((8 : Int32) &&& 31).toUInt32).toInt32) &&& (3 : Int32))), .val (.ref x14), .val (.ref x15), .val (.ref b16), .val (.ref b22), .val (.int ex)] [(.int (own_ke (own_cs l2 b0 b1 b2) (own_cs ((1 : Int32) + ((p2 &&& (3 : Int32)) % (3 : Int32))) (own_ch p0 (0 : Int32) ) (own_ch p0 (8 : Int32) ) (own_ch p0 (16 : Int32) ))))])
                  refine Go.iload X27 hx (hb hby at_291) rfl ?_
                  refine Go.icmpNo X27 hx (hb hby at_293) (teq (own_fin _ _ _ _ _ _ _ _ _ (own_l1 _) h_l2r h_ex).2).2 ?_
                  show Go p_ e_ below _ _ T27 (mkF m_ 296 #[.val (.int p0), .val (.int p1), .val (.int p2), .val (.int ((1 : Int32) + ((p2 &&& (3 : Int32)) % (3 : Int32)))), .val (.int sl), .val (.int l2), .val (.int (own_ch p0 (0 : Int32) )), .val (.int (own_ch p0 (8 : Int32) )), .val (.int (own_ch p0 (16 : Int32) )), .val (.int b0), .val (.int b1), .val (.int b2), .val (.int (((p2.toUInt32 >>> ((8 : Int32) &&& 31).toUInt32).toInt32) &&& (3 : Int32))), .val (.ref x14), .val (.ref x15), .val (.ref b16), .val (.ref b22), .val (.int ex)] [])
                  refine Go.aload X27 hx (hb hby at_296) rfl rfl ?_
                  refine Go.aload X27 hx (hb hby at_298) rfl rfl ?_
                  refine Go.callV X27 hx hZ (y0 := (⟨"com/example/safe_retries/saferetries/identity/IdempotencyKey", "equals", "(Ljava/lang/Object;)Z"⟩ : MethodName)) (rm19 l Z a0 hw [] b16 b16 x14 t14 kb14 (own_cs ((1 : Int32) + ((p2 &&& (3 : Int32)) % (3 : Int32))) (own_ch p0 (0 : Int32) ) (own_ch p0 (8 : Int32) ) (own_ch p0 (16 : Int32) )) x14 t14 kb14 (own_cs ((1 : Int32) + ((p2 &&& (3 : Int32)) % (3 : Int32))) (own_ch p0 (0 : Int32) ) (own_ch p0 (8 : Int32) ) (own_ch p0 (16 : Int32) )) zc T23.heap n0 Z23 O_23_ Sco hzc E_23_b16 F_23_b16_value F_23_b16_value S23_x14 (own_all (P := fun c => ¬ c < 0 ∧ ¬ (255 : Int32) < c) (own_pr (own_chr _ _)).1 (own_pr (own_chr _ _)).1 (own_pr (own_chr _ _)).1) (Nat.le_trans (own_csl _ _ _ _).2 (by decide)) S23_x14 (own_all (P := fun c => ¬ c < 0 ∧ ¬ (255 : Int32) < c) (own_pr (own_chr _ _)).1 (own_pr (own_chr _ _)).1 (own_pr (own_chr _ _)).1) (Nat.le_trans (own_csl _ _ _ _).2 (by decide))) (by decide) hown (hw _ (List.mem_of_getElem? (i := 90) rfl)) (hw _ (List.mem_of_getElem? (i := 91) rfl)) (notFace_of_selects (args := #[]) (mvT hZ (hw _ (List.mem_of_getElem? (i := 93) rfl)))) (hw _ (List.mem_of_getElem? (i := 93) rfl)) (hw _ (List.mem_of_getElem? (i := 92) rfl)) (hw _ (List.mem_of_getElem? (i := 39) rfl)) (hw _ (List.mem_of_getElem? (i := 94) rfl)) e27 E_23_b16 (W := 0) (by rw [hml]; rfl) (argsL := [(.ref b16)]) (S := []) (Nat.le_of_ble_eq_true rfl) (by decide) (by decide) (by decide) (by decide) pd_oLjava_lang_ObjectcZ rfl rfl (hb hby at_300) ?_
                  rintro _ T28 L28 X28 ⟨rfl, N28q, e28⟩
                  have N28 := Fr.app N27 N28q
                  show Go p_ e_ below _ _ T28 (mkF m_ 303 #[.val (.int p0), .val (.int p1), .val (.int p2), .val (.int ((1 : Int32) + ((p2 &&& (3 : Int32)) % (3 : Int32)))), .val (.int sl), .val (.int l2), .val (.int (own_ch p0 (0 : Int32) )), .val (.int (own_ch p0 (8 : Int32) )), .val (.int (own_ch p0 (16 : Int32) )), .val (.int b0), .val (.int b1), .val (.int b2), .val (.int (((p2.toUInt32 >>> ((8 : Int32) &&& 31).toUInt32).toInt32) &&& (3 : Int32))), .val (.ref x14), .val (.ref x15), .val (.ref b16), .val (.ref b22), .val (.int ex)] [(.int (own_ke (own_cs ((1 : Int32) + ((p2 &&& (3 : Int32)) % (3 : Int32))) (own_ch p0 (0 : Int32) ) (own_ch p0 (8 : Int32) ) (own_ch p0 (16 : Int32) )) (own_cs ((1 : Int32) + ((p2 &&& (3 : Int32)) % (3 : Int32))) (own_ch p0 (0 : Int32) ) (own_ch p0 (8 : Int32) ) (own_ch p0 (16 : Int32) ))))])
                  refine Go.ifNo X28 hx (hb hby at_303) ((if0 _ _).trans (feq (own_self _)).1) ?_
                  show Go p_ e_ below _ _ T28 (mkF m_ 306 #[.val (.int p0), .val (.int p1), .val (.int p2), .val (.int ((1 : Int32) + ((p2 &&& (3 : Int32)) % (3 : Int32)))), .val (.int sl), .val (.int l2), .val (.int (own_ch p0 (0 : Int32) )), .val (.int (own_ch p0 (8 : Int32) )), .val (.int (own_ch p0 (16 : Int32) )), .val (.int b0), .val (.int b1), .val (.int b2), .val (.int (((p2.toUInt32 >>> ((8 : Int32) &&& 31).toUInt32).toInt32) &&& (3 : Int32))), .val (.ref x14), .val (.ref x15), .val (.ref b16), .val (.ref b22), .val (.int ex)] [])
                  refine Go.iconst X28 hx (1 : Int32) (hb hby at_306) rfl ?_
                  refine Go.goto X28 hx (pc' := 311) (hb hby at_307) (by decide) (by decide) ?_
                  refine Go.retNW X28 hx hS23 e28 (Nat.le_refl _) hret hlk (by simp) (hb hby at_311) (by decide) (by decide) ?_
                  exact ⟨rfl, N28⟩
                refine Go.iloadN X23 hx (hb hby at_228) rfl ?_
                refine Go.iload X23 hx (hb hby at_229) rfl ?_
                by_cases hc231_29 : ((1 : Int32) + ((p2 &&& (3 : Int32)) % (3 : Int32))) = l2
                · skip
                  refine Go.icmpNo X23 hx (hb hby at_231) (teq hc231_29).2 ?_
                  show Go p_ e_ below _ _ T23 (mkF m_ 234 #[.val (.int p0), .val (.int p1), .val (.int p2), .val (.int ((1 : Int32) + ((p2 &&& (3 : Int32)) % (3 : Int32)))), .val (.int sl), .val (.int l2), .val (.int (own_ch p0 (0 : Int32) )), .val (.int (own_ch p0 (8 : Int32) )), .val (.int (own_ch p0 (16 : Int32) )), .val (.int b0), .val (.int b1), .val (.int b2), .val (.int (((p2.toUInt32 >>> ((8 : Int32) &&& 31).toUInt32).toInt32) &&& (3 : Int32))), .val (.ref x14), .val (.ref x15), .val (.ref b16), .val (.ref b22), .unset] [])
                  refine Go.iload X23 hx (hb hby at_234) rfl ?_
                  refine Go.iload X23 hx (hb hby at_236) rfl ?_
                  by_cases hc238_30 : (own_ch p0 (0 : Int32) ) = b0
                  · skip
                    refine Go.icmpNo X23 hx (hb hby at_238) (teq hc238_30).2 ?_
                    show Go p_ e_ below _ _ T23 (mkF m_ 241 #[.val (.int p0), .val (.int p1), .val (.int p2), .val (.int ((1 : Int32) + ((p2 &&& (3 : Int32)) % (3 : Int32)))), .val (.int sl), .val (.int l2), .val (.int (own_ch p0 (0 : Int32) )), .val (.int (own_ch p0 (8 : Int32) )), .val (.int (own_ch p0 (16 : Int32) )), .val (.int b0), .val (.int b1), .val (.int b2), .val (.int (((p2.toUInt32 >>> ((8 : Int32) &&& 31).toUInt32).toInt32) &&& (3 : Int32))), .val (.ref x14), .val (.ref x15), .val (.ref b16), .val (.ref b22), .unset] [])
                    refine Go.iloadN X23 hx (hb hby at_241) rfl ?_
                    refine Go.iconst X23 hx (2 : Int32) (hb hby at_242) rfl ?_
                    by_cases hc243_31 : ((1 : Int32) + ((p2 &&& (3 : Int32)) % (3 : Int32))) < (2 : Int32)
                    · skip
                      refine Go.icmpYes X23 hx (pc' := 253) (hb hby at_243) (tlt hc243_31).1 (by decide) (by decide) ?_
                      show Go p_ e_ below _ _ T23 (mkF m_ 253 #[.val (.int p0), .val (.int p1), .val (.int p2), .val (.int ((1 : Int32) + ((p2 &&& (3 : Int32)) % (3 : Int32)))), .val (.int sl), .val (.int l2), .val (.int (own_ch p0 (0 : Int32) )), .val (.int (own_ch p0 (8 : Int32) )), .val (.int (own_ch p0 (16 : Int32) )), .val (.int b0), .val (.int b1), .val (.int b2), .val (.int (((p2.toUInt32 >>> ((8 : Int32) &&& 31).toUInt32).toInt32) &&& (3 : Int32))), .val (.ref x14), .val (.ref x15), .val (.ref b16), .val (.ref b22), .unset] [])
                      refine Go.iloadN X23 hx (hb hby at_253) rfl ?_
                      refine Go.iconst X23 hx (3 : Int32) (hb hby at_254) rfl ?_
                      by_cases hc255_32 : ((1 : Int32) + ((p2 &&& (3 : Int32)) % (3 : Int32))) < (3 : Int32)
                      · skip
                        refine Go.icmpYes X23 hx (pc' := 265) (hb hby at_255) (tlt hc255_32).1 (by decide) (by decide) ?_
                        show Go p_ e_ below _ _ T23 (mkF m_ 265 #[.val (.int p0), .val (.int p1), .val (.int p2), .val (.int ((1 : Int32) + ((p2 &&& (3 : Int32)) % (3 : Int32)))), .val (.int sl), .val (.int l2), .val (.int (own_ch p0 (0 : Int32) )), .val (.int (own_ch p0 (8 : Int32) )), .val (.int (own_ch p0 (16 : Int32) )), .val (.int b0), .val (.int b1), .val (.int b2), .val (.int (((p2.toUInt32 >>> ((8 : Int32) &&& 31).toUInt32).toInt32) &&& (3 : Int32))), .val (.ref x14), .val (.ref x15), .val (.ref b16), .val (.ref b22), .unset] [])
                        refine Go.iconst X23 hx (1 : Int32) (hb hby at_265) rfl ?_
                        refine Go.goto X23 hx (pc' := 270) (hb hby at_266) (by decide) (by decide) ?_
                        show Go p_ e_ below _ _ T23 (mkF m_ 270 #[.val (.int p0), .val (.int p1), .val (.int p2), .val (.int ((1 : Int32) + ((p2 &&& (3 : Int32)) % (3 : Int32)))), .val (.int sl), .val (.int l2), .val (.int (own_ch p0 (0 : Int32) )), .val (.int (own_ch p0 (8 : Int32) )), .val (.int (own_ch p0 (16 : Int32) )), .val (.int b0), .val (.int b1), .val (.int b2), .val (.int (((p2.toUInt32 >>> ((8 : Int32) &&& 31).toUInt32).toInt32) &&& (3 : Int32))), .val (.ref x14), .val (.ref x15), .val (.ref b16), .val (.ref b22), .unset] [(.int (1 : Int32))])
                        exact j24 _ _ _ X23 N23 rfl (by rw [if_pos hc231_29, if_pos hc238_30, if_pos hc243_31, if_pos hc255_32])
                      · skip
                        refine Go.icmpNo X23 hx (hb hby at_255) (flt hc255_32).1 ?_
                        show Go p_ e_ below _ _ T23 (mkF m_ 258 #[.val (.int p0), .val (.int p1), .val (.int p2), .val (.int ((1 : Int32) + ((p2 &&& (3 : Int32)) % (3 : Int32)))), .val (.int sl), .val (.int l2), .val (.int (own_ch p0 (0 : Int32) )), .val (.int (own_ch p0 (8 : Int32) )), .val (.int (own_ch p0 (16 : Int32) )), .val (.int b0), .val (.int b1), .val (.int b2), .val (.int (((p2.toUInt32 >>> ((8 : Int32) &&& 31).toUInt32).toInt32) &&& (3 : Int32))), .val (.ref x14), .val (.ref x15), .val (.ref b16), .val (.ref b22), .unset] [])
                        refine Go.iload X23 hx (hb hby at_258) rfl ?_
                        refine Go.iload X23 hx (hb hby at_260) rfl ?_
                        by_cases hc262_33 : (own_ch p0 (16 : Int32) ) = b2
                        · skip
                          refine Go.icmpNo X23 hx (hb hby at_262) (teq hc262_33).2 ?_
                          show Go p_ e_ below _ _ T23 (mkF m_ 265 #[.val (.int p0), .val (.int p1), .val (.int p2), .val (.int ((1 : Int32) + ((p2 &&& (3 : Int32)) % (3 : Int32)))), .val (.int sl), .val (.int l2), .val (.int (own_ch p0 (0 : Int32) )), .val (.int (own_ch p0 (8 : Int32) )), .val (.int (own_ch p0 (16 : Int32) )), .val (.int b0), .val (.int b1), .val (.int b2), .val (.int (((p2.toUInt32 >>> ((8 : Int32) &&& 31).toUInt32).toInt32) &&& (3 : Int32))), .val (.ref x14), .val (.ref x15), .val (.ref b16), .val (.ref b22), .unset] [])
                          refine Go.iconst X23 hx (1 : Int32) (hb hby at_265) rfl ?_
                          refine Go.goto X23 hx (pc' := 270) (hb hby at_266) (by decide) (by decide) ?_
                          show Go p_ e_ below _ _ T23 (mkF m_ 270 #[.val (.int p0), .val (.int p1), .val (.int p2), .val (.int ((1 : Int32) + ((p2 &&& (3 : Int32)) % (3 : Int32)))), .val (.int sl), .val (.int l2), .val (.int (own_ch p0 (0 : Int32) )), .val (.int (own_ch p0 (8 : Int32) )), .val (.int (own_ch p0 (16 : Int32) )), .val (.int b0), .val (.int b1), .val (.int b2), .val (.int (((p2.toUInt32 >>> ((8 : Int32) &&& 31).toUInt32).toInt32) &&& (3 : Int32))), .val (.ref x14), .val (.ref x15), .val (.ref b16), .val (.ref b22), .unset] [(.int (1 : Int32))])
                          exact j24 _ _ _ X23 N23 rfl (by rw [if_pos hc231_29, if_pos hc238_30, if_pos hc243_31, if_neg hc255_32, if_pos hc262_33])
                        · skip
                          refine Go.icmpYes X23 hx (pc' := 269) (hb hby at_262) (feq hc262_33).2 (by decide) (by decide) ?_
                          show Go p_ e_ below _ _ T23 (mkF m_ 269 #[.val (.int p0), .val (.int p1), .val (.int p2), .val (.int ((1 : Int32) + ((p2 &&& (3 : Int32)) % (3 : Int32)))), .val (.int sl), .val (.int l2), .val (.int (own_ch p0 (0 : Int32) )), .val (.int (own_ch p0 (8 : Int32) )), .val (.int (own_ch p0 (16 : Int32) )), .val (.int b0), .val (.int b1), .val (.int b2), .val (.int (((p2.toUInt32 >>> ((8 : Int32) &&& 31).toUInt32).toInt32) &&& (3 : Int32))), .val (.ref x14), .val (.ref x15), .val (.ref b16), .val (.ref b22), .unset] [])
                          refine Go.iconst X23 hx (0 : Int32) (hb hby at_269) rfl ?_
                          show Go p_ e_ below _ _ T23 (mkF m_ 270 #[.val (.int p0), .val (.int p1), .val (.int p2), .val (.int ((1 : Int32) + ((p2 &&& (3 : Int32)) % (3 : Int32)))), .val (.int sl), .val (.int l2), .val (.int (own_ch p0 (0 : Int32) )), .val (.int (own_ch p0 (8 : Int32) )), .val (.int (own_ch p0 (16 : Int32) )), .val (.int b0), .val (.int b1), .val (.int b2), .val (.int (((p2.toUInt32 >>> ((8 : Int32) &&& 31).toUInt32).toInt32) &&& (3 : Int32))), .val (.ref x14), .val (.ref x15), .val (.ref b16), .val (.ref b22), .unset] [(.int (0 : Int32))])
                          exact j24 _ _ _ X23 N23 rfl (by rw [if_pos hc231_29, if_pos hc238_30, if_pos hc243_31, if_neg hc255_32, if_neg hc262_33])
                    · skip
                      refine Go.icmpNo X23 hx (hb hby at_243) (flt hc243_31).1 ?_
                      show Go p_ e_ below _ _ T23 (mkF m_ 246 #[.val (.int p0), .val (.int p1), .val (.int p2), .val (.int ((1 : Int32) + ((p2 &&& (3 : Int32)) % (3 : Int32)))), .val (.int sl), .val (.int l2), .val (.int (own_ch p0 (0 : Int32) )), .val (.int (own_ch p0 (8 : Int32) )), .val (.int (own_ch p0 (16 : Int32) )), .val (.int b0), .val (.int b1), .val (.int b2), .val (.int (((p2.toUInt32 >>> ((8 : Int32) &&& 31).toUInt32).toInt32) &&& (3 : Int32))), .val (.ref x14), .val (.ref x15), .val (.ref b16), .val (.ref b22), .unset] [])
                      refine Go.iload X23 hx (hb hby at_246) rfl ?_
                      refine Go.iload X23 hx (hb hby at_248) rfl ?_
                      by_cases hc250_34 : (own_ch p0 (8 : Int32) ) = b1
                      · skip
                        refine Go.icmpNo X23 hx (hb hby at_250) (teq hc250_34).2 ?_
                        show Go p_ e_ below _ _ T23 (mkF m_ 253 #[.val (.int p0), .val (.int p1), .val (.int p2), .val (.int ((1 : Int32) + ((p2 &&& (3 : Int32)) % (3 : Int32)))), .val (.int sl), .val (.int l2), .val (.int (own_ch p0 (0 : Int32) )), .val (.int (own_ch p0 (8 : Int32) )), .val (.int (own_ch p0 (16 : Int32) )), .val (.int b0), .val (.int b1), .val (.int b2), .val (.int (((p2.toUInt32 >>> ((8 : Int32) &&& 31).toUInt32).toInt32) &&& (3 : Int32))), .val (.ref x14), .val (.ref x15), .val (.ref b16), .val (.ref b22), .unset] [])
                        refine Go.iloadN X23 hx (hb hby at_253) rfl ?_
                        refine Go.iconst X23 hx (3 : Int32) (hb hby at_254) rfl ?_
                        by_cases hc255_35 : ((1 : Int32) + ((p2 &&& (3 : Int32)) % (3 : Int32))) < (3 : Int32)
                        · skip
                          refine Go.icmpYes X23 hx (pc' := 265) (hb hby at_255) (tlt hc255_35).1 (by decide) (by decide) ?_
                          show Go p_ e_ below _ _ T23 (mkF m_ 265 #[.val (.int p0), .val (.int p1), .val (.int p2), .val (.int ((1 : Int32) + ((p2 &&& (3 : Int32)) % (3 : Int32)))), .val (.int sl), .val (.int l2), .val (.int (own_ch p0 (0 : Int32) )), .val (.int (own_ch p0 (8 : Int32) )), .val (.int (own_ch p0 (16 : Int32) )), .val (.int b0), .val (.int b1), .val (.int b2), .val (.int (((p2.toUInt32 >>> ((8 : Int32) &&& 31).toUInt32).toInt32) &&& (3 : Int32))), .val (.ref x14), .val (.ref x15), .val (.ref b16), .val (.ref b22), .unset] [])
                          refine Go.iconst X23 hx (1 : Int32) (hb hby at_265) rfl ?_
                          refine Go.goto X23 hx (pc' := 270) (hb hby at_266) (by decide) (by decide) ?_
                          show Go p_ e_ below _ _ T23 (mkF m_ 270 #[.val (.int p0), .val (.int p1), .val (.int p2), .val (.int ((1 : Int32) + ((p2 &&& (3 : Int32)) % (3 : Int32)))), .val (.int sl), .val (.int l2), .val (.int (own_ch p0 (0 : Int32) )), .val (.int (own_ch p0 (8 : Int32) )), .val (.int (own_ch p0 (16 : Int32) )), .val (.int b0), .val (.int b1), .val (.int b2), .val (.int (((p2.toUInt32 >>> ((8 : Int32) &&& 31).toUInt32).toInt32) &&& (3 : Int32))), .val (.ref x14), .val (.ref x15), .val (.ref b16), .val (.ref b22), .unset] [(.int (1 : Int32))])
                          exact j24 _ _ _ X23 N23 rfl (by rw [if_pos hc231_29, if_pos hc238_30, if_neg hc243_31, if_pos hc250_34, if_pos hc255_35])
                        · skip
                          refine Go.icmpNo X23 hx (hb hby at_255) (flt hc255_35).1 ?_
                          show Go p_ e_ below _ _ T23 (mkF m_ 258 #[.val (.int p0), .val (.int p1), .val (.int p2), .val (.int ((1 : Int32) + ((p2 &&& (3 : Int32)) % (3 : Int32)))), .val (.int sl), .val (.int l2), .val (.int (own_ch p0 (0 : Int32) )), .val (.int (own_ch p0 (8 : Int32) )), .val (.int (own_ch p0 (16 : Int32) )), .val (.int b0), .val (.int b1), .val (.int b2), .val (.int (((p2.toUInt32 >>> ((8 : Int32) &&& 31).toUInt32).toInt32) &&& (3 : Int32))), .val (.ref x14), .val (.ref x15), .val (.ref b16), .val (.ref b22), .unset] [])
                          refine Go.iload X23 hx (hb hby at_258) rfl ?_
                          refine Go.iload X23 hx (hb hby at_260) rfl ?_
                          by_cases hc262_36 : (own_ch p0 (16 : Int32) ) = b2
                          · skip
                            refine Go.icmpNo X23 hx (hb hby at_262) (teq hc262_36).2 ?_
                            show Go p_ e_ below _ _ T23 (mkF m_ 265 #[.val (.int p0), .val (.int p1), .val (.int p2), .val (.int ((1 : Int32) + ((p2 &&& (3 : Int32)) % (3 : Int32)))), .val (.int sl), .val (.int l2), .val (.int (own_ch p0 (0 : Int32) )), .val (.int (own_ch p0 (8 : Int32) )), .val (.int (own_ch p0 (16 : Int32) )), .val (.int b0), .val (.int b1), .val (.int b2), .val (.int (((p2.toUInt32 >>> ((8 : Int32) &&& 31).toUInt32).toInt32) &&& (3 : Int32))), .val (.ref x14), .val (.ref x15), .val (.ref b16), .val (.ref b22), .unset] [])
                            refine Go.iconst X23 hx (1 : Int32) (hb hby at_265) rfl ?_
                            refine Go.goto X23 hx (pc' := 270) (hb hby at_266) (by decide) (by decide) ?_
                            show Go p_ e_ below _ _ T23 (mkF m_ 270 #[.val (.int p0), .val (.int p1), .val (.int p2), .val (.int ((1 : Int32) + ((p2 &&& (3 : Int32)) % (3 : Int32)))), .val (.int sl), .val (.int l2), .val (.int (own_ch p0 (0 : Int32) )), .val (.int (own_ch p0 (8 : Int32) )), .val (.int (own_ch p0 (16 : Int32) )), .val (.int b0), .val (.int b1), .val (.int b2), .val (.int (((p2.toUInt32 >>> ((8 : Int32) &&& 31).toUInt32).toInt32) &&& (3 : Int32))), .val (.ref x14), .val (.ref x15), .val (.ref b16), .val (.ref b22), .unset] [(.int (1 : Int32))])
                            exact j24 _ _ _ X23 N23 rfl (by rw [if_pos hc231_29, if_pos hc238_30, if_neg hc243_31, if_pos hc250_34, if_neg hc255_35, if_pos hc262_36])
                          · skip
                            refine Go.icmpYes X23 hx (pc' := 269) (hb hby at_262) (feq hc262_36).2 (by decide) (by decide) ?_
                            show Go p_ e_ below _ _ T23 (mkF m_ 269 #[.val (.int p0), .val (.int p1), .val (.int p2), .val (.int ((1 : Int32) + ((p2 &&& (3 : Int32)) % (3 : Int32)))), .val (.int sl), .val (.int l2), .val (.int (own_ch p0 (0 : Int32) )), .val (.int (own_ch p0 (8 : Int32) )), .val (.int (own_ch p0 (16 : Int32) )), .val (.int b0), .val (.int b1), .val (.int b2), .val (.int (((p2.toUInt32 >>> ((8 : Int32) &&& 31).toUInt32).toInt32) &&& (3 : Int32))), .val (.ref x14), .val (.ref x15), .val (.ref b16), .val (.ref b22), .unset] [])
                            refine Go.iconst X23 hx (0 : Int32) (hb hby at_269) rfl ?_
                            show Go p_ e_ below _ _ T23 (mkF m_ 270 #[.val (.int p0), .val (.int p1), .val (.int p2), .val (.int ((1 : Int32) + ((p2 &&& (3 : Int32)) % (3 : Int32)))), .val (.int sl), .val (.int l2), .val (.int (own_ch p0 (0 : Int32) )), .val (.int (own_ch p0 (8 : Int32) )), .val (.int (own_ch p0 (16 : Int32) )), .val (.int b0), .val (.int b1), .val (.int b2), .val (.int (((p2.toUInt32 >>> ((8 : Int32) &&& 31).toUInt32).toInt32) &&& (3 : Int32))), .val (.ref x14), .val (.ref x15), .val (.ref b16), .val (.ref b22), .unset] [(.int (0 : Int32))])
                            exact j24 _ _ _ X23 N23 rfl (by rw [if_pos hc231_29, if_pos hc238_30, if_neg hc243_31, if_pos hc250_34, if_neg hc255_35, if_neg hc262_36])
                      · skip
                        refine Go.icmpYes X23 hx (pc' := 269) (hb hby at_250) (feq hc250_34).2 (by decide) (by decide) ?_
                        show Go p_ e_ below _ _ T23 (mkF m_ 269 #[.val (.int p0), .val (.int p1), .val (.int p2), .val (.int ((1 : Int32) + ((p2 &&& (3 : Int32)) % (3 : Int32)))), .val (.int sl), .val (.int l2), .val (.int (own_ch p0 (0 : Int32) )), .val (.int (own_ch p0 (8 : Int32) )), .val (.int (own_ch p0 (16 : Int32) )), .val (.int b0), .val (.int b1), .val (.int b2), .val (.int (((p2.toUInt32 >>> ((8 : Int32) &&& 31).toUInt32).toInt32) &&& (3 : Int32))), .val (.ref x14), .val (.ref x15), .val (.ref b16), .val (.ref b22), .unset] [])
                        refine Go.iconst X23 hx (0 : Int32) (hb hby at_269) rfl ?_
                        show Go p_ e_ below _ _ T23 (mkF m_ 270 #[.val (.int p0), .val (.int p1), .val (.int p2), .val (.int ((1 : Int32) + ((p2 &&& (3 : Int32)) % (3 : Int32)))), .val (.int sl), .val (.int l2), .val (.int (own_ch p0 (0 : Int32) )), .val (.int (own_ch p0 (8 : Int32) )), .val (.int (own_ch p0 (16 : Int32) )), .val (.int b0), .val (.int b1), .val (.int b2), .val (.int (((p2.toUInt32 >>> ((8 : Int32) &&& 31).toUInt32).toInt32) &&& (3 : Int32))), .val (.ref x14), .val (.ref x15), .val (.ref b16), .val (.ref b22), .unset] [(.int (0 : Int32))])
                        exact j24 _ _ _ X23 N23 rfl (by rw [if_pos hc231_29, if_pos hc238_30, if_neg hc243_31, if_neg hc250_34])
                  · skip
                    refine Go.icmpYes X23 hx (pc' := 269) (hb hby at_238) (feq hc238_30).2 (by decide) (by decide) ?_
                    show Go p_ e_ below _ _ T23 (mkF m_ 269 #[.val (.int p0), .val (.int p1), .val (.int p2), .val (.int ((1 : Int32) + ((p2 &&& (3 : Int32)) % (3 : Int32)))), .val (.int sl), .val (.int l2), .val (.int (own_ch p0 (0 : Int32) )), .val (.int (own_ch p0 (8 : Int32) )), .val (.int (own_ch p0 (16 : Int32) )), .val (.int b0), .val (.int b1), .val (.int b2), .val (.int (((p2.toUInt32 >>> ((8 : Int32) &&& 31).toUInt32).toInt32) &&& (3 : Int32))), .val (.ref x14), .val (.ref x15), .val (.ref b16), .val (.ref b22), .unset] [])
                    refine Go.iconst X23 hx (0 : Int32) (hb hby at_269) rfl ?_
                    show Go p_ e_ below _ _ T23 (mkF m_ 270 #[.val (.int p0), .val (.int p1), .val (.int p2), .val (.int ((1 : Int32) + ((p2 &&& (3 : Int32)) % (3 : Int32)))), .val (.int sl), .val (.int l2), .val (.int (own_ch p0 (0 : Int32) )), .val (.int (own_ch p0 (8 : Int32) )), .val (.int (own_ch p0 (16 : Int32) )), .val (.int b0), .val (.int b1), .val (.int b2), .val (.int (((p2.toUInt32 >>> ((8 : Int32) &&& 31).toUInt32).toInt32) &&& (3 : Int32))), .val (.ref x14), .val (.ref x15), .val (.ref b16), .val (.ref b22), .unset] [(.int (0 : Int32))])
                    exact j24 _ _ _ X23 N23 rfl (by rw [if_pos hc231_29, if_neg hc238_30])
                · skip
                  refine Go.icmpYes X23 hx (pc' := 269) (hb hby at_231) (feq hc231_29).2 (by decide) (by decide) ?_
                  show Go p_ e_ below _ _ T23 (mkF m_ 269 #[.val (.int p0), .val (.int p1), .val (.int p2), .val (.int ((1 : Int32) + ((p2 &&& (3 : Int32)) % (3 : Int32)))), .val (.int sl), .val (.int l2), .val (.int (own_ch p0 (0 : Int32) )), .val (.int (own_ch p0 (8 : Int32) )), .val (.int (own_ch p0 (16 : Int32) )), .val (.int b0), .val (.int b1), .val (.int b2), .val (.int (((p2.toUInt32 >>> ((8 : Int32) &&& 31).toUInt32).toInt32) &&& (3 : Int32))), .val (.ref x14), .val (.ref x15), .val (.ref b16), .val (.ref b22), .unset] [])
                  refine Go.iconst X23 hx (0 : Int32) (hb hby at_269) rfl ?_
                  show Go p_ e_ below _ _ T23 (mkF m_ 270 #[.val (.int p0), .val (.int p1), .val (.int p2), .val (.int ((1 : Int32) + ((p2 &&& (3 : Int32)) % (3 : Int32)))), .val (.int sl), .val (.int l2), .val (.int (own_ch p0 (0 : Int32) )), .val (.int (own_ch p0 (8 : Int32) )), .val (.int (own_ch p0 (16 : Int32) )), .val (.int b0), .val (.int b1), .val (.int b2), .val (.int (((p2.toUInt32 >>> ((8 : Int32) &&& 31).toUInt32).toInt32) &&& (3 : Int32))), .val (.ref x14), .val (.ref x15), .val (.ref b16), .val (.ref b22), .unset] [(.int (0 : Int32))])
                  exact j24 _ _ _ X23 N23 rfl (by rw [if_neg hc231_29])
          refine Go.iloadN X11 hx (hb hby at_108) rfl ?_
          refine Go.bipush X11 hx (7 : Int32) (hb hby at_109) rfl ?_
          refine Go.iushr X11 hx (hb hby at_111) ?_
          refine Go.iconst X11 hx (1 : Int32) (hb hby at_112) rfl ?_
          refine Go.iand X11 hx (hb hby at_113) ?_
          by_cases hc114_37 : (((p2.toUInt32 >>> ((7 : Int32) &&& 31).toUInt32).toInt32) &&& (1 : Int32)) = (0 : Int32)
          · skip
            refine Go.ifYes X11 hx (pc' := 122) (hb hby at_114) ((if0 _ _).trans (teq hc114_37).1) (by decide) (by decide) ?_
            show Go p_ e_ below _ _ T11 (mkF m_ 122 #[.val (.int p0), .val (.int p1), .val (.int p2), .val (.int ((1 : Int32) + ((p2 &&& (3 : Int32)) % (3 : Int32)))), .val (.int sl), .val (.int l2), .val (.int (own_ch p0 (0 : Int32) )), .val (.int (own_ch p0 (8 : Int32) )), .val (.int (own_ch p0 (16 : Int32) )), .val (.int b0), .val (.int b1), .unset, .unset, .unset, .unset, .unset, .unset, .unset] [])
            refine Go.iloadN X11 hx (hb hby at_122) rfl ?_
            refine Go.bipush X11 hx (16 : Int32) (hb hby at_123) rfl ?_
            refine Go.callS X11 hx hZ (rm1 l Z a0 hw [] p1 (16 : Int32)  h0 n0 Z0 ) hown (hw _ (List.mem_of_getElem? (i := 0) rfl)) (hw _ (List.mem_of_getElem? (i := 1) rfl)) (hw _ (List.mem_of_getElem? (i := 2) rfl)) (hw _ (List.mem_of_getElem? (i := 3) rfl)) (by decide) e11 (W := 0) (by rw [hml]; rfl) (argsL := [(.int p1), (.int (16 : Int32))]) (S := []) (Nat.le_of_ble_eq_true rfl) (by decide) (by decide) (by decide) (by decide) pd_oIIcC rfl rfl (hb hby at_125) ?_
            rintro _ T38 L38 X38 ⟨rfl, N38q, e38⟩
            have N38 := Fr.app N11 N38q
            show Go p_ e_ below _ _ T38 (mkF m_ 128 #[.val (.int p0), .val (.int p1), .val (.int p2), .val (.int ((1 : Int32) + ((p2 &&& (3 : Int32)) % (3 : Int32)))), .val (.int sl), .val (.int l2), .val (.int (own_ch p0 (0 : Int32) )), .val (.int (own_ch p0 (8 : Int32) )), .val (.int (own_ch p0 (16 : Int32) )), .val (.int b0), .val (.int b1), .unset, .unset, .unset, .unset, .unset, .unset, .unset] [(.int (own_ch p1 (16 : Int32) ))])
            exact j12 _ _ _ X38 N38 e38 (own_chr _ _)
          · skip
            refine Go.ifNo X11 hx (hb hby at_114) ((if0 _ _).trans (feq hc114_37).1) ?_
            show Go p_ e_ below _ _ T11 (mkF m_ 117 #[.val (.int p0), .val (.int p1), .val (.int p2), .val (.int ((1 : Int32) + ((p2 &&& (3 : Int32)) % (3 : Int32)))), .val (.int sl), .val (.int l2), .val (.int (own_ch p0 (0 : Int32) )), .val (.int (own_ch p0 (8 : Int32) )), .val (.int (own_ch p0 (16 : Int32) )), .val (.int b0), .val (.int b1), .unset, .unset, .unset, .unset, .unset, .unset, .unset] [])
            refine Go.iload X11 hx (hb hby at_117) rfl ?_
            refine Go.goto X11 hx (pc' := 128) (hb hby at_119) (by decide) (by decide) ?_
            show Go p_ e_ below _ _ T11 (mkF m_ 128 #[.val (.int p0), .val (.int p1), .val (.int p2), .val (.int ((1 : Int32) + ((p2 &&& (3 : Int32)) % (3 : Int32)))), .val (.int sl), .val (.int l2), .val (.int (own_ch p0 (0 : Int32) )), .val (.int (own_ch p0 (8 : Int32) )), .val (.int (own_ch p0 (16 : Int32) )), .val (.int b0), .val (.int b1), .unset, .unset, .unset, .unset, .unset, .unset, .unset] [(.int (own_ch p0 (16 : Int32) ))])
            exact j12 _ _ _ X11 N11 e11 (own_chr _ _)
        refine Go.iloadN X9 hx (hb hby at_86) rfl ?_
        refine Go.bipush X9 hx (6 : Int32) (hb hby at_87) rfl ?_
        refine Go.iushr X9 hx (hb hby at_89) ?_
        refine Go.iconst X9 hx (1 : Int32) (hb hby at_90) rfl ?_
        refine Go.iand X9 hx (hb hby at_91) ?_
        by_cases hc92_39 : (((p2.toUInt32 >>> ((6 : Int32) &&& 31).toUInt32).toInt32) &&& (1 : Int32)) = (0 : Int32)
        · skip
          refine Go.ifYes X9 hx (pc' := 100) (hb hby at_92) ((if0 _ _).trans (teq hc92_39).1) (by decide) (by decide) ?_
          show Go p_ e_ below _ _ T9 (mkF m_ 100 #[.val (.int p0), .val (.int p1), .val (.int p2), .val (.int ((1 : Int32) + ((p2 &&& (3 : Int32)) % (3 : Int32)))), .val (.int sl), .val (.int l2), .val (.int (own_ch p0 (0 : Int32) )), .val (.int (own_ch p0 (8 : Int32) )), .val (.int (own_ch p0 (16 : Int32) )), .val (.int b0), .unset, .unset, .unset, .unset, .unset, .unset, .unset, .unset] [])
          refine Go.iloadN X9 hx (hb hby at_100) rfl ?_
          refine Go.bipush X9 hx (8 : Int32) (hb hby at_101) rfl ?_
          refine Go.callS X9 hx hZ (rm1 l Z a0 hw [] p1 (8 : Int32)  h0 n0 Z0 ) hown (hw _ (List.mem_of_getElem? (i := 0) rfl)) (hw _ (List.mem_of_getElem? (i := 1) rfl)) (hw _ (List.mem_of_getElem? (i := 2) rfl)) (hw _ (List.mem_of_getElem? (i := 3) rfl)) (by decide) e9 (W := 0) (by rw [hml]; rfl) (argsL := [(.int p1), (.int (8 : Int32))]) (S := []) (Nat.le_of_ble_eq_true rfl) (by decide) (by decide) (by decide) (by decide) pd_oIIcC rfl rfl (hb hby at_103) ?_
          rintro _ T40 L40 X40 ⟨rfl, N40q, e40⟩
          have N40 := Fr.app N9 N40q
          show Go p_ e_ below _ _ T40 (mkF m_ 106 #[.val (.int p0), .val (.int p1), .val (.int p2), .val (.int ((1 : Int32) + ((p2 &&& (3 : Int32)) % (3 : Int32)))), .val (.int sl), .val (.int l2), .val (.int (own_ch p0 (0 : Int32) )), .val (.int (own_ch p0 (8 : Int32) )), .val (.int (own_ch p0 (16 : Int32) )), .val (.int b0), .unset, .unset, .unset, .unset, .unset, .unset, .unset, .unset] [(.int (own_ch p1 (8 : Int32) ))])
          exact j10 _ _ _ X40 N40 e40 (own_chr _ _)
        · skip
          refine Go.ifNo X9 hx (hb hby at_92) ((if0 _ _).trans (feq hc92_39).1) ?_
          show Go p_ e_ below _ _ T9 (mkF m_ 95 #[.val (.int p0), .val (.int p1), .val (.int p2), .val (.int ((1 : Int32) + ((p2 &&& (3 : Int32)) % (3 : Int32)))), .val (.int sl), .val (.int l2), .val (.int (own_ch p0 (0 : Int32) )), .val (.int (own_ch p0 (8 : Int32) )), .val (.int (own_ch p0 (16 : Int32) )), .val (.int b0), .unset, .unset, .unset, .unset, .unset, .unset, .unset, .unset] [])
          refine Go.iload X9 hx (hb hby at_95) rfl ?_
          refine Go.goto X9 hx (pc' := 106) (hb hby at_97) (by decide) (by decide) ?_
          show Go p_ e_ below _ _ T9 (mkF m_ 106 #[.val (.int p0), .val (.int p1), .val (.int p2), .val (.int ((1 : Int32) + ((p2 &&& (3 : Int32)) % (3 : Int32)))), .val (.int sl), .val (.int l2), .val (.int (own_ch p0 (0 : Int32) )), .val (.int (own_ch p0 (8 : Int32) )), .val (.int (own_ch p0 (16 : Int32) )), .val (.int b0), .unset, .unset, .unset, .unset, .unset, .unset, .unset, .unset] [(.int (own_ch p0 (8 : Int32) ))])
          exact j10 _ _ _ X9 N9 e9 (own_chr _ _)
      refine Go.iloadN X7 hx (hb hby at_66) rfl ?_
      refine Go.iconst X7 hx (5 : Int32) (hb hby at_67) rfl ?_
      refine Go.iushr X7 hx (hb hby at_68) ?_
      refine Go.iconst X7 hx (1 : Int32) (hb hby at_69) rfl ?_
      refine Go.iand X7 hx (hb hby at_70) ?_
      by_cases hc71_41 : (((p2.toUInt32 >>> ((5 : Int32) &&& 31).toUInt32).toInt32) &&& (1 : Int32)) = (0 : Int32)
      · skip
        refine Go.ifYes X7 hx (pc' := 79) (hb hby at_71) ((if0 _ _).trans (teq hc71_41).1) (by decide) (by decide) ?_
        show Go p_ e_ below _ _ T7 (mkF m_ 79 #[.val (.int p0), .val (.int p1), .val (.int p2), .val (.int ((1 : Int32) + ((p2 &&& (3 : Int32)) % (3 : Int32)))), .val (.int sl), .val (.int l2), .val (.int (own_ch p0 (0 : Int32) )), .val (.int (own_ch p0 (8 : Int32) )), .val (.int (own_ch p0 (16 : Int32) )), .unset, .unset, .unset, .unset, .unset, .unset, .unset, .unset, .unset] [])
        refine Go.iloadN X7 hx (hb hby at_79) rfl ?_
        refine Go.iconst X7 hx (0 : Int32) (hb hby at_80) rfl ?_
        refine Go.callS X7 hx hZ (rm1 l Z a0 hw [] p1 (0 : Int32)  h0 n0 Z0 ) hown (hw _ (List.mem_of_getElem? (i := 0) rfl)) (hw _ (List.mem_of_getElem? (i := 1) rfl)) (hw _ (List.mem_of_getElem? (i := 2) rfl)) (hw _ (List.mem_of_getElem? (i := 3) rfl)) (by decide) e7 (W := 0) (by rw [hml]; rfl) (argsL := [(.int p1), (.int (0 : Int32))]) (S := []) (Nat.le_of_ble_eq_true rfl) (by decide) (by decide) (by decide) (by decide) pd_oIIcC rfl rfl (hb hby at_81) ?_
        rintro _ T42 L42 X42 ⟨rfl, N42q, e42⟩
        have N42 := Fr.app N7 N42q
        show Go p_ e_ below _ _ T42 (mkF m_ 84 #[.val (.int p0), .val (.int p1), .val (.int p2), .val (.int ((1 : Int32) + ((p2 &&& (3 : Int32)) % (3 : Int32)))), .val (.int sl), .val (.int l2), .val (.int (own_ch p0 (0 : Int32) )), .val (.int (own_ch p0 (8 : Int32) )), .val (.int (own_ch p0 (16 : Int32) )), .unset, .unset, .unset, .unset, .unset, .unset, .unset, .unset, .unset] [(.int (own_ch p1 (0 : Int32) ))])
        exact j8 _ _ _ X42 N42 e42 (own_chr _ _)
      · skip
        refine Go.ifNo X7 hx (hb hby at_71) ((if0 _ _).trans (feq hc71_41).1) ?_
        show Go p_ e_ below _ _ T7 (mkF m_ 74 #[.val (.int p0), .val (.int p1), .val (.int p2), .val (.int ((1 : Int32) + ((p2 &&& (3 : Int32)) % (3 : Int32)))), .val (.int sl), .val (.int l2), .val (.int (own_ch p0 (0 : Int32) )), .val (.int (own_ch p0 (8 : Int32) )), .val (.int (own_ch p0 (16 : Int32) )), .unset, .unset, .unset, .unset, .unset, .unset, .unset, .unset, .unset] [])
        refine Go.iload X7 hx (hb hby at_74) rfl ?_
        refine Go.goto X7 hx (pc' := 84) (hb hby at_76) (by decide) (by decide) ?_
        show Go p_ e_ below _ _ T7 (mkF m_ 84 #[.val (.int p0), .val (.int p1), .val (.int p2), .val (.int ((1 : Int32) + ((p2 &&& (3 : Int32)) % (3 : Int32)))), .val (.int sl), .val (.int l2), .val (.int (own_ch p0 (0 : Int32) )), .val (.int (own_ch p0 (8 : Int32) )), .val (.int (own_ch p0 (16 : Int32) )), .unset, .unset, .unset, .unset, .unset, .unset, .unset, .unset, .unset] [(.int (own_ch p0 (0 : Int32) ))])
        exact j8 _ _ _ X7 N7 e7 (own_chr _ _)
    refine Go.iload X2 hx (hb hby at_23) rfl ?_
    by_cases hc25_43 : sl = (0 : Int32)
    · skip
      refine Go.ifYes X2 hx (pc' := 32) (hb hby at_25) ((if0 _ _).trans (teq hc25_43).1) (by decide) (by decide) ?_
      show Go p_ e_ below _ _ T2 (mkF m_ 32 #[.val (.int p0), .val (.int p1), .val (.int p2), .val (.int ((1 : Int32) + ((p2 &&& (3 : Int32)) % (3 : Int32)))), .val (.int sl), .unset, .unset, .unset, .unset, .unset, .unset, .unset, .unset, .unset, .unset, .unset, .unset, .unset] [])
      refine Go.iconst X2 hx (1 : Int32) (hb hby at_32) rfl ?_
      refine Go.iloadN X2 hx (hb hby at_33) rfl ?_
      refine Go.iconst X2 hx (3 : Int32) (hb hby at_34) rfl ?_
      refine Go.iushr X2 hx (hb hby at_35) ?_
      refine Go.iconst X2 hx (3 : Int32) (hb hby at_36) rfl ?_
      refine Go.iand X2 hx (hb hby at_37) ?_
      refine Go.iconst X2 hx (3 : Int32) (hb hby at_38) rfl ?_
      refine Go.irem X2 hx (hb hby at_39) (by decide) ?_
      refine Go.iadd X2 hx (hb hby at_40) ?_
      show Go p_ e_ below _ _ T2 (mkF m_ 41 #[.val (.int p0), .val (.int p1), .val (.int p2), .val (.int ((1 : Int32) + ((p2 &&& (3 : Int32)) % (3 : Int32)))), .val (.int sl), .unset, .unset, .unset, .unset, .unset, .unset, .unset, .unset, .unset, .unset, .unset, .unset, .unset] [(.int ((1 : Int32) + ((((p2.toUInt32 >>> ((3 : Int32) &&& 31).toUInt32).toInt32) &&& (3 : Int32)) % (3 : Int32))))])
      exact j3 _ _ _ X2 N2 e2 (own_l1 _)
    · skip
      refine Go.ifNo X2 hx (hb hby at_25) ((if0 _ _).trans (feq hc25_43).1) ?_
      show Go p_ e_ below _ _ T2 (mkF m_ 28 #[.val (.int p0), .val (.int p1), .val (.int p2), .val (.int ((1 : Int32) + ((p2 &&& (3 : Int32)) % (3 : Int32)))), .val (.int sl), .unset, .unset, .unset, .unset, .unset, .unset, .unset, .unset, .unset, .unset, .unset, .unset, .unset] [])
      refine Go.iloadN X2 hx (hb hby at_28) rfl ?_
      refine Go.goto X2 hx (pc' := 41) (hb hby at_29) (by decide) (by decide) ?_
      show Go p_ e_ below _ _ T2 (mkF m_ 41 #[.val (.int p0), .val (.int p1), .val (.int p2), .val (.int ((1 : Int32) + ((p2 &&& (3 : Int32)) % (3 : Int32)))), .val (.int sl), .unset, .unset, .unset, .unset, .unset, .unset, .unset, .unset, .unset, .unset, .unset, .unset, .unset] [(.int ((1 : Int32) + ((p2 &&& (3 : Int32)) % (3 : Int32))))])
      exact j3 _ _ _ X2 N2 e2 (own_l1 _)
  refine Go.iloadN X0 hx (hb hby at_8) rfl ?_
  refine Go.iconst X0 hx (2 : Int32) (hb hby at_9) rfl ?_
  refine Go.iushr X0 hx (hb hby at_10) ?_
  refine Go.iconst X0 hx (1 : Int32) (hb hby at_11) rfl ?_
  refine Go.iand X0 hx (hb hby at_12) ?_
  show Go p_ e_ below _ _ s₁ (mkF m_ 13 #[.val (.int p0), .val (.int p1), .val (.int p2), .val (.int ((1 : Int32) + ((p2 &&& (3 : Int32)) % (3 : Int32)))), .unset, .unset, .unset, .unset, .unset, .unset, .unset, .unset, .unset, .unset, .unset, .unset, .unset, .unset] [(.int (((p2.toUInt32 >>> ((2 : Int32) &&& 31).toUInt32).toInt32) &&& (1 : Int32)))])
  by_cases hc13_44 : (((p2.toUInt32 >>> ((2 : Int32) &&& 31).toUInt32).toInt32) &&& (1 : Int32)) = (0 : Int32)
  · skip
    refine Go.ifYes X0 hx (pc' := 20) (hb hby at_13) ((if0 _ _).trans (teq hc13_44).1) (by decide) (by decide) ?_
    show Go p_ e_ below _ _ s₁ (mkF m_ 20 #[.val (.int p0), .val (.int p1), .val (.int p2), .val (.int ((1 : Int32) + ((p2 &&& (3 : Int32)) % (3 : Int32)))), .unset, .unset, .unset, .unset, .unset, .unset, .unset, .unset, .unset, .unset, .unset, .unset, .unset, .unset] [])
    refine Go.iconst X0 hx (0 : Int32) (hb hby at_20) rfl ?_
    show Go p_ e_ below _ _ s₁ (mkF m_ 21 #[.val (.int p0), .val (.int p1), .val (.int p2), .val (.int ((1 : Int32) + ((p2 &&& (3 : Int32)) % (3 : Int32)))), .unset, .unset, .unset, .unset, .unset, .unset, .unset, .unset, .unset, .unset, .unset, .unset, .unset, .unset] [(.int (0 : Int32))])
    exact j1 _ _ _ X0 N0 e0 (by rw [if_pos hc13_44])
  · skip
    refine Go.ifNo X0 hx (hb hby at_13) ((if0 _ _).trans (feq hc13_44).1) ?_
    show Go p_ e_ below _ _ s₁ (mkF m_ 16 #[.val (.int p0), .val (.int p1), .val (.int p2), .val (.int ((1 : Int32) + ((p2 &&& (3 : Int32)) % (3 : Int32)))), .unset, .unset, .unset, .unset, .unset, .unset, .unset, .unset, .unset, .unset, .unset, .unset, .unset, .unset] [])
    refine Go.iconst X0 hx (1 : Int32) (hb hby at_16) rfl ?_
    refine Go.goto X0 hx (pc' := 21) (hb hby at_17) (by decide) (by decide) ?_
    show Go p_ e_ below _ _ s₁ (mkF m_ 21 #[.val (.int p0), .val (.int p1), .val (.int p2), .val (.int ((1 : Int32) + ((p2 &&& (3 : Int32)) % (3 : Int32)))), .unset, .unset, .unset, .unset, .unset, .unset, .unset, .unset, .unset, .unset, .unset, .unset, .unset, .unset] [(.int (1 : Int32))])
    exact j1 _ _ _ X0 N0 e0 (by rw [if_neg hc13_44])
set_option maxRecDepth 65536 in
set_option maxHeartbeats 40000000 in
theorem comes_1 {Post : Tables → Env → Array Value → State → Outcome → State → Prop} (hpost : ∀ tb e args s v u, (limb_1_1.after args s (.returned v) u = true ∧ limb_1_2.after args s (.returned v) u = true ∧ True) → ReturnedEndW s (.returned v) u (Jvm.fieldLocs frame_1_writes args s ++ Jvm.arrayLocs frame_1_arrays args s ++ Jvm.staticLocs frame_1_statics s) 32 1152 → Post tb e args s (.returned v) u) :
    ArmFor flags0 classFile x code maxLocals ret World_1 tables_1 room_1 Calls_1 rest_1 Pre_1 Post := by
  intro l hfl _ _ p e ha hc hk s m args below hf hA hF happ hP
  obtain ⟨hcalls, hrest, hpre⟩ := hP
  obtain ⟨-, -, -, hnamed, -, -, -, hat⟩ := (Spec.applies_iff hf).mp happ
  obtain ⟨hg, hn⟩ := and_e (Cond.before_iff.mp (show (Jvm.Cond.and given_1 narrow_1).before args s = true from hpre))
  obtain ⟨g1, g2⟩ := and_e hg
  obtain ⟨g3, g4⟩ := and_e g2
  obtain ⟨g5, g6⟩ := and_e g4
  obtain ⟨w0, w1, w2, rfl⟩ : ∃ w0 w1 w2 : Value, args = #[w0, w1, w2] := by
    have hs : args.size = 3 := by simpa [Cond.value, given_1] using g1
    obtain ⟨L⟩ := args
    match L, hs with
    | [w0, w1, w2], _ => exact ⟨w0, w1, w2, rfl⟩
  have hw := fun d (hd : d ∈ tables_1) => atoms_spec (ws := Jvm.Cond.code x code maxLocals ret :: tables_1) hat d (List.mem_cons_of_mem _ hd)
  have hfit : Fit s := fun {y c} hc i hi => by
    obtain ⟨ha, rfl⟩ := Array.getElem?_eq_some_iff.mp hc
    have q := List.all_eq_true.mp ((Array.all_eq_true_iff_forall_mem.mp hF) _ (Array.getElem_mem ha)) i (List.mem_range.mpr hi)
    simpa [Array.getElem?_eq_getElem hi] using q
  obtain ⟨i0, ei0⟩ := is_v g3
  obtain rfl : w0 = (.int i0) := Option.some.inj ei0
  obtain ⟨i1, ei1⟩ := is_v g5
  obtain rfl : w1 = (.int i1) := Option.some.inj ei1
  obtain ⟨i2, ei2⟩ := is_v g6
  obtain rfl : w2 = (.int i2) := Option.some.inj ei2
  obtain ⟨hsets, hown0⟩ := atoms_of _ (rest_1_c_eq ▸ (show rest_1_c.before _ s = true from hrest))
  obtain ⟨zc, ezc⟩ := is_v (Cond.before_iff.mp (hsets _ (List.mem_of_getElem? (i := 1) rfl)))
  have Sco := Sta.start ezc (Or.inl (hsets _ (List.mem_of_getElem? (i := 0) rfl)))
  have hzc : ¬ zc = 0 := gotF (Cond.eq_ints ezc (Term.int_eval (0))) (not_v (Cond.before_iff.mp (hsets _ (List.mem_of_getElem? (i := 2) rfl))))
  obtain ⟨fm, efm, rfm⟩ := isR_v (Cond.before_iff.mp (hsets _ (List.mem_of_getElem? (i := 8) rfl)))
  have Sfm := Sta.start efm (Or.inl (hsets _ (List.mem_of_getElem? (i := 7) rfl)))
  obtain ⟨n, o, h1, h2, h3, _, L, rfl, ⟨rfl, N⟩, hq⟩ := rm0 l s _ hw tables_1 i0 i1 i2 zc fm s.heap s.heap.size (Nat.le_refl _) (Old.start s) Sco hzc Sfm rfm p e ha hc hk s m _ below hf ((Spec.applies_iff_loose hf).mp happ).1 ⟨rfl, State.Warmed39.refl s, rfl⟩ trivial
  refine ⟨n, _, h1, h2, h3, hpost _ _ _ _ _ _ ⟨Cond.after_iff.mpr rfl, Cond.after_iff.mpr (eq_i res_at (Term.int_eval (1)) rfl), trivial⟩ ⟨hq.1, hq.2.1, hq.2.2.1, (hq.2.2.2.sift fun y hy => Or.inr (N y hy)).mono (by decide) (by decide)⟩⟩
theorem main_1_1 : Claimed_1_1 := comes_1 fun _ _ _ _ _ _ h hF => ⟨h.1, hF⟩
theorem main_1_2 : Claimed_1_2 := comes_1 fun _ _ _ _ _ _ h hF => ⟨h.2.1, hF⟩
end Jvm.Pilot.@@N@@
namespace Jvm.Pilot.@@N@@
open Jvm Jvm.ClassFile Sem Op Lib Jvm.Free Jvm.Stand Jvm.Pilot.@@N@@.Jvm.D
/-! MADE BY PROGRAM (witnessworld.py) out of the Statement's table words and the real class files: 21 classes; the members and pool entries that the words name. The judged class is class 1, her method 3. -/
namespace start1
open Jvm.ClassFile
def u (s : String) : CpInfo := .utf8 (stringToUtf16 s)
/-- a pool by its gaps: so many unusable entries, then the entry; so many at the end -/
def gap : Nat → List CpInfo → List CpInfo
  | 0, r => r
  | n + 1, r => .unusable :: gap n r
def poolList (es : List (Nat × CpInfo)) (last : Nat) : List CpInfo := es.foldr (fun e r => gap e.1 (e.2 :: r)) (gap last [])
def pool (es : List (Nat × CpInfo)) (last : Nat) : Array CpInfo := ⟨poolList es last⟩
def fileOf (pool : Array CpInfo) (this : Nat) (attrs : Array Attribute := #[]) (ms : Array MethodInfo := #[]) (fl : Nat := 33) (sup : Nat := 0) (ifs : Array Nat := #[]) (fds : Array FieldInfo := #[]) : ClassFile where
  minorVersion := 0
  majorVersion := 65
  constantPool := pool
  accessFlags := fl
  thisClass := this
  superClass := sup
  interfaces := ifs
  fields := fds
  methods := ms
  attributes := attrs
def plain (name : String) (sup : Option ClassId) : Class where
  name := name
  kind := .ordinary
  loader := none
  accessFlags := 33
  super := sup
  interfaces := #[]
  cf := none
  fields := #[]
  methods := #[]
  instanceTypes := #[]
  staticTypes := #[]
  resolved := #[]
  callSites := []
  init := .initialized
  statics := none
  mirror := none

def pool0 : Array CpInfo := pool [(5, u "<init>"), (0, u "()V"), (1, .class_ 10), (1, u "java/lang/Object")] 113

def k0c0 : Code := { maxStack := 0, maxLocals := 1, code := object_method_1_code, exceptionTable := #[], attributes := #[] }
def k0m0 : Method := { name := "<init>", desc := "()V", sig := { parameters := [], returnType := none }, accessFlags := 1, code := some k0c0 }
/-- java/lang/Object -/
def k0 : Class := { plain "java/lang/Object" none with
  accessFlags := 33
  interfaces := #[]
  cf := some (fileOf pool0 8 #[] #[{ accessFlags := 1, nameIndex := 5, descriptorIndex := 6, attributes := #[] }] 33 0 #[] #[])
  fields := #[]
  methods := #[k0m0]
  instanceTypes := #[]
  staticTypes := #[]
  resolved := Array.replicate 124 none
  statics := none }

def pool1 : Array CpInfo := pool [(2, .class_ 4), (1, u "java/lang/Object"), (0, u "<init>"), (0, u "()V"), (0, .class_ 8), (0, u "java/lang/String"), (0, .methodref 7 10), (0, .nameAndType 5 11), (0, u "([C)V"), (0, .methodref 13 14), (0, .class_ 15), (0, .nameAndType 16 17), (0, u "com/example/safe_retries/saferetries/identity/IdempotencyKeyEqualsPinLaw"), (0, u "ch"), (0, u "(II)C"), (0, .methodref 13 19), (0, .nameAndType 20 21), (0, u "mk"), (0, u "(ICCC)Ljava/lang/String;"), (0, .class_ 23), (0, u "com/example/safe_retries/saferetries/identity/IdempotencyKey"), (0, .methodref 22 25), (0, .nameAndType 5 26), (0, u "(Ljava/lang/String;)V"), (0, .methodref 22 28), (0, .nameAndType 29 30), (0, u "equals"), (0, u "(Ljava/lang/Object;)Z"), (3, u "law"), (0, u "(III)Z")] 2

def k1m0 : Method := { name := "<init>", desc := "()V", sig := { parameters := [], returnType := none }, accessFlags := 1, code := none }
def k1c1 : Code := { maxStack := 2, maxLocals := 3, code := method_2_code, exceptionTable := #[], attributes := #[] }
def k1m1 : Method := { name := "ch", desc := "(II)C", sig := { parameters := [.int, .int], returnType := some .char }, accessFlags := 10, code := some k1c1 }
def k1c2 : Code := { maxStack := 6, maxLocals := 4, code := method_3_code, exceptionTable := #[], attributes := #[] }
def k1m2 : Method := { name := "mk", desc := "(ICCC)Ljava/lang/String;", sig := { parameters := [.int, .char, .char, .char], returnType := some (.object "java/lang/String") }, accessFlags := 10, code := some k1c2 }
def k1c3 : Code := { maxStack := 4, maxLocals := 18, code := code, exceptionTable := #[], attributes := #[] }
def k1m3 : Method := { name := "law", desc := "(III)Z", sig := { parameters := [.int, .int, .int], returnType := some .boolean }, accessFlags := 9, code := some k1c3 }
/-- com/example/safe_retries/saferetries/identity/IdempotencyKeyEqualsPinLaw -/
def k1 : Class := { plain "com/example/safe_retries/saferetries/identity/IdempotencyKeyEqualsPinLaw" (some 0) with
  accessFlags := 49
  interfaces := #[]
  cf := some (fileOf pool1 13 #[] #[{ accessFlags := 1, nameIndex := 5, descriptorIndex := 6, attributes := #[] }, { accessFlags := 10, nameIndex := 16, descriptorIndex := 17, attributes := #[] }, { accessFlags := 10, nameIndex := 20, descriptorIndex := 21, attributes := #[] }, { accessFlags := 9, nameIndex := 34, descriptorIndex := 35, attributes := #[] }] 49 2 #[] #[])
  fields := #[]
  methods := #[k1m0, k1m1, k1m2, k1m3]
  instanceTypes := #[]
  staticTypes := #[]
  resolved := Array.replicate 38 none
  statics := none }

def pool2 : Array CpInfo := pool [(1, .class_ 2), (0, u "java/io/Serializable"), (0, .class_ 4), (0, u "java/lang/Object")] 2

/-- java/io/Serializable -/
def k2 : Class := { plain "java/io/Serializable" (some 0) with
  accessFlags := 1537
  interfaces := #[]
  cf := some (fileOf pool2 1 #[] #[] 1537 3 #[] #[])
  fields := #[]
  methods := #[]
  instanceTypes := #[]
  staticTypes := #[]
  resolved := Array.replicate 7 none
  statics := none }

def pool3 : Array CpInfo := pool [(1, .class_ 2), (0, u "java/lang/Comparable"), (0, .class_ 4), (0, u "java/lang/Object")] 7

/-- java/lang/Comparable -/
def k3 : Class := { plain "java/lang/Comparable" (some 0) with
  accessFlags := 1537
  interfaces := #[]
  cf := some (fileOf pool3 1 #[] #[] 1537 3 #[] #[])
  fields := #[]
  methods := #[]
  instanceTypes := #[]
  staticTypes := #[]
  resolved := Array.replicate 12 none
  statics := none }

def pool4 : Array CpInfo := pool [(2, .class_ 4), (1, u "java/lang/CharSequence"), (42, .class_ 48), (0, u "java/lang/CharSequence$1CodePointIterator"), (10, .class_ 60), (0, u "java/lang/CharSequence$1CharIterator"), (5, .class_ 67), (0, u "java/lang/Object")] 63

/-- java/lang/CharSequence -/
def k4 : Class := { plain "java/lang/CharSequence" (some 0) with
  accessFlags := 1537
  interfaces := #[]
  cf := some (fileOf pool4 2 #[.nestMembers #[47, 59]] #[] 1537 66 #[] #[])
  fields := #[]
  methods := #[]
  instanceTypes := #[]
  staticTypes := #[]
  resolved := Array.replicate 131 none
  statics := none }

def pool5 : Array CpInfo := pool [(1, .class_ 2), (0, u "java/lang/constant/Constable"), (0, .class_ 4), (0, u "java/lang/Object")] 6

/-- java/lang/constant/Constable -/
def k5 : Class := { plain "java/lang/constant/Constable" (some 0) with
  accessFlags := 1537
  interfaces := #[]
  cf := some (fileOf pool5 1 #[] #[] 1537 3 #[] #[])
  fields := #[]
  methods := #[]
  instanceTypes := #[]
  staticTypes := #[]
  resolved := Array.replicate 11 none
  statics := none }

def pool6 : Array CpInfo := pool [(1, .class_ 2), (0, u "java/lang/constant/ConstantDesc"), (0, .class_ 4), (0, u "java/lang/Object")] 32

/-- java/lang/constant/ConstantDesc -/
def k6 : Class := { plain "java/lang/constant/ConstantDesc" (some 0) with
  accessFlags := 1537
  interfaces := #[]
  cf := some (fileOf pool6 1 #[] #[] 1537 3 #[] #[])
  fields := #[]
  methods := #[]
  instanceTypes := #[]
  staticTypes := #[]
  resolved := Array.replicate 37 none
  statics := none }

def pool7 : Array CpInfo := pool [(1, .methodref 2 3), (0, .class_ 4), (0, .nameAndType 5 6), (0, u "java/lang/Object"), (0, u "<init>"), (0, u "()V"), (2, .fieldref 10 11), (0, .class_ 12), (0, .nameAndType 13 14), (0, u "java/lang/String"), (0, u "value"), (0, u "[B"), (0, .fieldref 10 16), (0, .nameAndType 17 18), (0, u "coder"), (0, u "B"), (2, u "hash"), (0, u "I"), (2, u "hashIsZero"), (0, u "Z"), (0, .methodref 10 28), (0, .nameAndType 5 29), (0, u "([CIILjava/lang/Void;)V"), (8, .fieldref 10 39), (0, .nameAndType 40 26), (0, u "COMPACT_STRINGS"), (1, .class_ 44), (1, u "java/lang/StringUTF16"), (0, u "compress"), (1, .methodref 42 48), (0, .nameAndType 49 50), (0, u "coderFromArrayLen"), (0, u "([BI)B"), (56, .class_ 109), (1, u "java/lang/StringLatin1"), (32, u "()Z"), (34, .methodref 42 178), (0, .nameAndType 45 179), (0, u "([CII)[B"), (154, u "()I"), (0, .methodref 10 336), (0, .nameAndType 17 337), (0, u "()B"), (25, u "([BI)C"), (27, u "(II)V"), (35, u "(I)C"), (64, .methodref 10 493), (0, .nameAndType 494 142), (0, u "isLatin1"), (0, .methodref 107 496), (0, .nameAndType 497 363), (0, u "charAt"), (3, u "checkIndex"), (5, u "length"), (33, .methodref 107 542), (0, .nameAndType 543 544), (0, u "equals"), (0, u "([B[B)Z"), (28, u "(Ljava/lang/Object;)Z"), (1, .class_ 576), (0, u "java/lang/CharSequence"), (22, u "CASE_INSENSITIVE_ORDER"), (0, u "Ljava/util/Comparator;"), (91, u "isEmpty"), (317, u "([C)V"), (42, .fieldref 1054 1055), (0, .class_ 1056), (0, .nameAndType 1057 1058), (0, u "jdk/internal/util/Preconditions"), (0, u "SIOOBE_FORMATTER"), (0, u "Ljava/util/function/BiFunction;"), (0, .methodref 1054 1060), (0, .nameAndType 501 1061), (0, u "(IILjava/util/function/BiFunction;)I"), (39, u "serialPersistentFields"), (0, u "[Ljava/io/ObjectStreamField;"), (0, .class_ 1104), (0, u "java/lang/String$CaseInsensitiveComparator"), (1, .class_ 1107), (0, u "java/io/Serializable"), (0, .class_ 1109), (0, u "java/lang/Comparable"), (0, .class_ 1111), (0, u "java/lang/constant/Constable"), (0, .class_ 1113), (0, u "java/lang/constant/ConstantDesc"), (2, u "serialVersionUID"), (0, u "J"), (3, u "REPL"), (0, u "C"), (2, u "LATIN1"), (1, u "UTF16")] 323

def k7m0 : Method := { name := "<init>", desc := "()V", sig := { parameters := [], returnType := none }, accessFlags := 1, code := none }
def k7c1 : Code := { maxStack := 5, maxLocals := 2, code := jdk_42_method_3_code, exceptionTable := #[], attributes := #[] }
def k7m1 : Method := { name := "<init>", desc := "([C)V", sig := { parameters := [(.array .char)], returnType := none }, accessFlags := 1, code := some k7c1 }
def k7c2 : Code := { maxStack := 2, maxLocals := 1, code := jdk_42_method_54_code, exceptionTable := #[], attributes := #[] }
def k7m2 : Method := { name := "length", desc := "()I", sig := { parameters := [], returnType := some .int }, accessFlags := 1, code := some k7c2 }
def k7c3 : Code := { maxStack := 1, maxLocals := 1, code := jdk_42_method_55_code, exceptionTable := #[], attributes := #[] }
def k7m3 : Method := { name := "isEmpty", desc := "()Z", sig := { parameters := [], returnType := some .boolean }, accessFlags := 1, code := some k7c3 }
def k7c4 : Code := { maxStack := 2, maxLocals := 2, code := jdk_42_method_56_code, exceptionTable := #[], attributes := #[] }
def k7m4 : Method := { name := "charAt", desc := "(I)C", sig := { parameters := [.int], returnType := some .char }, accessFlags := 1, code := some k7c4 }
def k7c5 : Code := { maxStack := 2, maxLocals := 3, code := jdk_42_method_66_code, exceptionTable := #[], attributes := #[] }
def k7m5 : Method := { name := "equals", desc := "(Ljava/lang/Object;)Z", sig := { parameters := [(.object "java/lang/Object")], returnType := some .boolean }, accessFlags := 1, code := some k7c5 }
def k7c6 : Code := { maxStack := 4, maxLocals := 6, code := jdk_42_method_149_code, exceptionTable := #[], attributes := #[] }
def k7m6 : Method := { name := "<init>", desc := "([CIILjava/lang/Void;)V", sig := { parameters := [(.array .char), .int, .int, (.object "java/lang/Void")], returnType := none }, accessFlags := 2, code := some k7c6 }
def k7c7 : Code := { maxStack := 1, maxLocals := 1, code := jdk_42_method_152_code, exceptionTable := #[], attributes := #[] }
def k7m7 : Method := { name := "coder", desc := "()B", sig := { parameters := [], returnType := some .byte }, accessFlags := 0, code := some k7c7 }
def k7c8 : Code := { maxStack := 1, maxLocals := 1, code := jdk_42_method_154_code, exceptionTable := #[], attributes := #[] }
def k7m8 : Method := { name := "isLatin1", desc := "()Z", sig := { parameters := [], returnType := some .boolean }, accessFlags := 0, code := some k7c8 }
def k7c9 : Code := { maxStack := 3, maxLocals := 2, code := jdk_42_method_155_code, exceptionTable := #[], attributes := #[] }
def k7m9 : Method := { name := "checkIndex", desc := "(II)V", sig := { parameters := [.int, .int], returnType := none }, accessFlags := 8, code := some k7c9 }
/-- java/lang/String -/
def k7 : Class := { plain "java/lang/String" (some 0) with
  accessFlags := 49
  interfaces := #[2, 3, 4, 5, 6]
  cf := some (fileOf pool7 10 #[.nestMembers #[1103]] #[{ accessFlags := 1, nameIndex := 5, descriptorIndex := 6, attributes := #[] }, { accessFlags := 1, nameIndex := 5, descriptorIndex := 1010, attributes := #[] }, { accessFlags := 1, nameIndex := 507, descriptorIndex := 334, attributes := #[] }, { accessFlags := 1, nameIndex := 692, descriptorIndex := 142, attributes := #[] }, { accessFlags := 1, nameIndex := 497, descriptorIndex := 427, attributes := #[] }, { accessFlags := 1, nameIndex := 543, descriptorIndex := 573, attributes := #[] }, { accessFlags := 2, nameIndex := 5, descriptorIndex := 29, attributes := #[] }, { accessFlags := 0, nameIndex := 17, descriptorIndex := 337, attributes := #[] }, { accessFlags := 0, nameIndex := 494, descriptorIndex := 142, attributes := #[] }, { accessFlags := 8, nameIndex := 501, descriptorIndex := 391, attributes := #[] }] 49 2 #[1106, 1108, 575, 1110, 1112] #[{ accessFlags := 18, nameIndex := 13, descriptorIndex := 14, attributes := #[] }, { accessFlags := 18, nameIndex := 17, descriptorIndex := 18, attributes := #[] }, { accessFlags := 2, nameIndex := 21, descriptorIndex := 22, attributes := #[] }, { accessFlags := 2, nameIndex := 25, descriptorIndex := 26, attributes := #[] }, { accessFlags := 26, nameIndex := 1116, descriptorIndex := 1117, attributes := #[] }, { accessFlags := 24, nameIndex := 40, descriptorIndex := 26, attributes := #[] }, { accessFlags := 26, nameIndex := 1101, descriptorIndex := 1102, attributes := #[] }, { accessFlags := 26, nameIndex := 1121, descriptorIndex := 1122, attributes := #[] }, { accessFlags := 25, nameIndex := 599, descriptorIndex := 600, attributes := #[] }, { accessFlags := 24, nameIndex := 1125, descriptorIndex := 18, attributes := #[] }, { accessFlags := 24, nameIndex := 1127, descriptorIndex := 18, attributes := #[] }])
  fields := #[{ name := "value", type := (.array .byte), accessFlags := 18, slot := 0, constantValue := 0 }, { name := "coder", type := .byte, accessFlags := 18, slot := 1, constantValue := 0 }, { name := "hash", type := .int, accessFlags := 2, slot := 2, constantValue := 0 }, { name := "hashIsZero", type := .boolean, accessFlags := 2, slot := 3, constantValue := 0 }, { name := "serialVersionUID", type := .long, accessFlags := 26, slot := 0, constantValue := 0 }, { name := "COMPACT_STRINGS", type := .boolean, accessFlags := 24, slot := 1, constantValue := 0 }, { name := "serialPersistentFields", type := (.array (.object "java/io/ObjectStreamField")), accessFlags := 26, slot := 2, constantValue := 0 }, { name := "REPL", type := .char, accessFlags := 26, slot := 3, constantValue := 0 }, { name := "CASE_INSENSITIVE_ORDER", type := (.object "java/util/Comparator"), accessFlags := 25, slot := 4, constantValue := 0 }, { name := "LATIN1", type := .byte, accessFlags := 24, slot := 5, constantValue := 0 }, { name := "UTF16", type := .byte, accessFlags := 24, slot := 6, constantValue := 0 }]
  methods := #[k7m0, k7m1, k7m2, k7m3, k7m4, k7m5, k7m6, k7m7, k7m8, k7m9]
  instanceTypes := #[(.array .byte), .byte, .int, .boolean]
  staticTypes := #[.long, .boolean, (.array (.object "java/io/ObjectStreamField")), .char, (.object "java/util/Comparator"), .byte, .byte]
  resolved := Array.replicate 1451 none
  statics := some 0 }

def pool8 : Array CpInfo := pool [(6, .class_ 8), (1, u "java/lang/Object"), (0, u "<init>"), (0, u "()V"), (1, .class_ 14), (1, u "java/lang/StringUTF16"), (31, u "$assertionsDisabled"), (0, u "Z"), (13, u "HI_BYTE_SHIFT"), (0, u "I"), (2, u "LO_BYTE_SHIFT"), (49, .methodref 12 116), (0, .nameAndType 117 118), (0, u "compress"), (0, u "([CI[BII)I"), (3, u "([CII)[B"), (138, u "coderFromArrayLen"), (0, u "([BI)B"), (106, .class_ 371), (1, u "java/lang/StringUTF16$LinesSpliterator"), (58, u "MAX_LENGTH"), (196, .class_ 628), (0, u "java/lang/StringUTF16$CodePointsSpliterator"), (0, .class_ 630), (0, u "java/lang/StringUTF16$CharsSpliterator")] 4

def k8m0 : Method := { name := "<init>", desc := "()V", sig := { parameters := [], returnType := none }, accessFlags := 0, code := none }
def k8c1 : Code := { maxStack := 2, maxLocals := 2, code := jdk_52_method_15_code, exceptionTable := #[], attributes := #[] }
def k8m1 : Method := { name := "coderFromArrayLen", desc := "([BI)B", sig := { parameters := [(.array .byte), .int], returnType := some .byte }, accessFlags := 8, code := some k8c1 }
def k8c2 : Code := { maxStack := 5, maxLocals := 6, code := jdk_52_method_16_code, exceptionTable := #[], attributes := #[] }
def k8m2 : Method := { name := "compress", desc := "([CII)[B", sig := { parameters := [(.array .char), .int, .int], returnType := some (.array .byte) }, accessFlags := 9, code := some k8c2 }
def k8c3 : Code := { maxStack := 3, maxLocals := 7, code := jdk_52_method_21_code, exceptionTable := #[], attributes := #[] }
def k8m3 : Method := { name := "compress", desc := "([CI[BII)I", sig := { parameters := [(.array .char), .int, (.array .byte), .int, .int], returnType := some .int }, accessFlags := 9, code := some k8c3 }
/-- java/lang/StringUTF16 -/
def k8 : Class := { plain "java/lang/StringUTF16" (some 0) with
  accessFlags := 48
  interfaces := #[]
  cf := some (fileOf pool8 12 #[.nestMembers #[627, 629, 369]] #[{ accessFlags := 0, nameIndex := 9, descriptorIndex := 10, attributes := #[] }, { accessFlags := 8, nameIndex := 261, descriptorIndex := 262, attributes := #[] }, { accessFlags := 9, nameIndex := 117, descriptorIndex := 122, attributes := #[] }, { accessFlags := 9, nameIndex := 117, descriptorIndex := 118, attributes := #[] }] 48 6 #[] #[{ accessFlags := 26, nameIndex := 61, descriptorIndex := 62, attributes := #[] }, { accessFlags := 26, nameIndex := 65, descriptorIndex := 62, attributes := #[] }, { accessFlags := 24, nameIndex := 430, descriptorIndex := 62, attributes := #[] }, { accessFlags := 4120, nameIndex := 46, descriptorIndex := 47, attributes := #[] }])
  fields := #[{ name := "HI_BYTE_SHIFT", type := .int, accessFlags := 26, slot := 0, constantValue := 0 }, { name := "LO_BYTE_SHIFT", type := .int, accessFlags := 26, slot := 1, constantValue := 0 }, { name := "MAX_LENGTH", type := .int, accessFlags := 24, slot := 2, constantValue := 0 }, { name := "$assertionsDisabled", type := .boolean, accessFlags := 4120, slot := 3, constantValue := 0 }]
  methods := #[k8m0, k8m1, k8m2, k8m3]
  instanceTypes := #[]
  staticTypes := #[.int, .int, .int, .boolean]
  resolved := Array.replicate 635 none
  statics := none }

def pool9 : Array CpInfo := pool [(1, .methodref 2 3), (0, .class_ 4), (0, .nameAndType 5 6), (0, u "java/lang/Object"), (0, u "<init>"), (0, u "()V"), (0, .string 8), (0, u "value"), (0, .methodref 10 11), (0, .class_ 12), (0, .nameAndType 13 14), (0, u "java/util/Objects"), (0, u "requireNonNull"), (0, u "(Ljava/lang/Object;Ljava/lang/String;)Ljava/lang/Object;"), (0, .methodref 16 17), (0, .class_ 18), (0, .nameAndType 19 20), (0, u "java/lang/String"), (0, u "isEmpty"), (0, u "()Z"), (6, u "(Ljava/lang/String;)V"), (0, .methodref 16 29), (0, .nameAndType 30 31), (0, u "length"), (0, u "()I"), (0, .class_ 33), (0, u "com/example/safe_retries/saferetries/identity/IdempotencyKey"), (4, .methodref 16 39), (0, .nameAndType 40 41), (0, u "charAt"), (0, u "(I)C"), (12, .fieldref 32 55), (0, .nameAndType 8 56), (0, u "Ljava/lang/String;"), (11, .methodref 16 69), (0, .nameAndType 70 71), (0, u "equals"), (0, u "(Ljava/lang/Object;)Z"), (3, u "MAX_LENGTH"), (0, u "I"), (2, u "LOWEST_CHARACTER"), (0, u "C"), (1, u "HIGHEST_CHARACTER")] 24

def k9c0 : Code := { maxStack := 7, maxLocals := 4, code := prog_16_method_1_code, exceptionTable := #[], attributes := #[] }
def k9m0 : Method := { name := "<init>", desc := "(Ljava/lang/String;)V", sig := { parameters := [(.object "java/lang/String")], returnType := none }, accessFlags := 1, code := some k9c0 }
def k9c1 : Code := { maxStack := 2, maxLocals := 3, code := prog_16_method_4_code, exceptionTable := #[], attributes := #[] }
def k9m1 : Method := { name := "equals", desc := "(Ljava/lang/Object;)Z", sig := { parameters := [(.object "java/lang/Object")], returnType := some .boolean }, accessFlags := 1, code := some k9c1 }
/-- com/example/safe_retries/saferetries/identity/IdempotencyKey -/
def k9 : Class := { plain "com/example/safe_retries/saferetries/identity/IdempotencyKey" (some 0) with
  accessFlags := 49
  interfaces := #[]
  cf := some (fileOf pool9 32 #[] #[{ accessFlags := 1, nameIndex := 5, descriptorIndex := 27, attributes := #[] }, { accessFlags := 1, nameIndex := 70, descriptorIndex := 71, attributes := #[] }] 49 2 #[] #[{ accessFlags := 25, nameIndex := 75, descriptorIndex := 76, attributes := #[] }, { accessFlags := 26, nameIndex := 79, descriptorIndex := 80, attributes := #[] }, { accessFlags := 26, nameIndex := 82, descriptorIndex := 80, attributes := #[] }, { accessFlags := 18, nameIndex := 8, descriptorIndex := 56, attributes := #[] }])
  fields := #[{ name := "MAX_LENGTH", type := .int, accessFlags := 25, slot := 0, constantValue := 0 }, { name := "LOWEST_CHARACTER", type := .char, accessFlags := 26, slot := 1, constantValue := 0 }, { name := "HIGHEST_CHARACTER", type := .char, accessFlags := 26, slot := 2, constantValue := 0 }, { name := "value", type := (.object "java/lang/String"), accessFlags := 18, slot := 0, constantValue := 0 }]
  methods := #[k9m0, k9m1]
  instanceTypes := #[(.object "java/lang/String")]
  staticTypes := #[.int, .char, .char]
  resolved := Array.replicate 107 none
  statics := none }

def pool10 : Array CpInfo := pool [(2, .class_ 4), (1, u "java/lang/Object"), (0, u "<init>"), (0, u "()V"), (35, .class_ 44), (1, u "java/util/Objects"), (0, u "requireNonNull"), (48, u "(Ljava/lang/Object;Ljava/lang/String;)Ljava/lang/Object;")] 89

def k10m0 : Method := { name := "<init>", desc := "()V", sig := { parameters := [], returnType := none }, accessFlags := 2, code := none }
def k10c1 : Code := { maxStack := 3, maxLocals := 2, code := jdk_31_method_11_code, exceptionTable := #[], attributes := #[] }
def k10m1 : Method := { name := "requireNonNull", desc := "(Ljava/lang/Object;Ljava/lang/String;)Ljava/lang/Object;", sig := { parameters := [(.object "java/lang/Object"), (.object "java/lang/String")], returnType := some (.object "java/lang/Object") }, accessFlags := 9, code := some k10c1 }
/-- java/util/Objects -/
def k10 : Class := { plain "java/util/Objects" (some 0) with
  accessFlags := 49
  interfaces := #[]
  cf := some (fileOf pool10 42 #[] #[{ accessFlags := 2, nameIndex := 5, descriptorIndex := 6, attributes := #[] }, { accessFlags := 9, nameIndex := 45, descriptorIndex := 94, attributes := #[] }] 49 2 #[] #[])
  fields := #[]
  methods := #[k10m0, k10m1]
  instanceTypes := #[]
  staticTypes := #[]
  resolved := Array.replicate 184 none
  statics := none }

def pool11 : Array CpInfo := pool [(1, .class_ 2), (0, u "java/lang/String"), (1, .class_ 6), (1, u "java/lang/Object"), (0, u "<init>"), (0, u "()V"), (0, .methodref 1 10), (0, .nameAndType 11 12), (0, u "checkIndex"), (0, u "(II)V"), (1, .class_ 16), (1, u "java/lang/StringLatin1"), (36, u "([BI)C"), (67, u "$assertionsDisabled"), (0, u "Z"), (98, .class_ 223), (1, u "java/lang/StringLatin1$LinesSpliterator"), (28, u "charAt"), (28, u "equals"), (0, u "([B[B)Z"), (107, .class_ 391), (0, u "java/lang/StringLatin1$CharsSpliterator")] 3

def k11m0 : Method := { name := "<init>", desc := "()V", sig := { parameters := [], returnType := none }, accessFlags := 0, code := none }
def k11c1 : Code := { maxStack := 2, maxLocals := 2, code := jdk_43_method_2_code, exceptionTable := #[], attributes := #[] }
def k11m1 : Method := { name := "charAt", desc := "([BI)C", sig := { parameters := [(.array .byte), .int], returnType := some .char }, accessFlags := 9, code := some k11c1 }
def k11c2 : Code := { maxStack := 3, maxLocals := 3, code := jdk_43_method_13_code, exceptionTable := #[], attributes := #[] }
def k11m2 : Method := { name := "equals", desc := "([B[B)Z", sig := { parameters := [(.array .byte), (.array .byte)], returnType := some .boolean }, accessFlags := 9, code := some k11c2 }
/-- java/lang/StringLatin1 -/
def k11 : Class := { plain "java/lang/StringLatin1" (some 0) with
  accessFlags := 48
  interfaces := #[]
  cf := some (fileOf pool11 14 #[.nestMembers #[390, 221]] #[{ accessFlags := 0, nameIndex := 7, descriptorIndex := 8, attributes := #[] }, { accessFlags := 9, nameIndex := 252, descriptorIndex := 53, attributes := #[] }, { accessFlags := 9, nameIndex := 281, descriptorIndex := 282, attributes := #[] }] 48 4 #[] #[{ accessFlags := 4120, nameIndex := 121, descriptorIndex := 122, attributes := #[] }])
  fields := #[{ name := "$assertionsDisabled", type := .boolean, accessFlags := 4120, slot := 0, constantValue := 0 }]
  methods := #[k11m0, k11m1, k11m2]
  instanceTypes := #[]
  staticTypes := #[.boolean]
  resolved := Array.replicate 395 none
  statics := none }

def pool12 : Array CpInfo := pool [(2, .class_ 4), (1, u "java/lang/Object"), (0, u "<init>"), (0, u "()V"), (17, .class_ 26), (1, u "jdk/internal/util/Preconditions"), (6, u "checkIndex"), (21, .class_ 56), (0, u "jdk/internal/util/Preconditions$4"), (57, .class_ 115), (0, u "jdk/internal/util/Preconditions$1"), (7, u "SIOOBE_FORMATTER"), (0, u "Ljava/util/function/BiFunction;"), (0, .class_ 126), (0, u "jdk/internal/util/Preconditions$2"), (3, u "AIOOBE_FORMATTER"), (0, .class_ 132), (0, u "jdk/internal/util/Preconditions$3"), (3, u "IOOBE_FORMATTER"), (41, u "(IILjava/util/function/BiFunction;)I")] 15

def k12m0 : Method := { name := "<init>", desc := "()V", sig := { parameters := [], returnType := none }, accessFlags := 1, code := none }
def k12c1 : Code := { maxStack := 3, maxLocals := 3, code := jdk_41_method_11_code, exceptionTable := #[], attributes := #[] }
def k12m1 : Method := { name := "checkIndex", desc := "(IILjava/util/function/BiFunction;)I", sig := { parameters := [.int, .int, (.object "java/util/function/BiFunction")], returnType := some .int }, accessFlags := 9, code := some k12c1 }
/-- jdk/internal/util/Preconditions -/
def k12 : Class := { plain "jdk/internal/util/Preconditions" (some 0) with
  accessFlags := 33
  interfaces := #[]
  cf := some (fileOf pool12 24 #[.nestMembers #[55, 131, 125, 114]] #[{ accessFlags := 1, nameIndex := 5, descriptorIndex := 6, attributes := #[] }, { accessFlags := 9, nameIndex := 33, descriptorIndex := 178, attributes := #[] }] 33 2 #[] #[{ accessFlags := 25, nameIndex := 123, descriptorIndex := 124, attributes := #[] }, { accessFlags := 25, nameIndex := 130, descriptorIndex := 124, attributes := #[] }, { accessFlags := 25, nameIndex := 136, descriptorIndex := 124, attributes := #[] }])
  fields := #[{ name := "SIOOBE_FORMATTER", type := (.object "java/util/function/BiFunction"), accessFlags := 25, slot := 0, constantValue := 0 }, { name := "AIOOBE_FORMATTER", type := (.object "java/util/function/BiFunction"), accessFlags := 25, slot := 1, constantValue := 0 }, { name := "IOOBE_FORMATTER", type := (.object "java/util/function/BiFunction"), accessFlags := 25, slot := 2, constantValue := 0 }]
  methods := #[k12m0, k12m1]
  instanceTypes := #[]
  staticTypes := #[(.object "java/util/function/BiFunction"), (.object "java/util/function/BiFunction"), (.object "java/util/function/BiFunction")]
  resolved := Array.replicate 194 none
  statics := some 1 }

def pool13 : Array CpInfo := pool [(9, u "<init>"), (6, .class_ 18), (1, u "java/lang/Object"), (0, u "()V"), (1, .class_ 23), (1, u "jdk/internal/util/ArraysSupport"), (0, u "LOG2_ARRAY_LONG_INDEX_SCALE"), (0, u "I"), (2, u "U"), (0, u "Ljdk/internal/misc/Unsafe;"), (8, u "BIG_ENDIAN"), (0, u "Z"), (8, u "LOG2_BYTE_BIT_SIZE"), (4, u "LOG2_ARRAY_INT_INDEX_SCALE"), (54, u "JLA"), (0, u "Ljdk/internal/access/JavaLangAccess;"), (11, u "LOG2_ARRAY_BOOLEAN_INDEX_SCALE"), (9, u "LOG2_ARRAY_BYTE_INDEX_SCALE"), (5, u "LOG2_ARRAY_CHAR_INDEX_SCALE"), (5, u "LOG2_ARRAY_SHORT_INDEX_SCALE"), (18, u "LOG2_ARRAY_FLOAT_INDEX_SCALE"), (24, u "LOG2_ARRAY_DOUBLE_INDEX_SCALE"), (89, u "T_BOOLEAN"), (2, u "T_CHAR"), (1, u "T_FLOAT"), (1, u "T_DOUBLE"), (1, u "T_BYTE"), (1, u "T_SHORT"), (1, u "T_INT"), (1, u "T_LONG"), (1, u "SOFT_MAX_ARRAY_LENGTH")] 83

def k13m0 : Method := { name := "<init>", desc := "()V", sig := { parameters := [], returnType := none }, accessFlags := 2, code := none }
/-- jdk/internal/util/ArraysSupport -/
def k13 : Class := { plain "jdk/internal/util/ArraysSupport" (some 0) with
  accessFlags := 33
  interfaces := #[]
  cf := some (fileOf pool13 21 #[] #[{ accessFlags := 2, nameIndex := 9, descriptorIndex := 19, attributes := #[] }] 33 16 #[] #[{ accessFlags := 24, nameIndex := 28, descriptorIndex := 29, attributes := #[] }, { accessFlags := 26, nameIndex := 38, descriptorIndex := 39, attributes := #[] }, { accessFlags := 25, nameIndex := 121, descriptorIndex := 25, attributes := #[] }, { accessFlags := 25, nameIndex := 131, descriptorIndex := 25, attributes := #[] }, { accessFlags := 25, nameIndex := 137, descriptorIndex := 25, attributes := #[] }, { accessFlags := 25, nameIndex := 143, descriptorIndex := 25, attributes := #[] }, { accessFlags := 25, nameIndex := 53, descriptorIndex := 25, attributes := #[] }, { accessFlags := 25, nameIndex := 24, descriptorIndex := 25, attributes := #[] }, { accessFlags := 25, nameIndex := 162, descriptorIndex := 25, attributes := #[] }, { accessFlags := 25, nameIndex := 187, descriptorIndex := 25, attributes := #[] }, { accessFlags := 26, nameIndex := 48, descriptorIndex := 25, attributes := #[] }, { accessFlags := 25, nameIndex := 277, descriptorIndex := 25, attributes := #[] }, { accessFlags := 25, nameIndex := 280, descriptorIndex := 25, attributes := #[] }, { accessFlags := 25, nameIndex := 282, descriptorIndex := 25, attributes := #[] }, { accessFlags := 25, nameIndex := 284, descriptorIndex := 25, attributes := #[] }, { accessFlags := 25, nameIndex := 286, descriptorIndex := 25, attributes := #[] }, { accessFlags := 25, nameIndex := 288, descriptorIndex := 25, attributes := #[] }, { accessFlags := 25, nameIndex := 290, descriptorIndex := 25, attributes := #[] }, { accessFlags := 25, nameIndex := 292, descriptorIndex := 25, attributes := #[] }, { accessFlags := 26, nameIndex := 108, descriptorIndex := 109, attributes := #[] }, { accessFlags := 25, nameIndex := 294, descriptorIndex := 25, attributes := #[] }])
  fields := #[{ name := "U", type := (.object "jdk/internal/misc/Unsafe"), accessFlags := 24, slot := 0, constantValue := 0 }, { name := "BIG_ENDIAN", type := .boolean, accessFlags := 26, slot := 1, constantValue := 0 }, { name := "LOG2_ARRAY_BOOLEAN_INDEX_SCALE", type := .int, accessFlags := 25, slot := 2, constantValue := 0 }, { name := "LOG2_ARRAY_BYTE_INDEX_SCALE", type := .int, accessFlags := 25, slot := 3, constantValue := 0 }, { name := "LOG2_ARRAY_CHAR_INDEX_SCALE", type := .int, accessFlags := 25, slot := 4, constantValue := 0 }, { name := "LOG2_ARRAY_SHORT_INDEX_SCALE", type := .int, accessFlags := 25, slot := 5, constantValue := 0 }, { name := "LOG2_ARRAY_INT_INDEX_SCALE", type := .int, accessFlags := 25, slot := 6, constantValue := 0 }, { name := "LOG2_ARRAY_LONG_INDEX_SCALE", type := .int, accessFlags := 25, slot := 7, constantValue := 0 }, { name := "LOG2_ARRAY_FLOAT_INDEX_SCALE", type := .int, accessFlags := 25, slot := 8, constantValue := 0 }, { name := "LOG2_ARRAY_DOUBLE_INDEX_SCALE", type := .int, accessFlags := 25, slot := 9, constantValue := 0 }, { name := "LOG2_BYTE_BIT_SIZE", type := .int, accessFlags := 26, slot := 10, constantValue := 0 }, { name := "T_BOOLEAN", type := .int, accessFlags := 25, slot := 11, constantValue := 0 }, { name := "T_CHAR", type := .int, accessFlags := 25, slot := 12, constantValue := 0 }, { name := "T_FLOAT", type := .int, accessFlags := 25, slot := 13, constantValue := 0 }, { name := "T_DOUBLE", type := .int, accessFlags := 25, slot := 14, constantValue := 0 }, { name := "T_BYTE", type := .int, accessFlags := 25, slot := 15, constantValue := 0 }, { name := "T_SHORT", type := .int, accessFlags := 25, slot := 16, constantValue := 0 }, { name := "T_INT", type := .int, accessFlags := 25, slot := 17, constantValue := 0 }, { name := "T_LONG", type := .int, accessFlags := 25, slot := 18, constantValue := 0 }, { name := "JLA", type := (.object "jdk/internal/access/JavaLangAccess"), accessFlags := 26, slot := 19, constantValue := 0 }, { name := "SOFT_MAX_ARRAY_LENGTH", type := .int, accessFlags := 25, slot := 20, constantValue := 0 }]
  methods := #[k13m0]
  instanceTypes := #[]
  staticTypes := #[(.object "jdk/internal/misc/Unsafe"), .boolean, .int, .int, .int, .int, .int, .int, .int, .int, .int, .int, .int, .int, .int, .int, .int, .int, .int, (.object "jdk/internal/access/JavaLangAccess"), .int]
  resolved := Array.replicate 378 none
  statics := none }

def pool14 : Array CpInfo := pool [(1, u "java/lang/Cloneable"), (0, .class_ 1), (0, u "java/lang/Object"), (0, .class_ 3)] 3

/-- java/lang/Cloneable -/
def k14 : Class := { plain "java/lang/Cloneable" (some 0) with
  accessFlags := 1537
  interfaces := #[]
  cf := some (fileOf pool14 2 #[] #[] 1537 4 #[] #[])
  fields := #[]
  methods := #[]
  instanceTypes := #[]
  staticTypes := #[]
  resolved := Array.replicate 8 none
  statics := none }

/-- the primitive byte -/
def k15 : Class := { plain "byte" none with kind := .primitive 'B', accessFlags := 0x411 }
/-- [B -/
def k16 : Class := { plain "[B" (some 0) with kind := .array 15 .byte, interfaces := #[14, 2], accessFlags := 1041 }

/-- the primitive char -/
def k17 : Class := { plain "char" none with kind := .primitive 'C', accessFlags := 0x411 }
/-- [C -/
def k18 : Class := { plain "[C" (some 0) with kind := .array 17 .char, interfaces := #[14, 2], accessFlags := 1041 }

/-- the primitive int -/
def k19 : Class := { plain "int" none with kind := .primitive 'I', accessFlags := 0x411 }
/-- [I -/
def k20 : Class := { plain "[I" (some 0) with kind := .array 19 .int, interfaces := #[14, 2], accessFlags := 1041 }

def heap : Heap := #[{ cls := 7, slots := #[.long 0, .int 1, .null, .int 0, .null, .int 0, .int 0], vm := .statics 7 },
  { cls := 12, slots := #[.null, .null, .null], vm := .statics 12 }]
def classes : Array Class := #[k0, k1, k2, k3, k4, k5, k6, k7, k8, k9, k10, k11, k12, k13, k14, k15, k16, k17, k18, k19, k20]
def interned : List (Array UInt16 × Addr) := []
def slotsUsed : Nat := 10
def theMethod : MethodId := ⟨1, 3⟩
def args0 : Array Value := #[.int 5, .int 9, .int 7]
def aboutOver (below : List Frame) : State where
  vm := { classes := classes, interned := interned.toArray }
  heap := heap
  slotsUsed := slotsUsed
  threads := #[{ frames := .invoking theMethod args0 :: below }]
def below0 : List Frame := [.native { method := ⟨0, 0⟩, args := #[] }]
def about1 : State := aboutOver below0
def p0 : Program := .bare "" "" ""
def e0 : Env := launch0.env 0 0 0
theorem w_frames : about1.frames = Frame.invoking theMethod args0 :: below0 := rfl
set_option maxRecDepth 65536 in
theorem w_args : argsFit about1.vm theMethod args0 = true := by decide +kernel
set_option maxRecDepth 65536 in
theorem w_heap : heapFits about1 = true := by decide +kernel
set_option maxRecDepth 65536 in
theorem w_runnable : about1.curStatus? = some .runnable := by decide +kernel
set_option maxRecDepth 65536 in
theorem w_alone : about1.alone = true := by decide +kernel
set_option maxRecDepth 65536 in
theorem w_named : about1.methodNamed? x = some theMethod := by decide +kernel
set_option maxRecDepth 65536 in
theorem w_hears : about1.hears theMethod below0 = true := by decide +kernel
set_option maxRecDepth 65536 in
theorem w_ripe : about1.ripe theMethod args0 below0 = true := by decide +kernel
theorem w_running : about1.status = .running := rfl
set_option maxRecDepth 65536 in
theorem w_room : about1.hasRoom e0.platform room_1 = true :=
  launch0.hasRoom_least _ room_1 (by decide +kernel) (by decide +kernel) (by decide +kernel) (by decide +kernel) (by decide +kernel) (by decide +kernel)
theorem allAtoms_all (ts : List Jvm.Cond) (a : Array Jvm.Value) (st : Jvm.State) : (allAtoms ts).before a st = ts.all (fun c => c.before a st) := by
  induction ts with
  | nil => rfl
  | cons c t ih =>
    show (Jvm.Cond.and c (allAtoms t)).before a st = _
    rw [Jvm.Cond.before_and, ih, List.all_cons]
def words1 : List Jvm.Cond := Jvm.Cond.code x code maxLocals ret :: tables_1
/-- a 'code' word, met by the world's own term for the bytes: nothing is compared byte by byte -/
theorem code_word {y : MethodName} {bytes : ByteArray} {mx : Nat} {rt : Option FieldType} {a : Array Value} {s : State} {m : MethodId} {meth : Method} {c : Code} (h1 : s.methodNamed? y = some m) (h2 : s.vm.method? m = some meth) (h3 : meth.code = some c) (h4 : c.code = bytes)
    (h5 : (c.maxLocals == mx && c.exceptionTable.isEmpty && decide (c.maxStack ≤ mostOperands) && decide (meth.sig.returnType = rt) && !meth.locks && decide (parseMethodDescriptor y.desc = some meth.sig)) = true) : (Jvm.Cond.code y bytes mx rt).before a s = true := by
  simp only [Bool.and_eq_true, beq_iff_eq, Bool.not_eq_true', decide_eq_true_eq] at h5
  obtain ⟨⟨⟨⟨⟨g1, g2⟩, g3⟩, g4⟩, g5⟩, g6⟩ := h5
  simp [Cond.before, Cond.holds, Cond.value, h1, h2, h3, h4, g1, g2, g3, g4, g5, g6]
def isCode : Jvm.Cond → Bool
  | .code _ _ _ _ => true
  | _ => false
theorem all_split {L : List Jvm.Cond} {P : Jvm.Cond → Bool} (h1 : L.all (fun c => isCode c || P c) = true) (h2 : ∀ c ∈ L.filter isCode, P c = true) : L.all P = true := by
  refine List.all_eq_true.mpr fun c hc => ?_
  have h := List.all_eq_true.mp h1 c hc
  rcases Bool.eq_false_or_eq_true (isCode c) with hi | hi
  · exact h2 c (List.mem_filter.mpr ⟨hc, hi⟩)
  · simpa [hi] using h
set_option maxRecDepth 65536 in
theorem w_c0 : (Jvm.Cond.code x code maxLocals ret).before args0 about1 = true := code_word (m := ⟨1, 3⟩) (meth := k1m3) (c := k1c3) (by decide +kernel) rfl rfl rfl (by decide +kernel)
set_option maxRecDepth 65536 in
theorem w_c1 : (Jvm.Cond.code ({ cls := "com/example/safe_retries/saferetries/identity/IdempotencyKeyEqualsPinLaw", name := "ch", desc := "(II)C" } : Jvm.MethodName) method_2_code (3 : Nat) (Option.some Jvm.ClassFile.FieldType.char)).before args0 about1 = true := code_word (m := ⟨1, 1⟩) (meth := k1m1) (c := k1c1) (by decide +kernel) rfl rfl rfl (by decide +kernel)
set_option maxRecDepth 65536 in
theorem w_c2 : (Jvm.Cond.code ({ cls := "com/example/safe_retries/saferetries/identity/IdempotencyKeyEqualsPinLaw", name := "mk", desc := "(ICCC)Ljava/lang/String;" } : Jvm.MethodName) method_3_code (4 : Nat) (Option.some (Jvm.ClassFile.FieldType.object "java/lang/String"))).before args0 about1 = true := code_word (m := ⟨1, 2⟩) (meth := k1m2) (c := k1c2) (by decide +kernel) rfl rfl rfl (by decide +kernel)
set_option maxRecDepth 65536 in
theorem w_c3 : (Jvm.Cond.code ({ cls := "java/lang/String", name := "<init>", desc := "([C)V" } : Jvm.MethodName) jdk_42_method_3_code (2 : Nat) (Option.none : Option Jvm.ClassFile.FieldType)).before args0 about1 = true := code_word (m := ⟨7, 1⟩) (meth := k7m1) (c := k7c1) (by decide +kernel) rfl rfl rfl (by decide +kernel)
set_option maxRecDepth 65536 in
theorem w_c4 : (Jvm.Cond.code ({ cls := "java/lang/String", name := "<init>", desc := "([CIILjava/lang/Void;)V" } : Jvm.MethodName) jdk_42_method_149_code (6 : Nat) (Option.none : Option Jvm.ClassFile.FieldType)).before args0 about1 = true := code_word (m := ⟨7, 6⟩) (meth := k7m6) (c := k7c6) (by decide +kernel) rfl rfl rfl (by decide +kernel)
set_option maxRecDepth 65536 in
theorem w_c5 : (Jvm.Cond.code ({ cls := "java/lang/Object", name := "<init>", desc := "()V" } : Jvm.MethodName) object_method_1_code (1 : Nat) (Option.none : Option Jvm.ClassFile.FieldType)).before args0 about1 = true := code_word (m := ⟨0, 0⟩) (meth := k0m0) (c := k0c0) (by decide +kernel) rfl rfl rfl (by decide +kernel)
set_option maxRecDepth 65536 in
theorem w_c6 : (Jvm.Cond.code ({ cls := "java/lang/StringUTF16", name := "compress", desc := "([CII)[B" } : Jvm.MethodName) jdk_52_method_16_code (6 : Nat) (Option.some (Jvm.ClassFile.FieldType.array Jvm.ClassFile.FieldType.byte))).before args0 about1 = true := code_word (m := ⟨8, 2⟩) (meth := k8m2) (c := k8c2) (by decide +kernel) rfl rfl rfl (by decide +kernel)
set_option maxRecDepth 65536 in
theorem w_c7 : (Jvm.Cond.code ({ cls := "java/lang/StringUTF16", name := "compress", desc := "([CI[BII)I" } : Jvm.MethodName) jdk_52_method_21_code (7 : Nat) (Option.some Jvm.ClassFile.FieldType.int)).before args0 about1 = true := code_word (m := ⟨8, 3⟩) (meth := k8m3) (c := k8c3) (by decide +kernel) rfl rfl rfl (by decide +kernel)
set_option maxRecDepth 65536 in
theorem w_c8 : (Jvm.Cond.code ({ cls := "java/lang/StringUTF16", name := "coderFromArrayLen", desc := "([BI)B" } : Jvm.MethodName) jdk_52_method_15_code (2 : Nat) (Option.some Jvm.ClassFile.FieldType.byte)).before args0 about1 = true := code_word (m := ⟨8, 1⟩) (meth := k8m1) (c := k8c1) (by decide +kernel) rfl rfl rfl (by decide +kernel)
set_option maxRecDepth 65536 in
theorem w_c9 : (Jvm.Cond.code ({ cls := "com/example/safe_retries/saferetries/identity/IdempotencyKey", name := "<init>", desc := "(Ljava/lang/String;)V" } : Jvm.MethodName) prog_16_method_1_code (4 : Nat) (Option.none : Option Jvm.ClassFile.FieldType)).before args0 about1 = true := code_word (m := ⟨9, 0⟩) (meth := k9m0) (c := k9c0) (by decide +kernel) rfl rfl rfl (by decide +kernel)
set_option maxRecDepth 65536 in
theorem w_c10 : (Jvm.Cond.code ({ cls := "java/util/Objects", name := "requireNonNull", desc := "(Ljava/lang/Object;Ljava/lang/String;)Ljava/lang/Object;" } : Jvm.MethodName) jdk_31_method_11_code (2 : Nat) (Option.some (Jvm.ClassFile.FieldType.object "java/lang/Object"))).before args0 about1 = true := code_word (m := ⟨10, 1⟩) (meth := k10m1) (c := k10c1) (by decide +kernel) rfl rfl rfl (by decide +kernel)
set_option maxRecDepth 65536 in
theorem w_c11 : (Jvm.Cond.code ({ cls := "java/lang/String", name := "isEmpty", desc := "()Z" } : Jvm.MethodName) jdk_42_method_55_code (1 : Nat) (Option.some Jvm.ClassFile.FieldType.boolean)).before args0 about1 = true := code_word (m := ⟨7, 3⟩) (meth := k7m3) (c := k7c3) (by decide +kernel) rfl rfl rfl (by decide +kernel)
set_option maxRecDepth 65536 in
theorem w_c12 : (Jvm.Cond.code ({ cls := "java/lang/String", name := "length", desc := "()I" } : Jvm.MethodName) jdk_42_method_54_code (1 : Nat) (Option.some Jvm.ClassFile.FieldType.int)).before args0 about1 = true := code_word (m := ⟨7, 2⟩) (meth := k7m2) (c := k7c2) (by decide +kernel) rfl rfl rfl (by decide +kernel)
set_option maxRecDepth 65536 in
theorem w_c13 : (Jvm.Cond.code ({ cls := "java/lang/String", name := "coder", desc := "()B" } : Jvm.MethodName) jdk_42_method_152_code (1 : Nat) (Option.some Jvm.ClassFile.FieldType.byte)).before args0 about1 = true := code_word (m := ⟨7, 7⟩) (meth := k7m7) (c := k7c7) (by decide +kernel) rfl rfl rfl (by decide +kernel)
set_option maxRecDepth 65536 in
theorem w_c14 : (Jvm.Cond.code ({ cls := "java/lang/String", name := "charAt", desc := "(I)C" } : Jvm.MethodName) jdk_42_method_56_code (2 : Nat) (Option.some Jvm.ClassFile.FieldType.char)).before args0 about1 = true := code_word (m := ⟨7, 4⟩) (meth := k7m4) (c := k7c4) (by decide +kernel) rfl rfl rfl (by decide +kernel)
set_option maxRecDepth 65536 in
theorem w_c15 : (Jvm.Cond.code ({ cls := "java/lang/String", name := "isLatin1", desc := "()Z" } : Jvm.MethodName) jdk_42_method_154_code (1 : Nat) (Option.some Jvm.ClassFile.FieldType.boolean)).before args0 about1 = true := code_word (m := ⟨7, 8⟩) (meth := k7m8) (c := k7c8) (by decide +kernel) rfl rfl rfl (by decide +kernel)
set_option maxRecDepth 65536 in
theorem w_c16 : (Jvm.Cond.code ({ cls := "java/lang/StringLatin1", name := "charAt", desc := "([BI)C" } : Jvm.MethodName) jdk_43_method_2_code (2 : Nat) (Option.some Jvm.ClassFile.FieldType.char)).before args0 about1 = true := code_word (m := ⟨11, 1⟩) (meth := k11m1) (c := k11c1) (by decide +kernel) rfl rfl rfl (by decide +kernel)
set_option maxRecDepth 65536 in
theorem w_c17 : (Jvm.Cond.code ({ cls := "java/lang/String", name := "checkIndex", desc := "(II)V" } : Jvm.MethodName) jdk_42_method_155_code (2 : Nat) (Option.none : Option Jvm.ClassFile.FieldType)).before args0 about1 = true := code_word (m := ⟨7, 9⟩) (meth := k7m9) (c := k7c9) (by decide +kernel) rfl rfl rfl (by decide +kernel)
set_option maxRecDepth 65536 in
theorem w_c18 : (Jvm.Cond.code ({ cls := "jdk/internal/util/Preconditions", name := "checkIndex", desc := "(IILjava/util/function/BiFunction;)I" } : Jvm.MethodName) jdk_41_method_11_code (3 : Nat) (Option.some Jvm.ClassFile.FieldType.int)).before args0 about1 = true := code_word (m := ⟨12, 1⟩) (meth := k12m1) (c := k12c1) (by decide +kernel) rfl rfl rfl (by decide +kernel)
set_option maxRecDepth 65536 in
theorem w_c19 : (Jvm.Cond.code ({ cls := "com/example/safe_retries/saferetries/identity/IdempotencyKey", name := "equals", desc := "(Ljava/lang/Object;)Z" } : Jvm.MethodName) prog_16_method_4_code (3 : Nat) (Option.some Jvm.ClassFile.FieldType.boolean)).before args0 about1 = true := code_word (m := ⟨9, 1⟩) (meth := k9m1) (c := k9c1) (by decide +kernel) rfl rfl rfl (by decide +kernel)
set_option maxRecDepth 65536 in
theorem w_c20 : (Jvm.Cond.code ({ cls := "java/lang/String", name := "equals", desc := "(Ljava/lang/Object;)Z" } : Jvm.MethodName) jdk_42_method_66_code (3 : Nat) (Option.some Jvm.ClassFile.FieldType.boolean)).before args0 about1 = true := code_word (m := ⟨7, 5⟩) (meth := k7m5) (c := k7c5) (by decide +kernel) rfl rfl rfl (by decide +kernel)
set_option maxRecDepth 65536 in
theorem w_c21 : (Jvm.Cond.code ({ cls := "java/lang/StringLatin1", name := "equals", desc := "([B[B)Z" } : Jvm.MethodName) jdk_43_method_13_code (3 : Nat) (Option.some Jvm.ClassFile.FieldType.boolean)).before args0 about1 = true := code_word (m := ⟨11, 2⟩) (meth := k11m2) (c := k11c2) (by decide +kernel) rfl rfl rfl (by decide +kernel)
def codes1 : List Jvm.Cond := [Jvm.Cond.code x code maxLocals ret, Jvm.Cond.code ({ cls := "com/example/safe_retries/saferetries/identity/IdempotencyKeyEqualsPinLaw", name := "ch", desc := "(II)C" } : Jvm.MethodName) method_2_code (3 : Nat) (Option.some Jvm.ClassFile.FieldType.char), Jvm.Cond.code ({ cls := "com/example/safe_retries/saferetries/identity/IdempotencyKeyEqualsPinLaw", name := "mk", desc := "(ICCC)Ljava/lang/String;" } : Jvm.MethodName) method_3_code (4 : Nat) (Option.some (Jvm.ClassFile.FieldType.object "java/lang/String")), Jvm.Cond.code ({ cls := "java/lang/String", name := "<init>", desc := "([C)V" } : Jvm.MethodName) jdk_42_method_3_code (2 : Nat) (Option.none : Option Jvm.ClassFile.FieldType), Jvm.Cond.code ({ cls := "java/lang/String", name := "<init>", desc := "([CIILjava/lang/Void;)V" } : Jvm.MethodName) jdk_42_method_149_code (6 : Nat) (Option.none : Option Jvm.ClassFile.FieldType), Jvm.Cond.code ({ cls := "java/lang/Object", name := "<init>", desc := "()V" } : Jvm.MethodName) object_method_1_code (1 : Nat) (Option.none : Option Jvm.ClassFile.FieldType), Jvm.Cond.code ({ cls := "java/lang/StringUTF16", name := "compress", desc := "([CII)[B" } : Jvm.MethodName) jdk_52_method_16_code (6 : Nat) (Option.some (Jvm.ClassFile.FieldType.array Jvm.ClassFile.FieldType.byte)), Jvm.Cond.code ({ cls := "java/lang/StringUTF16", name := "compress", desc := "([CI[BII)I" } : Jvm.MethodName) jdk_52_method_21_code (7 : Nat) (Option.some Jvm.ClassFile.FieldType.int), Jvm.Cond.code ({ cls := "java/lang/StringUTF16", name := "coderFromArrayLen", desc := "([BI)B" } : Jvm.MethodName) jdk_52_method_15_code (2 : Nat) (Option.some Jvm.ClassFile.FieldType.byte), Jvm.Cond.code ({ cls := "com/example/safe_retries/saferetries/identity/IdempotencyKey", name := "<init>", desc := "(Ljava/lang/String;)V" } : Jvm.MethodName) prog_16_method_1_code (4 : Nat) (Option.none : Option Jvm.ClassFile.FieldType), Jvm.Cond.code ({ cls := "java/util/Objects", name := "requireNonNull", desc := "(Ljava/lang/Object;Ljava/lang/String;)Ljava/lang/Object;" } : Jvm.MethodName) jdk_31_method_11_code (2 : Nat) (Option.some (Jvm.ClassFile.FieldType.object "java/lang/Object")), Jvm.Cond.code ({ cls := "java/lang/String", name := "isEmpty", desc := "()Z" } : Jvm.MethodName) jdk_42_method_55_code (1 : Nat) (Option.some Jvm.ClassFile.FieldType.boolean), Jvm.Cond.code ({ cls := "java/lang/String", name := "length", desc := "()I" } : Jvm.MethodName) jdk_42_method_54_code (1 : Nat) (Option.some Jvm.ClassFile.FieldType.int), Jvm.Cond.code ({ cls := "java/lang/String", name := "coder", desc := "()B" } : Jvm.MethodName) jdk_42_method_152_code (1 : Nat) (Option.some Jvm.ClassFile.FieldType.byte), Jvm.Cond.code ({ cls := "java/lang/String", name := "charAt", desc := "(I)C" } : Jvm.MethodName) jdk_42_method_56_code (2 : Nat) (Option.some Jvm.ClassFile.FieldType.char), Jvm.Cond.code ({ cls := "java/lang/String", name := "isLatin1", desc := "()Z" } : Jvm.MethodName) jdk_42_method_154_code (1 : Nat) (Option.some Jvm.ClassFile.FieldType.boolean), Jvm.Cond.code ({ cls := "java/lang/StringLatin1", name := "charAt", desc := "([BI)C" } : Jvm.MethodName) jdk_43_method_2_code (2 : Nat) (Option.some Jvm.ClassFile.FieldType.char), Jvm.Cond.code ({ cls := "java/lang/String", name := "checkIndex", desc := "(II)V" } : Jvm.MethodName) jdk_42_method_155_code (2 : Nat) (Option.none : Option Jvm.ClassFile.FieldType), Jvm.Cond.code ({ cls := "jdk/internal/util/Preconditions", name := "checkIndex", desc := "(IILjava/util/function/BiFunction;)I" } : Jvm.MethodName) jdk_41_method_11_code (3 : Nat) (Option.some Jvm.ClassFile.FieldType.int), Jvm.Cond.code ({ cls := "com/example/safe_retries/saferetries/identity/IdempotencyKey", name := "equals", desc := "(Ljava/lang/Object;)Z" } : Jvm.MethodName) prog_16_method_4_code (3 : Nat) (Option.some Jvm.ClassFile.FieldType.boolean), Jvm.Cond.code ({ cls := "java/lang/String", name := "equals", desc := "(Ljava/lang/Object;)Z" } : Jvm.MethodName) jdk_42_method_66_code (3 : Nat) (Option.some Jvm.ClassFile.FieldType.boolean), Jvm.Cond.code ({ cls := "java/lang/StringLatin1", name := "equals", desc := "([B[B)Z" } : Jvm.MethodName) jdk_43_method_13_code (3 : Nat) (Option.some Jvm.ClassFile.FieldType.boolean)]
set_option maxRecDepth 65536 in
theorem codes_eq : words1.filter isCode = codes1 := rfl
theorem w_codes : ∀ c ∈ words1.filter isCode, c.before args0 about1 = true := by
  rw [codes_eq]
  intro c hc
  simp only [codes1, List.mem_cons, List.not_mem_nil, or_false] at hc
  rcases hc with rfl | rfl | rfl | rfl | rfl | rfl | rfl | rfl | rfl | rfl | rfl | rfl | rfl | rfl | rfl | rfl | rfl | rfl | rfl | rfl | rfl | rfl
  · exact w_c0
  · exact w_c1
  · exact w_c2
  · exact w_c3
  · exact w_c4
  · exact w_c5
  · exact w_c6
  · exact w_c7
  · exact w_c8
  · exact w_c9
  · exact w_c10
  · exact w_c11
  · exact w_c12
  · exact w_c13
  · exact w_c14
  · exact w_c15
  · exact w_c16
  · exact w_c17
  · exact w_c18
  · exact w_c19
  · exact w_c20
  · exact w_c21
set_option maxRecDepth 65536 in
theorem w_t1 : (words1.take 24).all (fun c => isCode c || c.before args0 about1) = true := by decide +kernel
set_option maxRecDepth 65536 in
theorem w_t2 : ((words1.drop 24).take 24).all (fun c => isCode c || c.before args0 about1) = true := by decide +kernel
set_option maxRecDepth 65536 in
theorem w_t3 : (((words1.drop 24).drop 24).take 24).all (fun c => isCode c || c.before args0 about1) = true := by decide +kernel
set_option maxRecDepth 65536 in
theorem w_t4 : ((((words1.drop 24).drop 24).drop 24).take 24).all (fun c => isCode c || c.before args0 about1) = true := by decide +kernel
set_option maxRecDepth 65536 in
theorem w_t5 : ((((words1.drop 24).drop 24).drop 24).drop 24).all (fun c => isCode c || c.before args0 about1) = true := by decide +kernel
theorem w_tables : (allAtoms (Jvm.Cond.code x code maxLocals ret :: tables_1)).before args0 about1 = true := by
  rw [allAtoms_all]
  show words1.all (fun c => c.before args0 about1) = true
  refine all_split ?_ w_codes
  rw [← List.take_append_drop 24 words1, List.all_append, w_t1, ← List.take_append_drop 24 (words1.drop 24), List.all_append, w_t2, ← List.take_append_drop 24 ((words1.drop 24).drop 24), List.all_append, w_t3, ← List.take_append_drop 24 (((words1.drop 24).drop 24).drop 24), List.all_append, w_t4, w_t5]
  rfl
set_option maxRecDepth 65536 in
theorem w_rest : rest_1_c.before args0 about1 = true := by decide +kernel
set_option maxRecDepth 65536 in
theorem w_case : (Jvm.Cond.and given_1 narrow_1).before args0 about1 = true := by decide +kernel
theorem w_applies : (headSpec (Jvm.Cond.code x code maxLocals ret :: tables_1) room_1).applies x e0.platform about1 = true :=
  (Spec.applies_iff w_frames).mpr ⟨w_running, w_runnable, w_alone, w_named, w_hears, w_ripe, w_room, w_tables⟩
theorem atStart : AtStart classFile x code maxLocals ret World_1 tables_1 room_1 Calls_1 rest_1 Pre_1 launch0 p0 e0 about1 theMethod args0 below0 :=
  ⟨lists_1, trivial, launch0.admits_env _ _ _, launch0.least_env, fairChoices_fair.cas, fairChoices_fair.clock, w_frames, w_args, w_heap, w_applies, trivial, w_rest, w_case⟩
end start1
theorem witness_1 : WitnessClaimed_1 := ⟨start1.p0, start1.e0, start1.about1, start1.theMethod, start1.args0, start1.below0, start1.atStart⟩
end Jvm.Pilot.@@N@@
