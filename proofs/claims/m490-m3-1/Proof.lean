import JvmDerived
import JvmDerived.Pilot.@@N@@Statement
import JvmDerived.Pilot.@@N@@Code
set_option linter.unusedVariables false
set_option linter.unusedSimpArgs false
/- laws to paste: Road.backV, Road.lenW, Road.chN, Road.eqW, Road.empW, Road.codOf (cut by pick.py; bodies as the Statement names them) -/
namespace Jvm.Pilot.@@N@@
namespace StrChars
open Jvm Sem ClassFile Op Lib Jvm.Stand Jvm.Free.XT Jvm.Free.ALB Jvm.Free.JM Jvm.Free
open Jvm.Lib.Cold (StaticIs)
/-- a char array whose places are chars -/
def Ch (a : Addr) (A : Cell) (U : State) : Prop := Arr .char a A U ∧ Typed .char A
theorem Ch.mv {a : Addr} {A : Cell} {U U' : State} (h : Ch a A U) (hal : U.vm.Alike U'.vm) (hh : U'.heap = U.heap) : Ch a A U' := ⟨h.1.mv hal hh, h.2⟩
theorem Ch.keep {a : Addr} {A : Cell} {U U' : State} (h : Ch a A U) (hal : U.vm.Alike U'.vm) (hk : U'.heap[a]? = some A) : Ch a A U' := ⟨h.1.keep hal hk, h.2⟩
/-- what place i of a char[]'s cell holds -/
def cv (A : Cell) (i : Nat) : Int32 := match A.slots[i]? with | some (.int x) => x | _ => 0
theorem Ch.get {a : Addr} {A : Cell} {U : State} (h : Ch a A U) {i : Nat} (hi : i < A.slots.size) : A.slots[i]? = some (.int (cv A i)) := by
  have e := Array.getElem?_eq_getElem hi
  have f := h.2 i _ e
  unfold cv; rw [e]
  generalize A.slots[i] = v at f
  cases v <;> simp [fits] at f ⊢
/-- the byte that i2b leaves of a char -/
def lo8 (x : Int32) : Int32 := x.toInt8.toInt32
theorem fits_lo8 (y : Int32) : fits .byte (.int (lo8 y)) = true := by
  have h1 := y.toInt8.le_toInt
  have h2 := y.toInt8.toInt_lt
  simp only [lo8, fits, Bool.and_eq_true, decide_eq_true_eq, Int32.le_iff_toInt_le, Int8.toInt_toInt32, show (-128 : Int32).toInt = -128 from by decide, show (127 : Int32).toInt = 127 from by decide]
  omega
/-- A' is A but that each place j of lo .. hi - 1 holds f j -/
def Laid (A A' : Cell) (lo hi : Nat) (f : Nat → Value) : Prop := A'.cls = A.cls ∧ A'.vm = A.vm ∧ A'.slots.size = A.slots.size ∧ ∀ i, A'.slots[i]? = if lo ≤ i ∧ i < hi then some (f i) else A.slots[i]?
theorem Laid.zero (A : Cell) (lo : Nat) (f : Nat → Value) : Laid A A lo (lo + 0) f := ⟨rfl, rfl, rfl, fun i => by rw [if_neg (by omega)]⟩
theorem Laid.step {A Ak : Cell} {lo k : Nat} {f : Nat → Value} {v : Value} (h : Laid A Ak lo k f) (hlo : lo ≤ k) (hk : k < Ak.slots.size) (hv : v = f k) : Laid A (Ak.setSlot k v) lo (k + 1) f := by
  refine ⟨h.1, h.2.1, by simpa [Cell.setSlot] using h.2.2.1, fun i => ?_⟩
  by_cases e : k = i
  · subst e; rw [Cell.slots_setSlot_self v hk, if_pos (by omega), hv]
  · rw [Cell.slots_setSlot_ne v e, h.2.2.2 i]
    by_cases q : lo ≤ i ∧ i < k
    · rw [if_pos q, if_pos (by omega)]
    · rw [if_neg q, if_neg (by omega)]
def U16 : String := "java/lang/StringUTF16"
namespace Cmp5
def yN : MethodName := ⟨"java/lang/StringUTF16", "compress", "([CI[BII)I"⟩
abbrev yB : ByteArray := jdk_52_method_21_code
theorem d0 : decode yB 0 = .ok (.iconst 0, 1) := by decide +kernel
theorem d1 : decode yB 1 = .ok (.istore 5, 2) := by decide +kernel
theorem d3 : decode yB 3 = .ok (.iload 5, 2) := by decide +kernel
theorem d5 : decode yB 5 = .ok (.iload 4, 2) := by decide +kernel
theorem d7 : decode yB 7 = .ok (.if_icmp (.ge) 37, 3) := by decide +kernel
theorem d10 : decode yB 10 = .ok (.aload_n 0, 1) := by decide +kernel
theorem d11 : decode yB 11 = .ok (.iload_n 1, 1) := by decide +kernel
theorem d12 : decode yB 12 = .ok (.caload, 1) := by decide +kernel
theorem d13 : decode yB 13 = .ok (.istore 6, 2) := by decide +kernel
theorem d15 : decode yB 15 = .ok (.iload 6, 2) := by decide +kernel
theorem d17 : decode yB 17 = .ok (.sipush 255, 3) := by decide +kernel
theorem d20 : decode yB 20 = .ok (.if_icmp (.le) 6, 3) := by decide +kernel
theorem d26 : decode yB 26 = .ok (.aload_n 2, 1) := by decide +kernel
theorem d27 : decode yB 27 = .ok (.iload_n 3, 1) := by decide +kernel
theorem d28 : decode yB 28 = .ok (.iload 6, 2) := by decide +kernel
theorem d30 : decode yB 30 = .ok (.i2b, 1) := by decide +kernel
theorem d31 : decode yB 31 = .ok (.bastore, 1) := by decide +kernel
theorem d32 : decode yB 32 = .ok (.iinc 1 1, 3) := by decide +kernel
theorem d35 : decode yB 35 = .ok (.iinc 3 1, 3) := by decide +kernel
theorem d38 : decode yB 38 = .ok (.iinc 5 1, 3) := by decide +kernel
theorem d41 : decode yB 41 = .ok (.goto (-38), 3) := by decide +kernel
theorem d44 : decode yB 44 = .ok (.iload 4, 2) := by decide +kernel
theorem d46 : decode yB 46 = .ok (.ireturn, 1) := by decide +kernel
def site : List Cond := []
def tab : Cond := tabOf yN yB 7 (some .int) site
def P (b : Addr) (A : Cell) (d : Addr) (B : Cell) (o q len : Nat) (args : Array Value) (s : State) : Prop := args = #[.ref b, .int (Int32.ofNat o), .ref d, .int (Int32.ofNat q), .int (Int32.ofNat len)] ∧ Ch b A s ∧ Arr .byte d B s ∧ b ≠ d ∧ o + len ≤ A.slots.size ∧ q + len ≤ B.slots.size ∧ ∀ i, i < len → ¬ 255 < cv A (o + i)
def E (b : Addr) (A : Cell) (d : Addr) (B : Cell) (o q len : Nat) (r : Option Value) (s u : State) : Prop := r = some (.int (Int32.ofNat len)) ∧ ∃ B', Put d B' s u ∧ Laid B B' q (q + len) (fun j => Value.int (lo8 (cv A (o + (j - q)))))
/-- no char of the range above 255: len; the places written hold each char's low byte -/
theorem law (l : Launch) (b : Addr) (A : Cell) (d : Addr) (B : Cell) (o q len : Nat) : Law l yN 5 5 0 0 yB 7 (some .int) site (P b A d B o q len) (E b A d B o q len) (copyLocs d q len) 0 0 := by
  refine Law.of_walk (plainFor_of_name (by decide +kernel)) (by decide +kernel) (by decide +kernel) (by decide) (fun _ _ h => by rw [h.1]; rfl) (fun _ U U' hal hh h => ⟨h.1, h.2.1.mv hal hh, h.2.2.1.mv hal hh, h.2.2.2⟩) (fun r U U' V V' h1 hal h2 h => ⟨h.1, h.2.elim fun B' q => ⟨B', q.1.mv h1 h2, q.2⟩⟩) ?_
  intro p e s m args below meth c s₁ X0 hexec hbytes hml hret hlk hnm hown hh0 W hP
  obtain ⟨rfl, hA, hB, hne, l1, l2, hp⟩ := hP
  have c1 : Steps p.tables e below (s₁.setTop (entryFrame m #[.ref b, .int (Int32.ofNat o), .ref d, .int (Int32.ofNat q), .int (Int32.ofNat len)] 7)) (s₁.setTop (mkF m 0 #[.val (.ref b), .val (.int (Int32.ofNat o)), .val (.ref d), .val (.int (Int32.ofNat q)), .val (.int (Int32.ofNat len)), .unset, .unset] [])) := entry rfl
  have hA0 := hA.1.mv X0.warmed.alike hh0
  have hB0 := hB.mv X0.warmed.alike hh0
  have a31 := hA.1.2.2.2
  have c2 : Steps p.tables e below (s₁.setTop (entryFrame m #[.ref b, .int (Int32.ofNat o), .ref d, .int (Int32.ofNat q), .int (Int32.ofNat len)] 7)) (s₁.setTop (mkF m 3 #[.val (.ref b), .val (.int (Int32.ofNat o)), .val (.ref d), .val (.int (Int32.ofNat q)), .val (.int (Int32.ofNat len)), .val (.int 0), .unset] [])) := c1.trans (by
    refine iconstV X0.here hexec rfl 0 (hb hbytes d0) (by decide) ?_
    refine XS.istore X0.here hexec rfl (hb hbytes d1) rfl rfl ?_
    exact Steps.refl _)
  have loop : ∀ (r i : Nat), i + r = len → ∀ (z : Slot), (z = .unset ∨ ∃ w, z = .val w ∧ w.category = 1) → ∀ (Tl : State) (Bk : Cell), Stand p l e { frames := 0, locals := 0, cells := 0, slots := 0 } s m #[.ref b, .int (Int32.ofNat o), .ref d, .int (Int32.ofNat q), .int (Int32.ofNat len)] below meth c Tl ([] ++ copyLocs d q i) 0 0 → Put d Bk s₁ Tl → Laid B Bk q (q + i) (fun j => Value.int (lo8 (cv A (o + (j - q))))) →
      Steps p.tables e below (s₁.setTop (entryFrame m #[.ref b, .int (Int32.ofNat o), .ref d, .int (Int32.ofNat q), .int (Int32.ofNat len)] 7)) (Tl.setTop (mkF m 3 #[.val (.ref b), .val (.int (Int32.ofNat (o + i))), .val (.ref d), .val (.int (Int32.ofNat (q + i))), .val (.int (Int32.ofNat len)), .val (.int (Int32.ofNat i)), z] [])) → ∃ (T' : State) (B' : Cell) (z' : Slot), Stand p l e { frames := 0, locals := 0, cells := 0, slots := 0 } s m #[.ref b, .int (Int32.ofNat o), .ref d, .int (Int32.ofNat q), .int (Int32.ofNat len)] below meth c T' ([] ++ copyLocs d q len) 0 0 ∧ Put d B' s₁ T' ∧ Laid B B' q (q + len) (fun j => Value.int (lo8 (cv A (o + (j - q))))) ∧
      Steps p.tables e below (s₁.setTop (entryFrame m #[.ref b, .int (Int32.ofNat o), .ref d, .int (Int32.ofNat q), .int (Int32.ofNat len)] 7)) (T'.setTop (mkF m 3 #[.val (.ref b), .val (.int (Int32.ofNat (o + len))), .val (.ref d), .val (.int (Int32.ofNat (q + len))), .val (.int (Int32.ofNat len)), .val (.int (Int32.ofNat len)), z'] [])) := by
    intro r
    induction r with
    | zero =>
      intro i hi z hz Tl Bk Xl pl fl cl
      have hil : i = len := by omega
      rw [hil] at Xl fl cl
      exact ⟨Tl, Bk, z, Xl, pl, fl, cl⟩
    | succ r ih =>
      intro i hi z hz Tl Bk Xl pl fl cl
      have all := X0.warmed.alike.symm.trans Xl.warmed.alike
      have hAl := hA0.keep all (pl.other hne hA0.1)
      have hBk := hB0.like all pl.1 fl.1 fl.2.1 fl.2.2.1
      have hlt : q + i < Bk.slots.size := by rw [fl.2.2.1]; omega
      have c3 : Steps p.tables e below (s₁.setTop (entryFrame m #[.ref b, .int (Int32.ofNat o), .ref d, .int (Int32.ofNat q), .int (Int32.ofNat len)] 7)) (Tl.setTop (mkF m 12 #[.val (.ref b), .val (.int (Int32.ofNat (o + i))), .val (.ref d), .val (.int (Int32.ofNat (q + i))), .val (.int (Int32.ofNat len)), .val (.int (Int32.ofNat i)), z] [.int (Int32.ofNat (o + i)), .ref b])) := cl.trans (by
        refine XS.iload Xl.here hexec rfl (hb hbytes d3) rfl ?_
        refine XS.iload Xl.here hexec rfl (hb hbytes d5) rfl ?_
        refine XS.icmpNo Xl.here hexec rfl (hb hbytes d7) rfl (ii_ge_f (lt32 (by omega) (by omega))) ?_
        refine XS.aloadN Xl.here hexec rfl (hb hbytes d10) rfl rfl ?_
        refine XS.iloadN Xl.here hexec rfl (hb hbytes d11) rfl ?_
        exact Steps.refl _)
      have c4 : Steps p.tables e below (s₁.setTop (entryFrame m #[.ref b, .int (Int32.ofNat o), .ref d, .int (Int32.ofNat q), .int (Int32.ofNat len)] 7)) (Tl.setTop (mkF m 13 #[.val (.ref b), .val (.int (Int32.ofNat (o + i))), .val (.ref d), .val (.int (Int32.ofNat (q + i))), .val (.int (Int32.ofNat len)), .val (.int (Int32.ofNat i)), z] [.int (cv A (o + i))])) := c3.trans (by
        refine Xl.aget hexec hAl rfl (hA.get (i := o + i) (by omega)) rfl rfl (hb hbytes d12) ?_
        exact Steps.refl _)
      have c5 : Steps p.tables e below (s₁.setTop (entryFrame m #[.ref b, .int (Int32.ofNat o), .ref d, .int (Int32.ofNat q), .int (Int32.ofNat len)] 7)) (Tl.setTop (mkF m 15 #[.val (.ref b), .val (.int (Int32.ofNat (o + i))), .val (.ref d), .val (.int (Int32.ofNat (q + i))), .val (.int (Int32.ofNat len)), .val (.int (Int32.ofNat i)), .val (.int (cv A (o + i)))] [])) := c4.trans (by
        refine XS.istoreS Xl.here hexec rfl (hb hbytes d13) rfl rfl hz ?_
        exact Steps.refl _)
      have c6 : Steps p.tables e below (s₁.setTop (entryFrame m #[.ref b, .int (Int32.ofNat o), .ref d, .int (Int32.ofNat q), .int (Int32.ofNat len)] 7)) (Tl.setTop (mkF m 31 #[.val (.ref b), .val (.int (Int32.ofNat (o + i))), .val (.ref d), .val (.int (Int32.ofNat (q + i))), .val (.int (Int32.ofNat len)), .val (.int (Int32.ofNat i)), .val (.int (cv A (o + i)))] [.int (lo8 (cv A (o + i))), .int (Int32.ofNat (q + i)), .ref d])) := c5.trans (by
        refine XS.iload Xl.here hexec rfl (hb hbytes d15) rfl ?_
        refine sipushV Xl.here hexec rfl 255 (hb hbytes d17) (by decide) ?_
        refine XS.icmpYes Xl.here hexec rfl (pc0 := 20) rfl (hb hbytes d20) rfl (ii_le_t (hp i (by omega))) (by decide) rfl ?_
        refine XS.aloadN Xl.here hexec rfl (hb hbytes d26) rfl rfl ?_
        refine XS.iloadN Xl.here hexec rfl (hb hbytes d27) rfl ?_
        refine XS.iload Xl.here hexec rfl (hb hbytes d28) rfl ?_
        refine i2b Xl.here hexec rfl (hb hbytes d30) rfl ?_
        exact Steps.refl _)
      obtain ⟨T7, X7, p7, st7⟩ := Xl.aput hexec hBk rfl hlt rfl (fits_lo8 (cv A (o + i))) (g := (mkF m 31 #[.val (.ref b), .val (.int (Int32.ofNat (o + i))), .val (.ref d), .val (.int (Int32.ofNat (q + i))), .val (.int (Int32.ofNat len)), .val (.int (Int32.ofNat i)), .val (.int (cv A (o + i)))] [.int (lo8 (cv A (o + i))), .int (Int32.ofNat (q + i)), .ref d])) rfl (rest := []) rfl (hb hbytes d31)
      have c8 : Steps p.tables e below (s₁.setTop (entryFrame m #[.ref b, .int (Int32.ofNat o), .ref d, .int (Int32.ofNat q), .int (Int32.ofNat len)] 7)) (T7.setTop (mkF m 32 #[.val (.ref b), .val (.int (Int32.ofNat (o + i))), .val (.ref d), .val (.int (Int32.ofNat (q + i))), .val (.int (Int32.ofNat len)), .val (.int (Int32.ofNat i)), .val (.int (cv A (o + i)))] [])) := c6.trans (st7 _ (Steps.refl _))
      have c9 : Steps p.tables e below (s₁.setTop (entryFrame m #[.ref b, .int (Int32.ofNat o), .ref d, .int (Int32.ofNat q), .int (Int32.ofNat len)] 7)) (T7.setTop (mkF m 3 #[.val (.ref b), .val (.int (Int32.ofNat (o + i) + 1)), .val (.ref d), .val (.int (Int32.ofNat (q + i) + 1)), .val (.int (Int32.ofNat len)), .val (.int (Int32.ofNat i + 1)), .val (.int (cv A (o + i)))] [])) := c8.trans (by
        refine iincV X7.here hexec rfl 1 (hb hbytes d32) (by decide) rfl rfl ?_
        refine iincV X7.here hexec rfl 1 (hb hbytes d35) (by decide) rfl rfl ?_
        refine iincV X7.here hexec rfl 1 (hb hbytes d38) (by decide) rfl rfl ?_
        refine XS.goto X7.here hexec rfl (pc0 := 41) rfl (hb hbytes d41) (by decide) rfl ?_
        exact Steps.refl _)
      have c10 : Steps p.tables e below (s₁.setTop (entryFrame m #[.ref b, .int (Int32.ofNat o), .ref d, .int (Int32.ofNat q), .int (Int32.ofNat len)] 7)) (T7.setTop (mkF m 3 #[.val (.ref b), .val (.int (Int32.ofNat (o + (i + 1)))), .val (.ref d), .val (.int (Int32.ofNat (q + (i + 1)))), .val (.int (Int32.ofNat len)), .val (.int (Int32.ofNat (i + 1))), .val (.int (cv A (o + i)))] [])) := by
        have := c9
        rw [succ32, succ32, succ32] at this
        exact this
      exact ih (i + 1) (by omega) _ (Or.inr ⟨_, rfl, rfl⟩) T7 _ (by rw [copyLocs_step, ← List.append_assoc]; exact X7) (pl.trans p7) (fl.step (by omega) hlt (by simp)) c10
  obtain ⟨T9, B9, z9, X9, p9, f9, g9⟩ := loop len 0 (by omega) .unset (Or.inl rfl) s₁ B (by simpa [copyLocs] using X0) ⟨hB0.1, fun _ _ => rfl, rfl⟩ (Laid.zero _ _ _) c2
  have c11 : Steps p.tables e below (s₁.setTop (entryFrame m #[.ref b, .int (Int32.ofNat o), .ref d, .int (Int32.ofNat q), .int (Int32.ofNat len)] 7)) (T9.setTop (mkF m 46 #[.val (.ref b), .val (.int (Int32.ofNat (o + len))), .val (.ref d), .val (.int (Int32.ofNat (q + len))), .val (.int (Int32.ofNat len)), .val (.int (Int32.ofNat len)), z9] [.int (Int32.ofNat len)])) := g9.trans (by
    refine XS.iload X9.here hexec rfl (hb hbytes d3) rfl ?_
    refine XS.iload X9.here hexec rfl (hb hbytes d5) rfl ?_
    refine XS.icmpYes X9.here hexec rfl (pc0 := 7) rfl (hb hbytes d7) rfl (ii_ge_t (nlt32 (by omega) (Nat.le_refl _))) (by decide) rfl ?_
    refine XS.iload X9.here hexec rfl (hb hbytes d44) rfl ?_
    exact Steps.refl _)
  exact ⟨T9, some (.int (Int32.ofNat len)), _, _, _, X9, by simp, rfl, rfl, (fun h => by cases h), ⟨rfl, B9, p9.from hh0, f9⟩, fun fs hl => c11.trans (X9.ireturnOut hexec hret rfl (Or.inl rfl) (hb hbytes d46) hl)⟩
end Cmp5
namespace Cmp3
def yN : MethodName := ⟨"java/lang/StringUTF16", "compress", "([CII)[B"⟩
abbrev yB : ByteArray := jdk_52_method_16_code
theorem d0 : decode yB 0 = .ok (.iload_n 2, 1) := by decide +kernel
theorem d1 : decode yB 1 = .ok (.newarray .byte, 2) := by decide +kernel
theorem d3 : decode yB 3 = .ok (.astore_n 3, 1) := by decide +kernel
theorem d4 : decode yB 4 = .ok (.aload_n 0, 1) := by decide +kernel
theorem d5 : decode yB 5 = .ok (.iload_n 1, 1) := by decide +kernel
theorem d6 : decode yB 6 = .ok (.aload_n 3, 1) := by decide +kernel
theorem d7 : decode yB 7 = .ok (.iconst 0, 1) := by decide +kernel
theorem d8 : decode yB 8 = .ok (.iload_n 2, 1) := by decide +kernel
theorem d9 : decode yB 9 = .ok (.invokestatic 115, 3) := by decide +kernel
theorem d12 : decode yB 12 = .ok (.istore 4, 2) := by decide +kernel
theorem d14 : decode yB 14 = .ok (.iload 4, 2) := by decide +kernel
theorem d16 : decode yB 16 = .ok (.iload_n 2, 1) := by decide +kernel
theorem d17 : decode yB 17 = .ok (.if_icmp (.eq) 40, 3) := by decide +kernel
theorem d57 : decode yB 57 = .ok (.aload_n 3, 1) := by decide +kernel
theorem d58 : decode yB 58 = .ok (.areturn, 1) := by decide +kernel
def site : List Cond := [.arrayClass .byte, Cmp5.tab] ++ staticW U16 115 Cmp5.yN
def tab : Cond := tabOf yN yB 6 (some (.array .byte)) site
def P (b : Addr) (A : Cell) (o len : Nat) (args : Array Value) (s : State) : Prop := args = #[.ref b, .int (Int32.ofNat o), .int (Int32.ofNat len)] ∧ Ch b A s ∧ o + len ≤ A.slots.size ∧ len ≤ 536870912 ∧ ∀ i, i < len → ¬ 255 < cv A (o + i)
def E (b : Addr) (A : Cell) (o len : Nat) (r : Option Value) (s u : State) : Prop := NewArr .byte "[B" len (fun j => .int (lo8 (cv A (o + j)))) r s u ∧ u.heap.size = s.heap.size + 1
/-- no char of the range above 255: a new byte[] of their low bytes -/
theorem law (l : Launch) (b : Addr) (A : Cell) (o len : Nat) : Law l yN 3 3 1 18 yB 6 (some (.array .byte)) site (P b A o len) (E b A o len) [] 1 len := by
  refine Law.of_walk (plainFor_of_name (by decide +kernel)) (by decide +kernel) (by decide +kernel) (by decide) (fun _ _ h => by rw [h.1]; rfl) (fun _ U U' hal hh h => ⟨h.1, h.2.1.mv hal hh, h.2.2⟩) (fun r U U' V V' h1 hal h2 h => ⟨NewArr.mv r U U' V V' h1 hal h2 h.1, by rw [h1, h2]; exact h.2⟩) ?_
  intro p e s m args below meth c s₁ X0 hexec hbytes hml hret hlk hnm hown hh0 W hP
  obtain ⟨rfl, hA, l1, l2, hp⟩ := hP
  have a31 := hA.1.2.2.2
  have c1 : Steps p.tables e below (s₁.setTop (entryFrame m #[.ref b, .int (Int32.ofNat o), .int (Int32.ofNat len)] 6)) (s₁.setTop (mkF m 0 #[.val (.ref b), .val (.int (Int32.ofNat o)), .val (.int (Int32.ofNat len)), .unset, .unset, .unset] [])) := entry rfl
  have c2 : Steps p.tables e below (s₁.setTop (entryFrame m #[.ref b, .int (Int32.ofNat o), .int (Int32.ofNat len)] 6)) (s₁.setTop (mkF m 1 #[.val (.ref b), .val (.int (Int32.ofNat o)), .val (.int (Int32.ofNat len)), .unset, .unset, .unset] [.int (Int32.ofNat len)])) := c1.trans (by
    refine XS.iloadN X0.here hexec rfl (hb hbytes d0) rfl ?_
    exact Steps.refl _)
  obtain ⟨T3, B3, X3, ba3, bs3, bv3, bh3, bf3, st3⟩ := X0.anew hexec (atype := .byte) (wk W (.arrayClass .byte)) rfl (by show len * 1 ≤ _; omega) (by omega) (g := (mkF m 1 #[.val (.ref b), .val (.int (Int32.ofNat o)), .val (.int (Int32.ofNat len)), .unset, .unset, .unset] [.int (Int32.ofNat len)])) rfl (hb hbytes d1) (rest := []) rfl (Nat.le_refl _) (by show 0 + len ≤ len; omega)
  rw [hh0] at ba3 st3
  have kp3 : XT.Kept s T3 := (XT.Kept.of_eq hh0).push bh3
  have hA3 := hA.keep X3.warmed.alike (kp3 _ _ hA.1.1)
  have hne : b ≠ s.heap.size := hA.1.ne
  have c4 : Steps p.tables e below (s₁.setTop (entryFrame m #[.ref b, .int (Int32.ofNat o), .int (Int32.ofNat len)] 6)) (T3.setTop (mkF m 3 #[.val (.ref b), .val (.int (Int32.ofNat o)), .val (.int (Int32.ofNat len)), .unset, .unset, .unset] [.ref s.heap.size])) := c2.trans (st3 _ (Steps.refl _))
  have c5 : Steps p.tables e below (s₁.setTop (entryFrame m #[.ref b, .int (Int32.ofNat o), .int (Int32.ofNat len)] 6)) (T3.setTop (mkF m 9 #[.val (.ref b), .val (.int (Int32.ofNat o)), .val (.int (Int32.ofNat len)), .val (.ref s.heap.size), .unset, .unset] [.int (Int32.ofNat len), .int 0, .ref s.heap.size, .int (Int32.ofNat o), .ref b])) := c4.trans (by
    refine XS.astoreN X3.here hexec rfl (hb hbytes d3) rfl rfl rfl ?_
    refine XS.aloadN X3.here hexec rfl (hb hbytes d4) rfl rfl ?_
    refine XS.iloadN X3.here hexec rfl (hb hbytes d5) rfl ?_
    refine XS.aloadN X3.here hexec rfl (hb hbytes d6) rfl rfl ?_
    refine iconstV X3.here hexec rfl 0 (hb hbytes d7) (by decide) ?_
    refine XS.iloadN X3.here hexec rfl (hb hbytes d8) rfl ?_
    exact Steps.refl _)
  obtain ⟨v6, T6, X6, E6, g6⟩ := X3.callS hexec (Cmp5.law l b A s.heap.size B3 o 0 len) hown (wks W (staticW U16 115 Cmp5.yN)) (wk W Cmp5.tab) (W := 0) (Nat.le_of_ble_eq_true rfl) (Nat.le_of_ble_eq_true rfl) (Nat.le_refl _) (by show 0 + len + 0 ≤ len; omega) (g := (mkF m 9 #[.val (.ref b), .val (.int (Int32.ofNat o)), .val (.int (Int32.ofNat len)), .val (.ref s.heap.size), .unset, .unset] [.int (Int32.ofNat len), .int (Int32.ofNat 0), .ref s.heap.size, .int (Int32.ofNat o), .ref b])) rfl (by rw [hml]; rfl) c5 (argsL := [.ref b, .int (Int32.ofNat o), .ref s.heap.size, .int (Int32.ofNat 0), .int (Int32.ofNat len)]) (rest := []) rfl rfl (by show 2 * 0 + 0 ≤ _; decide) (hb hbytes d9) (⟨rfl, hA3, ba3, hne, l1, by rw [bs3]; simp, hp⟩)
  obtain ⟨rfl, B6, p6, f6⟩ := E6
  have c7 : Steps p.tables e below (s₁.setTop (entryFrame m #[.ref b, .int (Int32.ofNat o), .int (Int32.ofNat len)] 6)) (T6.setTop (mkF m 12 #[.val (.ref b), .val (.int (Int32.ofNat o)), .val (.int (Int32.ofNat len)), .val (.ref s.heap.size), .unset, .unset] [.int (Int32.ofNat len)])) := g6
  have c8 : Steps p.tables e below (s₁.setTop (entryFrame m #[.ref b, .int (Int32.ofNat o), .int (Int32.ofNat len)] 6)) (T6.setTop (mkF m 58 #[.val (.ref b), .val (.int (Int32.ofNat o)), .val (.int (Int32.ofNat len)), .val (.ref s.heap.size), .val (.int (Int32.ofNat len)), .unset] [.ref s.heap.size])) := c7.trans (by
    refine XS.istore X6.here hexec rfl (hb hbytes d12) rfl rfl ?_
    refine XS.iload X6.here hexec rfl (hb hbytes d14) rfl ?_
    refine XS.iloadN X6.here hexec rfl (hb hbytes d16) rfl ?_
    refine XS.icmpYes X6.here hexec rfl (pc0 := 17) rfl (hb hbytes d17) rfl (ii_eq_t rfl) (by decide) rfl ?_
    refine XS.aloadN X6.here hexec rfl (hb hbytes d57) rfl rfl ?_
    exact Steps.refl _)
  have X8 := X6.wide (L' := []) (cells' := 1) (slots' := len) (fun x hx hlt => by
    simp only [List.nil_append, copyLocs, List.mem_map, List.mem_range] at hx
    obtain ⟨i, -, rfl⟩ := hx
    exact absurd hlt (Nat.lt_irrefl _)) (Nat.le_refl _) (by omega)
  exact ⟨T6, some (.ref s.heap.size), _, _, _, X8, rfl, rfl, rfl, (fun h => by cases h), ⟨⟨rfl, B6, ba3.like (X3.warmed.alike.symm.trans X6.warmed.alike) p6.1 f6.1 f6.2.1 f6.2.2.1, f6.2.1.trans bv3, by rw [X6.warmed.alike.findClass, f6.1]; exact bf3, by rw [f6.2.2.1, bs3]; simp, fun j hj => by rw [f6.2.2.2 j, if_pos (by omega)]; rfl, kp3.put p6 (Nat.le_refl _)⟩, by rw [p6.2.2, bh3, hh0]; simp⟩, fun fs hl => c8.trans (X8.areturnOut hexec rfl hret rfl (hb hbytes d58) hl)⟩
end Cmp3
namespace CodL
def yN : MethodName := ⟨"java/lang/StringUTF16", "coderFromArrayLen", "([BI)B"⟩
abbrev yB : ByteArray := jdk_52_method_15_code
theorem d0 : decode yB 0 = .ok (.iload_n 1, 1) := by decide +kernel
theorem d1 : decode yB 1 = .ok (.aload_n 0, 1) := by decide +kernel
theorem d2 : decode yB 2 = .ok (.arraylength, 1) := by decide +kernel
theorem d3 : decode yB 3 = .ok (.isub, 1) := by decide +kernel
theorem d4 : decode yB 4 = .ok (.bipush 31, 2) := by decide +kernel
theorem d6 : decode yB 6 = .ok (.iushr, 1) := by decide +kernel
theorem d7 : decode yB 7 = .ok (.i2b, 1) := by decide +kernel
theorem d8 : decode yB 8 = .ok (.ireturn, 1) := by decide +kernel
def site : List Cond := []
def tab : Cond := tabOf yN yB 2 (some .byte) site
def P (d : Addr) (B : Cell) (args : Array Value) (s : State) : Prop := args = #[.ref d, .int (Int32.ofNat B.slots.size)] ∧ Arr .byte d B s
def E (r : Option Value) (s u : State) : Prop := XT.PureE (some (.int 0)) r s u
/-- an array as long as the number of chars: LATIN1 -/
theorem law (l : Launch) (d : Addr) (B : Cell) : Law l yN 2 2 0 0 yB 2 (some .byte) site (P d B) E [] 0 0 := by
  refine Law.of_walk (plainFor_of_name (by decide +kernel)) (by decide +kernel) (by decide +kernel) (by decide) (fun _ _ h => by rw [h.1]; rfl) (fun _ U U' hal hh h => ⟨h.1, h.2.mv hal hh⟩) (fun r U U' V V' h1 hal h2 h => XT.PureE.mv r U U' V V' h1 hal h2 h) ?_
  intro p e s m args below meth c s₁ X0 hexec hbytes hml hret hlk hnm hown hh0 W hP
  obtain ⟨rfl, hB⟩ := hP
  have hB0 := hB.mv X0.warmed.alike hh0
  have c1 : Steps p.tables e below (s₁.setTop (entryFrame m #[.ref d, .int (Int32.ofNat B.slots.size)] 2)) (s₁.setTop (mkF m 0 #[.val (.ref d), .val (.int (Int32.ofNat B.slots.size))] [])) := entry rfl
  have c2 : Steps p.tables e below (s₁.setTop (entryFrame m #[.ref d, .int (Int32.ofNat B.slots.size)] 2)) (s₁.setTop (mkF m 2 #[.val (.ref d), .val (.int (Int32.ofNat B.slots.size))] [.ref d, .int (Int32.ofNat B.slots.size)])) := c1.trans (by
    refine XS.iloadN X0.here hexec rfl (hb hbytes d0) rfl ?_
    refine XS.aloadN X0.here hexec rfl (hb hbytes d1) rfl rfl ?_
    exact Steps.refl _)
  have c3 : Steps p.tables e below (s₁.setTop (entryFrame m #[.ref d, .int (Int32.ofNat B.slots.size)] 2)) (s₁.setTop (mkF m 8 #[.val (.ref d), .val (.int (Int32.ofNat B.slots.size))] [.int (lo8 (ushr (Int32.ofNat B.slots.size - Int32.ofNat B.slots.size) 31))])) := c2.trans (by
    refine X0.alen hexec hB0 rfl rfl (hb hbytes d2) ?_
    refine XS.isub X0.here hexec rfl (hb hbytes d3) rfl ?_
    refine bipushV X0.here hexec rfl 31 (hb hbytes d4) (by decide) ?_
    refine iushr X0.here hexec rfl (hb hbytes d6) rfl ?_
    refine i2b X0.here hexec rfl (hb hbytes d7) rfl ?_
    exact Steps.refl _)
  have e0 : lo8 (ushr (Int32.ofNat B.slots.size - Int32.ofNat B.slots.size) 31) = 0 := by rw [Int32.sub_self]; decide
  rw [e0] at c3
  exact ⟨s₁, some (.int 0), _, _, _, X0, rfl, rfl, rfl, (fun h => by cases h), ⟨rfl, hh0⟩, fun fs hl => c3.trans (X0.ireturnOut hexec hret rfl (Or.inr (Or.inr (Or.inl rfl))) (hb hbytes d8) hl)⟩
end CodL
/-- the String at a is Latin-1 over a new byte[] (the heap's one new cell): the low bytes of the len chars of A from o on; every cell but a is kept -/
def Got (a : Addr) (D : Cell) (fV fC : Field) (A : Cell) (o len : Nat) (r : Option Value) (s u : State) : Prop := r = none ∧ ∃ D' V : Cell, Blank "java/lang/String" a D' u ∧ Same D D' [fV.slot, fC.slot] ∧ D'.slots[fV.slot]? = some (.ref s.heap.size) ∧ D'.slots[fC.slot]? = some (.int 0) ∧ Arr .byte s.heap.size V u ∧ V.vm = .none ∧ u.vm.findClass "[B" = some V.cls ∧ V.slots.size = len ∧ (∀ j, j < len → V.slots[j]? = some (.int (lo8 (cv A (o + j))))) ∧ (∀ (y : Addr) (c : Cell), y ≠ a → s.heap[y]? = some c → u.heap[y]? = some c) ∧ u.heap.size = s.heap.size + 1
theorem Got.mv {a : Addr} {D A : Cell} {fV fC : Field} {o len : Nat} : ∀ r (U U' V V' : State), U'.heap = U.heap → V.vm.Alike V'.vm → V'.heap = V.heap → Got a D fV fC A o len r U V → Got a D fV fC A o len r U' V' :=
  fun r U U' V V' h1 hal h2 ⟨e0, D', X, a1, a2, a3, a4, a5, a6, a7, a8, a9, a10, a11⟩ => ⟨e0, D', X, a1.mv hal h2, a2, by rw [h1]; exact a3, a4, by rw [h1]; exact a5.mv hal h2, a6, by rw [hal.findClass]; exact a7, a8, a9, by rw [h1, h2]; exact a10, by rw [h1, h2]; exact a11⟩
namespace New4
def yN : MethodName := ⟨"java/lang/String", "<init>", "([CIILjava/lang/Void;)V"⟩
abbrev yB : ByteArray := jdk_42_method_149_code
theorem d0 : decode yB 0 = .ok (.aload_n 0, 1) := by decide +kernel
theorem d1 : decode yB 1 = .ok (.invokespecial 1, 3) := by decide +kernel
theorem d4 : decode yB 4 = .ok (.iload_n 3, 1) := by decide +kernel
theorem d5 : decode yB 5 = .ok (.ifCond (.ne) 22, 3) := by decide +kernel
theorem d27 : decode yB 27 = .ok (.getstatic 38, 3) := by decide +kernel
theorem d30 : decode yB 30 = .ok (.ifCond (.eq) 28, 3) := by decide +kernel
theorem d33 : decode yB 33 = .ok (.aload_n 1, 1) := by decide +kernel
theorem d34 : decode yB 34 = .ok (.iload_n 2, 1) := by decide +kernel
theorem d35 : decode yB 35 = .ok (.iload_n 3, 1) := by decide +kernel
theorem d36 : decode yB 36 = .ok (.invokestatic 177, 3) := by decide +kernel
theorem d39 : decode yB 39 = .ok (.astore 5, 2) := by decide +kernel
theorem d41 : decode yB 41 = .ok (.aload_n 0, 1) := by decide +kernel
theorem d42 : decode yB 42 = .ok (.aload 5, 2) := by decide +kernel
theorem d44 : decode yB 44 = .ok (.iload_n 3, 1) := by decide +kernel
theorem d45 : decode yB 45 = .ok (.invokestatic 47, 3) := by decide +kernel
theorem d48 : decode yB 48 = .ok (.putfield 15, 3) := by decide +kernel
theorem d51 : decode yB 51 = .ok (.aload_n 0, 1) := by decide +kernel
theorem d52 : decode yB 52 = .ok (.aload 5, 2) := by decide +kernel
theorem d54 : decode yB 54 = .ok (.putfield 9, 3) := by decide +kernel
theorem d57 : decode yB 57 = .ok (.return_, 1) := by decide +kernel
def site : List Cond := [.fieldLink "java/lang/String" 38 "java/lang/String" "COMPACT_STRINGS" "Z", Cmp3.tab, CodL.tab, .laysFinal "java/lang/String" "java/lang/String" "value" "[B", .fieldLink "java/lang/String" 9 "java/lang/String" "value" "[B", .laysFinal "java/lang/String" "java/lang/String" "coder" "B", .fieldLink "java/lang/String" 15 "java/lang/String" "coder" "B"] ++ objW "java/lang/String" 1 ++ staticW "java/lang/String" 177 Cmp3.yN ++ staticW "java/lang/String" 47 CodL.yN
def tab : Cond := tabOf yN yB 6 none site
def P (a : Addr) (D : Cell) (fV fC : Field) (b : Addr) (A : Cell) (z : Int32) (o len : Nat) (args : Array Value) (s : State) : Prop := args = #[.ref a, .ref b, .int (Int32.ofNat o), .int (Int32.ofNat len), .null] ∧ Blank "java/lang/String" a D s ∧ Found "java/lang/String" "value" "[B" fV s ∧ Found "java/lang/String" "coder" "B" fC s ∧ Ch b A s ∧ StaticIs s "java/lang/String" "COMPACT_STRINGS" "Z" (.int z) ∧ ¬ z = 0 ∧ 0 < len ∧ o + len ≤ A.slots.size ∧ len ≤ 536870912 ∧ ∀ i, i < len → ¬ 255 < cv A (o + i)
def E (a : Addr) (D : Cell) (fV fC : Field) (A : Cell) (o len : Nat) (r : Option Value) (s u : State) : Prop := Got a D fV fC A o len r s u
/-- len > 0, no char of the range above 255: a Latin-1 String of their low bytes -/
theorem law (l : Launch) (a : Addr) (D : Cell) (fV fC : Field) (b : Addr) (A : Cell) (z : Int32) (o len : Nat) : Law l yN 5 4 2 35 yB 6 none site (P a D fV fC b A z o len) (E a D fV fC A o len) [⟨a, fC.slot⟩, ⟨a, fV.slot⟩] 1 len := by
  refine Law.of_walk (plainFor_of_name (by decide +kernel)) (by decide +kernel) (by decide +kernel) (by decide) (fun _ _ h => by rw [h.1]; rfl) (fun _ U U' hal hh h => ⟨h.1, h.2.1.mv hal hh, h.2.2.1.al hal, h.2.2.2.1.al hal, h.2.2.2.2.1.mv hal hh, h.2.2.2.2.2.1.there hal hh, h.2.2.2.2.2.2⟩) (fun r U U' V V' h1 hal h2 h => Got.mv r U U' V V' h1 hal h2 h) ?_
  intro p e s m args below meth c s₁ X0 hexec hbytes hml hret hlk hnm hown hh0 W hP
  obtain ⟨rfl, hB, f1, f2, hA, s1, hz, l0, l1, l2, hp⟩ := hP
  have a31 := hA.1.2.2.2
  have c1 : Steps p.tables e below (s₁.setTop (entryFrame m #[.ref a, .ref b, .int (Int32.ofNat o), .int (Int32.ofNat len), .null] 6)) (s₁.setTop (mkF m 0 #[.val (.ref a), .val (.ref b), .val (.int (Int32.ofNat o)), .val (.int (Int32.ofNat len)), .val .null, .unset] [])) := entry rfl
  have c2 : Steps p.tables e below (s₁.setTop (entryFrame m #[.ref a, .ref b, .int (Int32.ofNat o), .int (Int32.ofNat len), .null] 6)) (s₁.setTop (mkF m 1 #[.val (.ref a), .val (.ref b), .val (.int (Int32.ofNat o)), .val (.int (Int32.ofNat len)), .val .null, .unset] [.ref a])) := c1.trans (by
    refine XS.aloadN X0.here hexec rfl (hb hbytes d0) rfl rfl ?_
    exact Steps.refl _)
  obtain ⟨T3, X3, q3, st3⟩ := X0.oinit hexec hown (wks W (objW "java/lang/String" 1)) (g := (mkF m 1 #[.val (.ref a), .val (.ref b), .val (.int (Int32.ofNat o)), .val (.int (Int32.ofNat len)), .val .null, .unset] [.ref a])) rfl (by rw [hml]; rfl) (rest := []) rfl (hb hbytes d1) (W := 0) (by show 2 * 0 + 0 ≤ _; decide) (Nat.le_of_ble_eq_true rfl) (Nat.le_of_ble_eq_true rfl)
  have hh3 := q3.trans hh0
  have c4 : Steps p.tables e below (s₁.setTop (entryFrame m #[.ref a, .ref b, .int (Int32.ofNat o), .int (Int32.ofNat len), .null] 6)) (T3.setTop (mkF m 27 #[.val (.ref a), .val (.ref b), .val (.int (Int32.ofNat o)), .val (.int (Int32.ofNat len)), .val .null, .unset] [])) := (c2.trans (st3 _ (Steps.refl _))).trans (by
    refine XS.iloadN X3.here hexec rfl (hb hbytes d4) rfl ?_
    refine XS.ifYes X3.here hexec rfl (pc0 := 5) rfl (hb hbytes d5) rfl (i0_ne_t (nz32 (by omega) l0)) (by decide) rfl ?_
    exact Steps.refl _)
  obtain ⟨T5, X5, q5, st5⟩ := X3.sget hexec hown (wk W (.fieldLink "java/lang/String" 38 "java/lang/String" "COMPACT_STRINGS" "Z")) s1 (fun _ _ h => by rw [hh3]; exact h) (g := (mkF m 27 #[.val (.ref a), .val (.ref b), .val (.int (Int32.ofNat o)), .val (.int (Int32.ofNat len)), .val .null, .unset] [])) rfl (hb hbytes d27)
  have hh5 := q5.trans hh3
  have c6 : Steps p.tables e below (s₁.setTop (entryFrame m #[.ref a, .ref b, .int (Int32.ofNat o), .int (Int32.ofNat len), .null] 6)) (T5.setTop (mkF m 30 #[.val (.ref a), .val (.ref b), .val (.int (Int32.ofNat o)), .val (.int (Int32.ofNat len)), .val .null, .unset] [.int z])) := c4.trans (st5 _ (Steps.refl _))
  have c7 : Steps p.tables e below (s₁.setTop (entryFrame m #[.ref a, .ref b, .int (Int32.ofNat o), .int (Int32.ofNat len), .null] 6)) (T5.setTop (mkF m 36 #[.val (.ref a), .val (.ref b), .val (.int (Int32.ofNat o)), .val (.int (Int32.ofNat len)), .val .null, .unset] [.int (Int32.ofNat len), .int (Int32.ofNat o), .ref b])) := c6.trans (by
    refine XS.ifNo X5.here hexec rfl (hb hbytes d30) rfl (i0_eq_f hz) ?_
    refine XS.aloadN X5.here hexec rfl (hb hbytes d33) rfl rfl ?_
    refine XS.iloadN X5.here hexec rfl (hb hbytes d34) rfl ?_
    refine XS.iloadN X5.here hexec rfl (hb hbytes d35) rfl ?_
    exact Steps.refl _)
  obtain ⟨v8, T8, X8, E8, g8⟩ := X5.callS hexec (Cmp3.law l b A o len) hown (wks W (staticW "java/lang/String" 177 Cmp3.yN)) (wk W Cmp3.tab) (W := 0) (Nat.le_of_ble_eq_true rfl) (Nat.le_of_ble_eq_true rfl) (Nat.le_refl _) (by show 0 + len ≤ len; omega) (g := (mkF m 36 #[.val (.ref a), .val (.ref b), .val (.int (Int32.ofNat o)), .val (.int (Int32.ofNat len)), .val .null, .unset] [.int (Int32.ofNat len), .int (Int32.ofNat o), .ref b])) rfl (by rw [hml]; rfl) c7 (argsL := [.ref b, .int (Int32.ofNat o), .int (Int32.ofNat len)]) (rest := []) rfl rfl (by show 2 * 0 + 0 ≤ _; decide) (hb hbytes d36) (⟨rfl, hA.mv X5.warmed.alike hh5, l1, l2, hp⟩)
  obtain ⟨e8, z8⟩ := E8
  obtain ⟨rfl, N, n1, n2, n3, n4, n5, n6⟩ := NewArr.mv _ T5 s _ _ hh5.symm (Vm.Alike.refl _) rfl e8
  rw [hh5] at z8
  have hB1 := hB.keep X8.warmed.alike (n6 _ _ hB.1)
  have hne : s.heap.size ≠ a := (Nat.ne_of_lt (Array.getElem?_eq_some_iff.mp hB.1).1).symm
  have c9 : Steps p.tables e below (s₁.setTop (entryFrame m #[.ref a, .ref b, .int (Int32.ofNat o), .int (Int32.ofNat len), .null] 6)) (T8.setTop (mkF m 39 #[.val (.ref a), .val (.ref b), .val (.int (Int32.ofNat o)), .val (.int (Int32.ofNat len)), .val .null, .unset] [.ref s.heap.size])) := g8
  have c10 : Steps p.tables e below (s₁.setTop (entryFrame m #[.ref a, .ref b, .int (Int32.ofNat o), .int (Int32.ofNat len), .null] 6)) (T8.setTop (mkF m 45 #[.val (.ref a), .val (.ref b), .val (.int (Int32.ofNat o)), .val (.int (Int32.ofNat len)), .val .null, .val (.ref s.heap.size)] [.int (Int32.ofNat N.slots.size), .ref s.heap.size, .ref a])) := by
    have hc : Steps p.tables e below (s₁.setTop (entryFrame m #[.ref a, .ref b, .int (Int32.ofNat o), .int (Int32.ofNat len), .null] 6)) (T8.setTop (mkF m 45 #[.val (.ref a), .val (.ref b), .val (.int (Int32.ofNat o)), .val (.int (Int32.ofNat len)), .val .null, .val (.ref s.heap.size)] [.int (Int32.ofNat len), .ref s.heap.size, .ref a])) := c9.trans (by
      refine XS.astore X8.here hexec rfl (hb hbytes d39) rfl rfl rfl ?_
      refine XS.aloadN X8.here hexec rfl (hb hbytes d41) rfl rfl ?_
      refine XS.aload X8.here hexec rfl (hb hbytes d42) rfl rfl ?_
      refine XS.iloadN X8.here hexec rfl (hb hbytes d44) rfl ?_
      exact Steps.refl _)
    rw [n4]; exact hc
  obtain ⟨v11, T11, X11, E11, g11⟩ := X8.callS hexec (CodL.law l s.heap.size N) hown (wks W (staticW "java/lang/String" 47 CodL.yN)) (wk W CodL.tab) (W := 1) (Nat.le_of_ble_eq_true rfl) (Nat.le_of_ble_eq_true rfl) (Nat.le_refl _) (by show 0 + len + 0 ≤ len; omega) (g := (mkF m 45 #[.val (.ref a), .val (.ref b), .val (.int (Int32.ofNat o)), .val (.int (Int32.ofNat len)), .val .null, .val (.ref s.heap.size)] [.int (Int32.ofNat N.slots.size), .ref s.heap.size, .ref a])) rfl (by rw [hml]; rfl) c10 (argsL := [.ref s.heap.size, .int (Int32.ofNat N.slots.size)]) (rest := [.ref a]) rfl rfl (by show 2 * 0 + (1 + 0) ≤ _; decide) (hb hbytes d45) (⟨rfl, n1⟩)
  obtain ⟨rfl, q11⟩ := E11
  have hB11 := hB1.mv (X8.warmed.alike.symm.trans X11.warmed.alike) q11
  have c12 : Steps p.tables e below (s₁.setTop (entryFrame m #[.ref a, .ref b, .int (Int32.ofNat o), .int (Int32.ofNat len), .null] 6)) (T11.setTop (mkF m 48 #[.val (.ref a), .val (.ref b), .val (.int (Int32.ofNat o)), .val (.int (Int32.ofNat len)), .val .null, .val (.ref s.heap.size)] [.int 0, .ref a])) := g11
  obtain ⟨T13, X13, p13, bl13, sl13, st13⟩ := X11.finit hexec hown (wk W (.fieldLink "java/lang/String" 15 "java/lang/String" "coder" "B")) (Or.inr ⟨_, (wk W (.laysFinal "java/lang/String" "java/lang/String" "coder" "B"))⟩) (Or.inl ⟨rfl, hnm⟩) f2 (Or.inl rfl) hB11 (t := .byte) (by decide +kernel) rfl (g := (mkF m 48 #[.val (.ref a), .val (.ref b), .val (.int (Int32.ofNat o)), .val (.int (Int32.ofNat len)), .val .null, .val (.ref s.heap.size)] [.int 0, .ref a])) rfl (rest := []) rfl (hb hbytes d48)
  have c14 : Steps p.tables e below (s₁.setTop (entryFrame m #[.ref a, .ref b, .int (Int32.ofNat o), .int (Int32.ofNat len), .null] 6)) (T13.setTop (mkF m 54 #[.val (.ref a), .val (.ref b), .val (.int (Int32.ofNat o)), .val (.int (Int32.ofNat len)), .val .null, .val (.ref s.heap.size)] [.ref s.heap.size, .ref a])) := (c12.trans (st13 _ (Steps.refl _))).trans (by
    refine XS.aloadN X13.here hexec rfl (hb hbytes d51) rfl rfl ?_
    refine XS.aload X13.here hexec rfl (hb hbytes d52) rfl rfl ?_
    exact Steps.refl _)
  obtain ⟨T15, X15, p15, bl15, sl15, st15⟩ := X13.finit hexec hown (wk W (.fieldLink "java/lang/String" 9 "java/lang/String" "value" "[B")) (Or.inr ⟨_, (wk W (.laysFinal "java/lang/String" "java/lang/String" "value" "[B"))⟩) (Or.inl ⟨rfl, hnm⟩) f1 (Or.inl rfl) bl13 (t := (.array .byte)) (by decide +kernel) rfl (g := (mkF m 54 #[.val (.ref a), .val (.ref b), .val (.int (Int32.ofNat o)), .val (.int (Int32.ofNat len)), .val .null, .val (.ref s.heap.size)] [.ref s.heap.size, .ref a])) rfl (rest := []) rfl (hb hbytes d54)
  have c16 : Steps p.tables e below (s₁.setTop (entryFrame m #[.ref a, .ref b, .int (Int32.ofNat o), .int (Int32.ofNat len), .null] 6)) (T15.setTop (mkF m 57 #[.val (.ref a), .val (.ref b), .val (.int (Int32.ofNat o)), .val (.int (Int32.ofNat len)), .val .null, .val (.ref s.heap.size)] [])) := c14.trans (st15 _ (Steps.refl _))
  have ap := apart (Or.inr ⟨_, (wk W (.laysFinal "java/lang/String" "java/lang/String" "value" "[B"))⟩) (Or.inr ⟨_, (wk W (.laysFinal "java/lang/String" "java/lang/String" "coder" "B"))⟩) f1 f2 (t₁ := .array .byte) (t₂ := .byte) (by decide +kernel) (by decide +kernel) (by decide)
  have al := X8.warmed.alike.symm.trans X15.warmed.alike
  have n7 : T11.heap[s.heap.size]? = some N := by rw [q11]; exact n1.1
  exact ⟨T15, none, _, _, _, X15, by simp, rfl, by omega, (fun _ => rfl), ⟨rfl, _, N, bl15, ((Same.refl D _).set _ (by simp)).set _ (by simp), sl15, (Cell.slots_setSlot_ne _ ap).trans sl13, n1.keep al (p15.other hne (p13.other hne n7)), n2, by rw [al.findClass]; exact n3, n4, n5, fun y c h1 h2 => p15.other h1 (p13.other h1 (by rw [q11]; exact n6 y c h2)), by rw [p15.2.2, p13.2.2, q11]; exact z8⟩, fun fs hl => c16.trans (X15.returnOut hexec hret (hb hbytes d57) hl)⟩
end New4
namespace New1
def yN : MethodName := ⟨"java/lang/String", "<init>", "([C)V"⟩
abbrev yB : ByteArray := jdk_42_method_3_code
theorem d0 : decode yB 0 = .ok (.aload_n 0, 1) := by decide +kernel
theorem d1 : decode yB 1 = .ok (.aload_n 1, 1) := by decide +kernel
theorem d2 : decode yB 2 = .ok (.iconst 0, 1) := by decide +kernel
theorem d3 : decode yB 3 = .ok (.aload_n 1, 1) := by decide +kernel
theorem d4 : decode yB 4 = .ok (.arraylength, 1) := by decide +kernel
theorem d5 : decode yB 5 = .ok (.aconst_null, 1) := by decide +kernel
theorem d6 : decode yB 6 = .ok (.invokespecial 27, 3) := by decide +kernel
theorem d9 : decode yB 9 = .ok (.return_, 1) := by decide +kernel
def site : List Cond := [New4.tab] ++ initW "java/lang/String" 27 New4.yN
def tab : Cond := tabOf yN yB 2 none site
def P (a : Addr) (D : Cell) (fV fC : Field) (b : Addr) (A : Cell) (z : Int32) (args : Array Value) (s : State) : Prop := args = #[.ref a, .ref b] ∧ Blank "java/lang/String" a D s ∧ Found "java/lang/String" "value" "[B" fV s ∧ Found "java/lang/String" "coder" "B" fC s ∧ Ch b A s ∧ StaticIs s "java/lang/String" "COMPACT_STRINGS" "Z" (.int z) ∧ ¬ z = 0 ∧ 0 < A.slots.size ∧ A.slots.size ≤ 536870912 ∧ ∀ i, i < A.slots.size → ¬ 255 < cv A i
def E (a : Addr) (D : Cell) (fV fC : Field) (A : Cell) (r : Option Value) (s u : State) : Prop := Got a D fV fC A 0 A.slots.size r s u
/-- new String(chars), not empty, no char above 255: a Latin-1 String of their low bytes -/
theorem law (l : Launch) (a : Addr) (D : Cell) (fV fC : Field) (b : Addr) (A : Cell) (z : Int32) : Law l yN 2 1 3 52 yB 2 none site (P a D fV fC b A z) (E a D fV fC A) [⟨a, fC.slot⟩, ⟨a, fV.slot⟩] 1 A.slots.size := by
  refine Law.of_walk (plainFor_of_name (by decide +kernel)) (by decide +kernel) (by decide +kernel) (by decide) (fun _ _ h => by rw [h.1]; rfl) (fun _ U U' hal hh h => ⟨h.1, h.2.1.mv hal hh, h.2.2.1.al hal, h.2.2.2.1.al hal, h.2.2.2.2.1.mv hal hh, h.2.2.2.2.2.1.there hal hh, h.2.2.2.2.2.2⟩) (fun r U U' V V' h1 hal h2 h => Got.mv r U U' V V' h1 hal h2 h) ?_
  intro p e s m args below meth c s₁ X0 hexec hbytes hml hret hlk hnm hown hh0 W hP
  obtain ⟨rfl, hB, f1, f2, hA, s1, hz, l0, l2, hp⟩ := hP
  have c1 : Steps p.tables e below (s₁.setTop (entryFrame m #[.ref a, .ref b] 2)) (s₁.setTop (mkF m 0 #[.val (.ref a), .val (.ref b)] [])) := entry rfl
  have c2 : Steps p.tables e below (s₁.setTop (entryFrame m #[.ref a, .ref b] 2)) (s₁.setTop (mkF m 6 #[.val (.ref a), .val (.ref b)] [.null, .int (Int32.ofNat A.slots.size), .int 0, .ref b, .ref a])) := c1.trans (by
    refine XS.aloadN X0.here hexec rfl (hb hbytes d0) rfl rfl ?_
    refine XS.aloadN X0.here hexec rfl (hb hbytes d1) rfl rfl ?_
    refine iconstV X0.here hexec rfl 0 (hb hbytes d2) (by decide) ?_
    refine XS.aloadN X0.here hexec rfl (hb hbytes d3) rfl rfl ?_
    refine X0.alen hexec (hA.1.mv X0.warmed.alike hh0) rfl rfl (hb hbytes d4) ?_
    refine XS.aconstNull X0.here hexec rfl (hb hbytes d5) ?_
    exact Steps.refl _)
  obtain ⟨v3, T3, X3, E3, g3⟩ := X0.callN hexec (New4.law l a D fV fC b A z 0 A.slots.size) rfl hown (wks W (initW "java/lang/String" 27 New4.yN)) (W New4.tab (by simp only [site, List.mem_cons, List.mem_append, true_or, or_true])) (W := 0) (Nat.le_of_ble_eq_true rfl) (Nat.le_of_ble_eq_true rfl) (Nat.le_refl _) (by show 0 + A.slots.size ≤ A.slots.size; omega) (g := (mkF m 6 #[.val (.ref a), .val (.ref b)] [.null, .int (Int32.ofNat A.slots.size), .int (Int32.ofNat 0), .ref b, .ref a])) rfl (by rw [hml]; rfl) c2 (argsL := [.ref b, .int (Int32.ofNat 0), .int (Int32.ofNat A.slots.size), .null]) (rest := []) rfl rfl (by show 2 * 0 + 0 ≤ _; decide) (hb hbytes d6) (⟨rfl, hB.mv X0.warmed.alike hh0, f1.al X0.warmed.alike, f2.al X0.warmed.alike, hA.mv X0.warmed.alike hh0, s1.there X0.warmed.alike hh0, hz, l0, by omega, l2, fun i hi => by rw [Nat.zero_add]; exact hp i hi⟩)
  have e0 := Got.mv _ s₁ s _ _ hh0.symm (Vm.Alike.refl _) rfl E3
  obtain rfl := e0.1
  have c4 : Steps p.tables e below (s₁.setTop (entryFrame m #[.ref a, .ref b] 2)) (T3.setTop (mkF m 9 #[.val (.ref a), .val (.ref b)] [])) := g3
  exact ⟨T3, none, _, _, _, X3, by simp, rfl, by omega, (fun _ => rfl), e0, fun fs hl => c4.trans (X3.returnOut hexec hret (hb hbytes d9) hl)⟩
theorem pays {l : Launch} {R : Room} {p : Program} {e : Env} {below : List Frame} {s : State} {sargs : Array Value} {len W : Nat} (a : Addr) (D : Cell) (fV fC : Field) (b : Addr) (A : Cell) (z : Int32) (htab : tab.before sargs s = true) (hfr : 4 ≤ R.frames) (hlo : W + 65 ≤ R.locals) :
    Back l R p e below s sargs yN len W (fun A₁ a₁ => A₁.cells + 1 ≤ R.cells ∧ A₁.slots + A.slots.size ≤ R.slots ∧ P a D fV fC b A z a₁ A₁.U) (fun A₁ _ v₁ B₁ => E a D fV fC A v₁ A₁.U B₁.U ∧ B₁.locs = A₁.locs ++ [⟨a, fC.slot⟩, ⟨a, fV.slot⟩] ∧ B₁.cells = A₁.cells + 1 ∧ B₁.slots = A₁.slots + A.slots.size) :=
  (law l a D fV fC b A z).pays htab hfr (by omega)
end New1
/-- the byte, read back as charAt reads it, is the char -/
theorem lo8_mask {x : Int32} (h0 : ¬ x < 0) (h1 : ¬ 255 < x) : lo8 x &&& 255 = x := by
  have t : ∀ k : Fin 256, lo8 (Int32.ofNat k.val) &&& 255 = Int32.ofNat k.val := by decide +kernel
  rw [Int32.lt_iff_toInt_lt] at h0 h1
  have e0 : (0 : Int32).toInt = 0 := rfl
  have e1 : (255 : Int32).toInt = 255 := rfl
  obtain ⟨k, hk⟩ : ∃ k : Nat, x.toInt = k := ⟨x.toInt.toNat, by omega⟩
  have hx : x = Int32.ofNat k := Int32.toInt_inj.mp (by rw [hk, Int32.toInt_ofNat_small (by omega)])
  rw [hx]
  exact t ⟨k, by omega⟩
end StrChars
namespace StrChars.Road
open Jvm Sem ClassFile Op Lib Jvm.Stand Jvm.Free Jvm.Free.XT
open Jvm.Lib.Cold (StaticIs)
abbrev ST : String := "java/lang/String"
/-- every table word that New1's law asks, flat -/
abbrev words : List Jvm.Cond := [.code New1.yN New1.yB 2 none, .initialized ST, .methodLink ST 27 New4.yN, .instanceMethod New4.yN,
  .code New4.yN New4.yB 6 none, .fieldLink ST 38 ST "COMPACT_STRINGS" "Z", .laysFinal ST ST "value" "[B", .fieldLink ST 9 ST "value" "[B", .laysFinal ST ST "coder" "B", .fieldLink ST 15 ST "coder" "B",
  .methodLink ST 1 Lib.objectInit, .instanceMethod Lib.objectInit, .code Lib.objectInit ⟨#[0xb1]⟩ 1 none, .methodLink ST 177 Cmp3.yN, .static Cmp3.yN, .methodLink ST 47 CodL.yN, .static CodL.yN,
  .code Cmp3.yN Cmp3.yB 6 (some (.array .byte)), .initialized U16, .arrayClass .byte, .methodLink U16 115 Cmp5.yN, .static Cmp5.yN, .code Cmp5.yN Cmp5.yB 7 (some .int), .code CodL.yN CodL.yB 2 (some .byte)]
theorem tab_of {a : Array Value} {s : State} (h : ∀ w ∈ words, w.before a s = true) : New1.tab.before a s = true := by
  have h5 : Cmp5.tab.before a s = true := unparts (wk h (.code Cmp5.yN Cmp5.yB 7 (some .int))) (wks h (.initialized Cmp5.yN.cls :: Cmp5.site))
  have hc : CodL.tab.before a s = true := unparts (wk h (.code CodL.yN CodL.yB 2 (some .byte))) (wks h (.initialized CodL.yN.cls :: CodL.site))
  have q5 : ∀ w ∈ Cmp5.tab :: words, w.before a s = true := fun w hw => (List.mem_cons.mp hw).elim (fun e => e ▸ h5) (h w)
  have h3 : Cmp3.tab.before a s = true := unparts (wk q5 (.code Cmp3.yN Cmp3.yB 6 (some (.array .byte)))) (wks q5 (.initialized Cmp3.yN.cls :: Cmp3.site))
  have q3 : ∀ w ∈ Cmp3.tab :: CodL.tab :: words, w.before a s = true := fun w hw => (List.mem_cons.mp hw).elim (fun e => e ▸ h3) fun hw => (List.mem_cons.mp hw).elim (fun e => e ▸ hc) (h w)
  have h4 : New4.tab.before a s = true := unparts (wk q3 (.code New4.yN New4.yB 6 none)) (wks q3 (.initialized New4.yN.cls :: New4.site))
  have q4 : ∀ w ∈ New4.tab :: words, w.before a s = true := fun w hw => (List.mem_cons.mp hw).elim (fun e => e ▸ h4) (h w)
  exact unparts (wk q4 (.code New1.yN New1.yB 2 none)) (wks q4 (.initialized New1.yN.cls :: New1.site))
/-- the words ride from the start Z to the walk's own state -/
theorem moved {Z s : State} {a0 args : Array Value} (hZ : Z.Warmed39 s.vm) (hw : ∀ d ∈ words, d.before a0 Z = true) : ∀ d ∈ words, d.before args s = true := fun d hd => by
  have q := hw d hd
  have t : ∀ d ∈ words, d = .arrayClass .byte ∨ (d.onTables && d.keepsFace) = true := by decide +kernel
  rcases t d hd with rfl | t
  · exact RoadKit.mvA hZ q
  · exact RoadKit.mv hZ q t
/-- WHAT COMES BACK, over the tables of the start Z: h the heap at the call, h' behind it -/
def Q (Z : State) (x : Addr) (A : Cell) (h : Heap) (v : Option Value) (h' : Heap) (L : List Loc) : Prop := v = none ∧ (∀ y ∈ L, y.base = x) ∧ RoadKit.Keep h h' [x] ∧ h'.size = h.size + 1 ∧ RoadKit.Exa Z h' x ST ∧ RoadKit.Fld Z h' x ST "value" "[B" (.ref h.size) ∧ RoadKit.Fld Z h' x ST "coder" "B" (.int 0) ∧
  (∃ V : Cell, RoadKit.Arr Z h' h.size V .byte ∧ V.vm = .none ∧ Z.vm.findClass "[B" = some V.cls ∧ V.slots.size = A.slots.size ∧ ∀ j, j < A.slots.size → V.slots[j]? = some (.int (lo8 (cv A j)))) ∧
  ∀ (O n d : String) (w : Value), RoadKit.Fld Z h x O n d w → RoadKit.slotOf Z O n d ≠ RoadKit.slotOf Z ST "value" "[B" → RoadKit.slotOf Z O n d ≠ RoadKit.slotOf Z ST "coder" "B" → RoadKit.Fld Z h' x O n d w
/-- **new String(chars) AT A CALL, IN THE ROAD'S FORM**: for specialBack behind newO: x the fresh String, b the char[] with the cell A -/
theorem back {p : Program} {l : Launch} {e : Env} {R : Room} {s : State} {args : Array Value} {below : List Frame} {len W : Nat} {Z : State} {a0 : Array Value} {h : Heap} (hZ : Z.Warmed39 s.vm) (hw : ∀ d ∈ words, d.before a0 Z = true) {kI : Nat} (wi : (Jvm.Cond.instantiable ST kI).before a0 Z = true)
    {x b : Addr} {A : Cell} {z : Int32} {v0 c0 : Value} (E : RoadKit.Exa Z h x ST) (V : RoadKit.Fld Z h x ST "value" "[B" v0) (C : RoadKit.Fld Z h x ST "coder" "B" c0) (K : RoadKit.Arr Z h b A .char) (hty : Typed .char A) (S : RoadKit.Sta Z h ST "COMPACT_STRINGS" "Z" (.int z)) (hz : ¬ z = 0)
    (l0 : 0 < A.slots.size) (l2 : A.slots.size ≤ 536870912) (hp : ∀ i, i < A.slots.size → ¬ 255 < cv A i) (hfr : 4 ≤ R.frames) (hlo : W + 65 ≤ R.locals) :
    Back l R p e below s args New1.yN len W (fun P a => a = #[.ref x, .ref b] ∧ P.U.heap = h ∧ P.cells + 1 ≤ R.cells ∧ P.slots + A.slots.size ≤ R.slots)
      (fun P _ v B => ∃ L, Q Z x A h v B.U.heap L ∧ B.locs = P.locs ++ L ∧ B.cells = P.cells + 1 ∧ B.slots = P.slots + A.slots.size) := by
  intro m meth c P g ig mk a X hg hsize hdg hW hn hp'
  obtain ⟨rfl, rfl, r1, r2⟩ := hp'
  have al : Z.vm.Alike P.U.vm := hZ.alike.trans X.warmed.alike
  obtain ⟨D, cfV, kV, iV, fV, hD, gV, stV, knV, obV, asV, slV⟩ := id V
  obtain ⟨D', cfC, kC, iC, fC, hD', gC, stC, -, -, asC, slC⟩ := id C
  cases hD.symm.trans hD'
  obtain ⟨D2, kD, e1, e2, e3, e4, e5⟩ := id E
  cases hD.symm.trans e1
  obtain ⟨c2, k2, i1, i2, i3, -⟩ := Cond.instantiable_spec wi
  cases e2.symm.trans i1
  cases e3.symm.trans i2
  obtain ⟨kU, u1, u2⟩ := al.2.2 _ _ e3
  have hB : Blank ST x D P.U := ⟨hD, ⟨knV, fun q hq => by rw [hq] at obV; cases obV⟩, by rw [al.findClass]; exact e2, kU, u1, by rw [u2]; exact i3, by rw [u2]; exact e5 i3⟩
  have F1 : Found ST "value" "[B" fV P.U := ⟨SBG.found_only al ⟨cfV, kV, iV, gV⟩, stV⟩
  have F2 : Found ST "coder" "B" fC P.U := ⟨SBG.found_only al ⟨cfC, kC, iC, gC⟩, stC⟩
  have hA : Ch b A P.U := ⟨⟨K.1, State.isArrayOf_alike al K.2.1, K.2.2, by omega⟩, hty⟩
  have hS : StaticIs P.U ST "COMPACT_STRINGS" "Z" (.int z) := by
    obtain ⟨cfS, iS, kS, fS, st, cS, t1, t2, t3, t4, t5, t6, t7⟩ := S
    exact StaticIs.there (s := { Z with heap := P.U.heap }) ⟨cfS, iS, kS, fS, st, cS, t1, t2, t3, t4, t5, (fun q => by rw [q] at t6; cases t6), t7⟩ al rfl
  obtain ⟨v, B, X', ⟨⟨hv, E', V', q1, q2, q3, q4, q5, q6, q7, q8, q9, q10, q11⟩, hl, hc, hs⟩, st⟩ := New1.pays x D fV fC b A z (tab_of (moved hZ hw)) hfr hlo m meth c P g ig mk _ X hg hsize hdg hW hn ⟨r1, r2, rfl, hB, F1, F2, hA, hS, hz, l0, l2, hp⟩
  have al' : Z.vm.Alike B.U.vm := hZ.alike.trans X'.warmed.alike
  have hsz : E'.slots.size = D.slots.size := by
    obtain ⟨-, -, -, kB, w1, w2, w3⟩ := q1
    obtain ⟨kB', y1, y2⟩ := al'.2.2 _ _ e3
    rw [q2.2.1] at w1
    cases w1.symm.trans y1
    rw [w3, e5 i3, y2]
  refine ⟨v, B, X', ⟨_, ⟨hv, ?_, ⟨by omega, fun y cy hy hn' => q10 y cy (by simpa using hn') hy, fun y cy hy => ?_⟩, q11, ⟨E', _, q1.1, by rw [q2.2.1]; exact e2, by rw [q2.2.1]; exact e3, by rw [q2.1]; exact obV, fun _ => by rw [hsz]; exact e5 i3⟩,
    ⟨E', cfV, kV, iV, fV, q1.1, gV, stV, by rw [q2.1]; exact knV, by rw [q2.1]; exact obV, by rw [q2.2.1]; exact asV, q3⟩, ⟨E', cfC, kC, iC, fC, q1.1, gC, stC, by rw [q2.1]; exact knV, by rw [q2.1]; exact obV, by rw [q2.2.1]; exact asC, q4⟩,
    ⟨V', ⟨q5.1, State.isArrayOf_alike al'.symm q5.2.1, q5.2.2.1⟩, q6, by rw [← al'.findClass]; exact q7, q8, fun j hj => by have := q9 j hj; rwa [Nat.zero_add] at this⟩, fun O n d w F n1 n2 => ?_⟩, hl, hc, hs⟩, st⟩
  · intro y hy
    simp only [List.mem_cons, List.not_mem_nil, or_false] at hy
    rcases hy with rfl | rfl <;> rfl
  · by_cases q : y = x
    · subst q
      cases hD.symm.trans hy
      exact ⟨E', q1.1, q2.2.1, q2.1, hsz⟩
    · exact ⟨cy, q10 y cy q hy, rfl, rfl, rfl⟩
  · obtain ⟨D3, cf, k, i, f, g1, g2, g3, g4, g5, g6, g7⟩ := F
    cases hD.symm.trans g1
    simp only [RoadKit.slotOf, g2, gV, gC, Option.map_some, Option.getD_some] at n1 n2
    exact ⟨E', cf, k, i, f, q1.1, g2, g3, by rw [q2.1]; exact g4, by rw [q2.1]; exact g5, by rw [q2.2.1]; exact g6, by rw [q2.2.2 f.slot (by simp [n1, n2])]; exact g7⟩
end StrChars.Road
namespace StrChars.Road
open Jvm Sem ClassFile Op Lib Jvm.Stand Jvm.Free Jvm.Free.XT
/-- WHAT COMES BACK, the byte[] as a list of values -/
def QA (Z : State) (x : Addr) (zn : Int32) (cs : List Int32) (h : Heap) (v : Option Value) (h' : Heap) (L : List Loc) : Prop := v = none ∧ (∀ y ∈ L, y.base = x) ∧ RoadKit.Keep h h' [x] ∧ h'.size = h.size + 1 ∧ RoadKit.Exa Z h' x ST ∧ RoadKit.Fld Z h' x ST "value" "[B" (.ref h.size) ∧ RoadKit.Fld Z h' x ST "coder" "B" (.int 0) ∧
  (∃ kb, Z.vm.findClass "[B" = some kb ∧ RoadKit.Arv Z h' h.size kb .byte zn (cs.map fun c => .int (lo8 c)) (.int 0)) ∧
  ∀ (O n d : String) (w : Value), RoadKit.Fld Z h x O n d w → RoadKit.slotOf Z O n d ≠ RoadKit.slotOf Z ST "value" "[B" → RoadKit.slotOf Z O n d ≠ RoadKit.slotOf Z ST "coder" "B" → RoadKit.Fld Z h' x O n d w
/-- **new String(chars) AT A CALL, THE ARRAYS AS LISTS**: the char[] at b holds cs, not empty, no char above 255 -/
theorem backArv {p : Program} {l : Launch} {e : Env} {R : Room} {s : State} {args : Array Value} {below : List Frame} {len W : Nat} {Z : State} {a0 : Array Value} {h : Heap} (hZ : Z.Warmed39 s.vm) (hw : ∀ d ∈ words, d.before a0 Z = true) {kI : Nat} (wi : (Jvm.Cond.instantiable ST kI).before a0 Z = true)
    {x b : Addr} {k : ClassId} {zn z : Int32} {cs : List Int32} {dv v0 c0 : Value} (E : RoadKit.Exa Z h x ST) (V : RoadKit.Fld Z h x ST "value" "[B" v0) (C : RoadKit.Fld Z h x ST "coder" "B" c0) (K : RoadKit.Arv Z h b k .char zn (cs.map Value.int) dv) (S : RoadKit.Sta Z h ST "COMPACT_STRINGS" "Z" (.int z)) (hz : ¬ z = 0)
    (hlen : zn.toNatClampNeg = cs.length) (h0 : 0 < cs.length) (hbig : cs.length ≤ 536870912) (hall : ∀ c ∈ cs, ¬ 255 < c) (hfr : 4 ≤ R.frames) (hlo : W + 65 ≤ R.locals) :
    Back l R p e below s args New1.yN len W (fun P a => a = #[.ref x, .ref b] ∧ P.U.heap = h ∧ P.cells + 1 ≤ R.cells ∧ P.slots + cs.length ≤ R.slots)
      (fun P _ v B => ∃ L, QA Z x zn cs h v B.U.heap L ∧ B.locs = P.locs ++ L ∧ B.cells = P.cells + 1 ∧ B.slots = P.slots + cs.length) := by
  obtain ⟨A, K1, K2, K3, K4, K5, K6⟩ := K
  have e : A.slots.size = cs.length := K3.trans hlen
  have hat : ∀ (i : Nat) (hi : i < cs.length), A.slots[i]? = some (.int cs[i]) := fun i hi => by rw [K5 i (by omega)]; simp [List.getD_eq_getElem?_getD, hi]
  have hcv : ∀ (i : Nat) (hi : i < cs.length), cv A i = cs[i] := fun i hi => by unfold cv; rw [hat i hi]
  have hty : Typed .char A := fun i v hv => by
    have hi : i < A.slots.size := (Array.getElem?_eq_some_iff.mp hv).1
    have q := K5 i hi
    rw [hv] at q
    rw [Option.some.inj q]
    exact K6 i hi
  refine Back.mono (back hZ hw wi E V C K1 hty S hz (by omega) (by omega) (fun i hi => by rw [hcv i (by omega)]; exact hall _ (List.getElem_mem _)) hfr hlo) (fun P a hp => ⟨hp.1, hp.2.1, hp.2.2.1, by rw [e]; exact hp.2.2.2⟩) (fun P a v B hp hq => ?_)
  obtain ⟨L, ⟨q1, q2, q3, q4, q5, q6, q7, ⟨V', v1, v2, v3, v4, v5⟩, q9⟩, hl, hc, hs⟩ := hq
  refine ⟨L, ⟨q1, q2, q3, q4, q5, q6, q7, ⟨V'.cls, v3, V', v1, rfl, by rw [v4, e, hlen], K4, fun i hi => ?_, fun i hi => ?_⟩, q9⟩, hl, hc, by rw [hs, e]⟩
  · have hi' : i < cs.length := by omega
    rw [v5 i (by omega), hcv i hi']; simp [List.getD_eq_getElem?_getD, hi']
  · have hi' : i < cs.length := by omega
    simp only [List.getD_eq_getElem?_getD, List.getElem?_map, List.getElem?_eq_getElem hi', Option.map_some, Option.getD_some]
    exact fits_lo8 _
end StrChars.Road
namespace StrChars.Road
open Jvm Sem ClassFile Op Lib Jvm.Stand Jvm.Free Jvm.Free.XT
/-- WHAT COMES BACK, in the writer's own shape -/
def QV (Z : State) (x : Addr) (N : Int32) (bs : List Int32) (h : Heap) (n0 : Nat) (v : Option Value) (h' : Heap) (L : List Loc) : Prop := v = none ∧ RoadKit.Fr n0 L ∧ RoadKit.Keep h h' [x] ∧ RoadKit.Exa Z h' x ST ∧ RoadKit.Fld Z h' x ST "coder" "B" (.int 0) ∧
  ∃ (t : Addr) (kb : ClassId), n0 ≤ t ∧ h.size ≤ t ∧ ¬ t = x ∧ RoadKit.Fld Z h' x ST "value" "[B" (.ref t) ∧ RoadKit.Arv Z h' t kb .byte N (bs.map Value.int) (.int 0)
/-- **new String(chars) AT A CALL, FOR THE WRITER**: a char[] of n known ints, each 0 to 255 -/
theorem backV {p : Program} {l : Launch} {e : Env} {R : Room} {s : State} {args : Array Value} {below : List Frame} {len W : Nat} {Z : State} {a0 : Array Value} {h : Heap} (hZ : Z.Warmed39 s.vm) (hw : ∀ d ∈ words, d.before a0 Z = true) {kI : Nat} (wi : (Jvm.Cond.instantiable ST kI).before a0 Z = true)
    {x b : Addr} {kC : ClassId} {cs bs : List Int32} {d v0 c0 : Value} {z N : Int32} {n n0 : Nat} (hx0 : n0 ≤ x) (hh0 : n0 ≤ h.size) (E : RoadKit.Exa Z h x ST) (V : RoadKit.Fld Z h x ST "value" "[B" v0) (C : RoadKit.Fld Z h x ST "coder" "B" c0) (K : RoadKit.Arv Z h b kC .char N (cs.map Value.int) d) (S : RoadKit.Sta Z h ST "COMPACT_STRINGS" "Z" (.int z)) (hz : ¬ z = 0)
    (hn : cs.length = n) (hN : N = Int32.ofNat n) (l0 : 0 < n) (l2 : n ≤ 4000) (hp : ∀ c ∈ cs, ¬ c < 0 ∧ ¬ (255 : Int32) < c) (hb : bs = cs.map (fun c => c.toInt8.toInt32)) (hfr : 4 ≤ R.frames) (hlo : W + 65 ≤ R.locals) :
    Back l R p e below s args (⟨"java/lang/String", "<init>", "([C)V"⟩ : MethodName) len W (fun P a => a = #[.ref x, .ref b] ∧ P.U.heap = h ∧ P.cells + 1 ≤ R.cells ∧ P.slots + n ≤ R.slots)
      (fun P _ v B => ∃ L, QV Z x N bs h n0 v B.U.heap L ∧ B.locs = P.locs ++ L ∧ B.cells = P.cells + 1 ∧ B.slots = P.slots + n) := by
  subst hn hN hb
  refine Back.mono (backArv hZ hw wi E V C K S hz (n32 (by omega)) l0 (by omega) (fun c hc => (hp c hc).2) hfr hlo) (fun P a hp => hp) (fun P a v B hp hq => ?_)
  obtain ⟨L, ⟨q1, q2, q3, q4, q5, q6, q7, ⟨kb, v1, v2⟩, q9⟩, hl, hc, hs⟩ := hq
  exact ⟨L, ⟨q1, fun y hy => by rw [q2 y hy]; exact hx0, q3, q5, q7, h.size, kb, hh0, Nat.le_refl _, Nat.ne_of_gt E.lt, q6, by rw [List.map_map]; exact v2⟩, hl, hc, hs⟩
end StrChars.Road
namespace StrChars
open Jvm Sem ClassFile Op Lib Jvm.Stand Jvm.Free.XT Jvm.Free.ALB Jvm.Free.JM Jvm.Free
open Jvm.Lib.Cold (StaticIs)
def hi8 (x : Int32) : Int32 := lo8 (x >>> ((8 : Int32) &&& 31))
/-- what StringUTF16.getChar makes of two bytes -/
def pairCh (u v : Int32) : Int32 := (((u &&& 255) <<< ((0 : Int32) &&& 31)) ||| ((v &&& 255) <<< ((8 : Int32) &&& 31))).toUInt32.toUInt16.toUInt32.toInt32
theorem shr0 (c : Int32) : c >>> ((0 : Int32) &&& 31) = c := by
  have e : ((0 : Int32) &&& 31) = 0 := by decide
  rw [e]
  apply Int32.toBitVec_inj.mp
  rw [Int32.toBitVec_shiftRight]
  have e1 : ((0 : Int32).toBitVec.smod 32) = 0#32 := by decide
  rw [e1, BitVec.sshiftRight_eq']
  exact BitVec.sshiftRight_zero
theorem lo8_and (x : Int32) : (lo8 x &&& 255).toBitVec.toNat = x.toBitVec.toNat % 256 := by
  have h : (lo8 x).toBitVec = (x.toBitVec.signExtend 8).signExtend 32 := by rw [lo8, Int8.toBitVec_toInt32, Int32.toBitVec_toInt8]
  rw [Int32.toBitVec_and, BitVec.toNat_and, h]
  have e : ((x.toBitVec.signExtend 8).signExtend 32).toNat % 256 = x.toBitVec.toNat % 256 := by
    rw [BitVec.toNat_signExtend]
    have hlt := x.toBitVec.isLt
    simp only [BitVec.toNat_setWidth, BitVec.toNat_signExtend]
    split <;> split <;> omega
  rw [← e]
  exact Nat.and_two_pow_sub_one_eq_mod _ 8
theorem pair_says {c : Int32} (h0 : ¬ c < 0) (h1 : ¬ 65535 < c) : pairCh (lo8 c) (hi8 c) = c := by
  rw [Int32.lt_iff_toInt_lt] at h0 h1
  have e0 : (0 : Int32).toInt = 0 := rfl
  have e1 : (65535 : Int32).toInt = 65535 := rfl
  have hc : c.toInt = c.toBitVec.toNat := by
    have := c.toBitVec.isLt
    have e : c.toInt = c.toBitVec.toInt := rfl
    rw [e] at h0 h1
    rw [e]
    rw [BitVec.toInt_eq_toNat_cond] at h0 h1 ⊢
    split at h0 <;> split <;> omega
  have hn : c.toBitVec.toNat < 65536 := by omega
  have a1 := lo8_and c
  have a2 : (hi8 c &&& 255).toBitVec.toNat = c.toBitVec.toNat / 256 := by
    rw [hi8, lo8_and]
    have e : ((8 : Int32) &&& 31) = 8 := by decide
    rw [e, Int32.toBitVec_shiftRight]
    have e2 : ((8 : Int32).toBitVec.smod 32) = 8#32 := by decide
    rw [e2, BitVec.sshiftRight_eq', BitVec.toNat_sshiftRight_of_msb_false (by rw [BitVec.msb_eq_false_iff_two_mul_lt]; omega)]
    show c.toBitVec.toNat >>> 8 % 256 = _
    rw [Nat.shiftRight_eq_div_pow]
    omega
  unfold pairCh
  apply Int32.toBitVec_inj.mp
  apply BitVec.eq_of_toNat_eq
  have f0 : ((0 : Int32) &&& 31) = 0 := by decide
  have f8 : ((8 : Int32) &&& 31) = 8 := by decide
  rw [f0, f8]
  have g : (((lo8 c &&& 255) <<< (0 : Int32)) ||| ((hi8 c &&& 255) <<< (8 : Int32))).toBitVec.toNat = c.toBitVec.toNat := by
    rw [Int32.toBitVec_or, Int32.toBitVec_shiftLeft, Int32.toBitVec_shiftLeft]
    have s0 : ((0 : Int32).toBitVec.smod 32) = 0#32 := by decide
    have s8 : ((8 : Int32).toBitVec.smod 32) = 8#32 := by decide
    rw [s0, s8, BitVec.toNat_or]
    simp only [BitVec.shiftLeft_eq', BitVec.toNat_shiftLeft, a1, a2]
    show (c.toBitVec.toNat % 256) <<< 0 % 2 ^ 32 ||| (c.toBitVec.toNat / 256) <<< 8 % 2 ^ 32 = _
    rw [Nat.shiftLeft_zero, Nat.mod_eq_of_lt (show c.toBitVec.toNat % 256 < 2 ^ 32 by omega), Nat.mod_eq_of_lt (show (c.toBitVec.toNat / 256) <<< 8 < 2 ^ 32 by rw [Nat.shiftLeft_eq]; omega), Nat.or_comm, ← Nat.shiftLeft_add_eq_or_of_lt (by omega), Nat.shiftLeft_eq]
    omega
  show BitVec.toNat (((((lo8 c &&& 255) <<< (0 : Int32)) ||| ((hi8 c &&& 255) <<< (8 : Int32))).toBitVec.setWidth 16).setWidth 32) = _
  rw [BitVec.toNat_setWidth, BitVec.toNat_setWidth, g]
  omega
end StrChars
namespace StrChars
open Jvm Sem ClassFile Op Lib Jvm.Stand Jvm.Free.XT Jvm.Free.ALB Jvm.Free.JM Jvm.Free
open Jvm.Lib.Cold (StaticIs)
theorem shr1 {n : Nat} (h : 2 * n < 2 ^ 31) : Int32.ofNat (2 * n) >>> ((1 : Int32) &&& 31) = Int32.ofNat n := by
  have e : ((1 : Int32) &&& 31) = 1 := by decide
  rw [e]
  apply Int32.toBitVec_inj.mp
  rw [Int32.toBitVec_shiftRight]
  have e1 : ((1 : Int32).toBitVec.smod 32) = 1#32 := by decide
  have hm : (BitVec.ofNat 32 (2 * n)).toNat = 2 * n := by rw [BitVec.toNat_ofNat, Nat.mod_eq_of_lt (by omega)]
  rw [e1, BitVec.sshiftRight_eq']
  apply BitVec.eq_of_toNat_eq
  show ((BitVec.ofNat 32 (2 * n)).sshiftRight 1).toNat = (BitVec.ofNat 32 n).toNat
  rw [BitVec.toNat_sshiftRight_of_msb_false (by rw [BitVec.msb_eq_false_iff_two_mul_lt, hm]; omega), hm, BitVec.toNat_ofNat, Nat.shiftRight_eq_div_pow]
  omega
/-- charAt's cast of a byte read back -/
def chr8 (u : Int32) : Int32 := (u &&& 255).toUInt32.toUInt16.toUInt32.toInt32
theorem chr8_lo8 {c : Int32} (h0 : ¬ c < 0) (h1 : ¬ 255 < c) : chr8 (lo8 c) = c := by
  have t : ∀ k : Fin 256, (Int32.ofNat k.val).toUInt32.toUInt16.toUInt32.toInt32 = Int32.ofNat k.val := by decide +kernel
  unfold chr8
  rw [lo8_mask h0 h1]
  rw [Int32.lt_iff_toInt_lt] at h0 h1
  have e0 : (0 : Int32).toInt = 0 := rfl
  have e1 : (255 : Int32).toInt = 255 := rfl
  obtain ⟨k, hk⟩ : ∃ k : Nat, c.toInt = k := ⟨c.toInt.toNat, by omega⟩
  have hx : c = Int32.ofNat k := Int32.toInt_inj.mp (by rw [hk, Int32.toInt_ofNat_small (by omega)])
  rw [hx]
  exact t ⟨k, by omega⟩
theorem narrow_ch {c : Int32} (h0 : ¬ c < 0) (h1 : ¬ 65535 < c) : narrow .char (.int c) = .int c := by
  have q : narrow .char (.int (pairCh (lo8 c) (hi8 c))) = .int (pairCh (lo8 c) (hi8 c)) := narrow_c _
  rwa [pair_says h0 h1] at q
/-- the array's cell V codes the n chars f 0 .. f (n - 1) by the coder cd, as the JDK does: coder 1 just where some char is above 255 -/
def Cod (cd : Int32) (n : Nat) (f : Nat → Int32) (V : Cell) : Prop := (cd = 0 ∧ V.slots.size = n ∧ ∀ j, j < n → V.slots[j]? = some (.int (lo8 (f j))) ∧ ¬ 255 < f j) ∨ (cd = 1 ∧ V.slots.size = 2 * n ∧ (∀ j, j < n → V.slots[2 * j]? = some (.int (lo8 (f j))) ∧ V.slots[2 * j + 1]? = some (.int (hi8 (f j)))) ∧ ∃ j, j < n ∧ 255 < f j)
theorem Cod.cd {cd : Int32} {n : Nat} {f : Nat → Int32} {V : Cell} (h : Cod cd n f V) : cd = 0 ∨ cd = 1 := h.imp (fun q => q.1) fun q => q.1
theorem Cod.len {cd : Int32} {n : Nat} {f : Nat → Int32} {V : Cell} (h : Cod cd n f V) (hs : V.slots.size < 2 ^ 31) : Int32.ofNat V.slots.size >>> (cd &&& 31) = Int32.ofNat n := by
  rcases h with ⟨rfl, h, -⟩ | ⟨rfl, h, -⟩
  · rw [shr0, h]
  · rw [h, shr1 (by omega)]
/-- **x is a String of the n chars f 0 .. f (n - 1)**, Latin-1 or UTF-16; its array at t has the cell V -/
def Txt (x t : Addr) (V : Cell) (cd : Int32) (n : Nat) (f : Nat → Int32) (U : State) : Prop := Exact "java/lang/String" x U ∧ Has x "java/lang/String" "value" "[B" (.ref t) U ∧ Has x "java/lang/String" "coder" "B" (.int cd) U ∧ XT.Arr .byte t V U ∧ Cod cd n f V ∧ ∀ j, j < n → ¬ f j < 0 ∧ ¬ 65535 < f j
theorem Txt.mv {x t : Addr} {V : Cell} {cd : Int32} {n : Nat} {f : Nat → Int32} {U U' : State} (h : Txt x t V cd n f U) (hal : U.vm.Alike U'.vm) (hh : U'.heap = U.heap) : Txt x t V cd n f U' := ⟨h.1.mv hal hh, h.2.1.mv hal hh, h.2.2.1.mv hal hh, h.2.2.2.1.mv hal hh, h.2.2.2.2⟩
namespace Cdr
def yN : MethodName := ⟨"java/lang/String", "coder", "()B"⟩
abbrev yB : ByteArray := jdk_42_method_152_code
theorem d0 : decode yB 0 = .ok (.getstatic 38, 3) := by decide +kernel
theorem d3 : decode yB 3 = .ok (.ifCond (.eq) 10, 3) := by decide +kernel
theorem d6 : decode yB 6 = .ok (.aload_n 0, 1) := by decide +kernel
theorem d7 : decode yB 7 = .ok (.getfield 15, 3) := by decide +kernel
theorem d10 : decode yB 10 = .ok (.goto 4, 3) := by decide +kernel
theorem d14 : decode yB 14 = .ok (.ireturn, 1) := by decide +kernel
def site : List Cond := [.fieldLink "java/lang/String" 38 "java/lang/String" "COMPACT_STRINGS" "Z", .fieldLink "java/lang/String" 15 "java/lang/String" "coder" "B"]
def tab : Cond := tabOf yN yB 1 (some .byte) site
def P (x : Addr) (cd z : Int32) (args : Array Value) (s : State) : Prop := args = #[.ref x] ∧ Has x "java/lang/String" "coder" "B" (.int cd) s ∧ (cd = 0 ∨ cd = 1) ∧ StaticIs s "java/lang/String" "COMPACT_STRINGS" "Z" (.int z) ∧ ¬ z = 0
def E (cd : Int32) (r : Option Value) (s u : State) : Prop := XT.PureE (some (.int cd)) r s u
theorem law (l : Launch) (x : Addr) (cd z : Int32) : Law l yN 1 0 0 0 yB 1 (some .byte) site (P x cd z) (E cd) [] 0 0 := by
  refine Law.of_walk (plainFor_of_name (by decide +kernel)) (by decide +kernel) (by decide +kernel) (by decide) (fun _ _ h => by rw [h.1]; rfl) (fun _ U U' hal hh h => ⟨h.1, h.2.1.mv hal hh, h.2.2.1, h.2.2.2.1.there hal hh, h.2.2.2.2⟩) (fun r U U' V V' h1 hal h2 h => XT.PureE.mv r U U' V V' h1 hal h2 h) ?_
  intro p e s m args below meth c s₁ X0 hexec hbytes hml hret hlk hnm hown hh0 W hP
  obtain ⟨rfl, hx, hc, s1, hz⟩ := hP
  have c1 : Steps p.tables e below (s₁.setTop (entryFrame m #[.ref x] 1)) (s₁.setTop (mkF m 0 #[.val (.ref x)] [])) := entry rfl
  obtain ⟨T2, X2, q2, st2⟩ := X0.sget hexec hown (wk W (.fieldLink "java/lang/String" 38 "java/lang/String" "COMPACT_STRINGS" "Z")) s1 (fun _ _ h => by rw [hh0]; exact h) (g := (mkF m 0 #[.val (.ref x)] [])) rfl (hb hbytes d0)
  have hh2 := q2.trans hh0
  have c3 : Steps p.tables e below (s₁.setTop (entryFrame m #[.ref x] 1)) (T2.setTop (mkF m 7 #[.val (.ref x)] [.ref x])) := (c1.trans (st2 _ (Steps.refl _))).trans (by
    refine XS.ifNo X2.here hexec rfl (hb hbytes d3) rfl (i0_eq_f hz) ?_
    refine XS.aloadN X2.here hexec rfl (hb hbytes d6) rfl rfl ?_
    exact Steps.refl _)
  obtain ⟨T4, X4, q4, st4⟩ := X2.hget hexec hown (wk W (.fieldLink "java/lang/String" 15 "java/lang/String" "coder" "B")) (hx.mv X2.warmed.alike hh2) (g := (mkF m 7 #[.val (.ref x)] [.ref x])) rfl (rest := []) rfl (hb hbytes d7)
  have c5 : Steps p.tables e below (s₁.setTop (entryFrame m #[.ref x] 1)) (T4.setTop (mkF m 14 #[.val (.ref x)] [.int cd])) := (c3.trans (st4 _ (Steps.refl _))).trans (by
    refine XS.goto X4.here hexec rfl (pc0 := 10) rfl (hb hbytes d10) (by decide) rfl ?_
    exact Steps.refl _)
  exact ⟨T4, some (.int cd), _, _, _, X4, rfl, rfl, rfl, (fun h => by cases h), ⟨rfl, q4.trans hh2⟩, fun fs hl => c5.trans (X4.ireturnOut hexec hret (by rcases hc with rfl | rfl <;> rfl) (Or.inr (Or.inr (Or.inl rfl))) (hb hbytes d14) hl)⟩
end Cdr
namespace Len
def yN : MethodName := ⟨"java/lang/String", "length", "()I"⟩
abbrev yB : ByteArray := jdk_42_method_54_code
theorem d0 : decode yB 0 = .ok (.aload_n 0, 1) := by decide +kernel
theorem d1 : decode yB 1 = .ok (.getfield 9, 3) := by decide +kernel
theorem d4 : decode yB 4 = .ok (.arraylength, 1) := by decide +kernel
theorem d5 : decode yB 5 = .ok (.aload_n 0, 1) := by decide +kernel
theorem d6 : decode yB 6 = .ok (.invokevirtual 335, 3) := by decide +kernel
theorem d9 : decode yB 9 = .ok (.ishr, 1) := by decide +kernel
theorem d10 : decode yB 10 = .ok (.ireturn, 1) := by decide +kernel
def site : List Cond := [.fieldLink "java/lang/String" 9 "java/lang/String" "value" "[B", Cdr.tab] ++ virtW "java/lang/String" 335 "java/lang/String" Cdr.yN Cdr.yN
def tab : Cond := tabOf yN yB 1 (some .int) site
def P (x t : Addr) (V : Cell) (cd : Int32) (n : Nat) (f : Nat → Int32) (z : Int32) (args : Array Value) (s : State) : Prop := args = #[.ref x] ∧ Txt x t V cd n f s ∧ StaticIs s "java/lang/String" "COMPACT_STRINGS" "Z" (.int z) ∧ ¬ z = 0
def E (n : Nat) (r : Option Value) (s u : State) : Prop := XT.PureE (some (.int (Int32.ofNat n))) r s u
/-- length() of a String of n chars, in either coding -/
theorem law (l : Launch) (x t : Addr) (V : Cell) (cd : Int32) (n : Nat) (f : Nat → Int32) (z : Int32) : Law l yN 1 0 1 13 yB 1 (some .int) site (P x t V cd n f z) (E n) [] 0 0 := by
  refine Law.of_walk (plainFor_of_name (by decide +kernel)) (by decide +kernel) (by decide +kernel) (by decide) (fun _ _ h => by rw [h.1]; rfl) (fun _ U U' hal hh h => ⟨h.1, h.2.1.mv hal hh, h.2.2.1.there hal hh, h.2.2.2⟩) (fun r U U' V V' h1 hal h2 h => XT.PureE.mv r U U' V V' h1 hal h2 h) ?_
  intro p e s m args below meth c s₁ X0 hexec hbytes hml hret hlk hnm hown hh0 W hP
  obtain ⟨rfl, hx, s1, hz⟩ := hP
  have v31 := hx.2.2.2.1.2.2.2
  have c1 : Steps p.tables e below (s₁.setTop (entryFrame m #[.ref x] 1)) (s₁.setTop (mkF m 1 #[.val (.ref x)] [.ref x])) := Steps.trans (entry rfl) (by
    show Steps p.tables e below (s₁.setTop (mkF m 0 #[.val (.ref x)] [])) _
    refine XS.aloadN X0.here hexec rfl (hb hbytes d0) rfl rfl ?_
    exact Steps.refl _)
  obtain ⟨T2, X2, q2, st2⟩ := X0.hget hexec hown (wk W (.fieldLink "java/lang/String" 9 "java/lang/String" "value" "[B")) (hx.mv X0.warmed.alike hh0).2.1 (g := (mkF m 1 #[.val (.ref x)] [.ref x])) rfl (rest := []) rfl (hb hbytes d1)
  have hh2 := q2.trans hh0
  have hx2 := hx.mv X2.warmed.alike hh2
  have c3 : Steps p.tables e below (s₁.setTop (entryFrame m #[.ref x] 1)) (T2.setTop (mkF m 6 #[.val (.ref x)] [.ref x, .int (Int32.ofNat V.slots.size)])) := (c1.trans (st2 _ (Steps.refl _))).trans (by
    refine X2.alen hexec hx2.2.2.2.1 rfl rfl (hb hbytes d4) ?_
    refine XS.aloadN X2.here hexec rfl (hb hbytes d5) rfl rfl ?_
    exact Steps.refl _)
  obtain ⟨v4, T4, X4, E4, g4⟩ := X2.callV hexec (Cdr.law l x cd z) hown (wks W (virtW "java/lang/String" 335 "java/lang/String" Cdr.yN Cdr.yN)) rfl (by decide) (wk W Cdr.tab) (W := 1) (Nat.le_of_ble_eq_true rfl) (Nat.le_of_ble_eq_true rfl) (Nat.le_refl _) (Nat.le_refl _) (hx2.1.fc X2.warmed.alike) hx2.1.is (g := (mkF m 6 #[.val (.ref x)] [.ref x, .int (Int32.ofNat V.slots.size)])) rfl (by rw [hml]; rfl) c3 (argsL := []) (rest := [.int (Int32.ofNat V.slots.size)]) rfl rfl (by show 2 * 0 + (1 + 0) ≤ _; decide) (hb hbytes d6) (⟨rfl, hx2.2.2.1, hx.2.2.2.2.1.cd, s1.there X2.warmed.alike hh2, hz⟩)
  obtain ⟨rfl, q4⟩ := E4
  have c5 : Steps p.tables e below (s₁.setTop (entryFrame m #[.ref x] 1)) (T4.setTop (mkF m 10 #[.val (.ref x)] [.int (Int32.ofNat V.slots.size >>> (cd &&& 31))])) := Steps.trans g4 (by
    refine ishr X4.here hexec rfl (hb hbytes d9) rfl ?_
    exact Steps.refl _)
  rw [hx.2.2.2.2.1.len v31] at c5
  exact ⟨T4, some (.int (Int32.ofNat n)), _, _, _, X4, rfl, rfl, rfl, (fun h => by cases h), ⟨rfl, q4.trans hh2⟩, fun fs hl => c5.trans (X4.ireturnOut hexec hret rfl (Or.inl rfl) (hb hbytes d10) hl)⟩
theorem pays {l : Launch} {R : Room} {p : Program} {e : Env} {below : List Frame} {s : State} {sargs : Array Value} {len W : Nat} (x t : Addr) (V : Cell) (cd : Int32) (n : Nat) (f : Nat → Int32) (z : Int32) (htab : tab.before sargs s = true) (hfr : 2 ≤ R.frames) (hlo : W + 25 ≤ R.locals) :
    Back l R p e below s sargs yN len W (fun A₁ a₁ => A₁.cells + 0 ≤ R.cells ∧ A₁.slots + 0 ≤ R.slots ∧ P x t V cd n f z a₁ A₁.U) (fun A₁ _ v₁ B₁ => E n v₁ A₁.U B₁.U ∧ B₁.locs = A₁.locs ++ [] ∧ B₁.cells = A₁.cells + 0 ∧ B₁.slots = A₁.slots + 0) :=
  (law l x t V cd n f z).pays htab hfr (by omega)
end Len
namespace IsL
def yN : MethodName := ⟨"java/lang/String", "isLatin1", "()Z"⟩
abbrev yB : ByteArray := jdk_42_method_154_code
theorem d0 : decode yB 0 = .ok (.getstatic 38, 3) := by decide +kernel
theorem d3 : decode yB 3 = .ok (.ifCond (.eq) 14, 3) := by decide +kernel
theorem d6 : decode yB 6 = .ok (.aload_n 0, 1) := by decide +kernel
theorem d7 : decode yB 7 = .ok (.getfield 15, 3) := by decide +kernel
theorem d10 : decode yB 10 = .ok (.ifCond (.ne) 7, 3) := by decide +kernel
theorem d13 : decode yB 13 = .ok (.iconst 1, 1) := by decide +kernel
theorem d14 : decode yB 14 = .ok (.goto 4, 3) := by decide +kernel
theorem d17 : decode yB 17 = .ok (.iconst 0, 1) := by decide +kernel
theorem d18 : decode yB 18 = .ok (.ireturn, 1) := by decide +kernel
def site : List Cond := [.fieldLink "java/lang/String" 38 "java/lang/String" "COMPACT_STRINGS" "Z", .fieldLink "java/lang/String" 15 "java/lang/String" "coder" "B"]
def tab : Cond := tabOf yN yB 1 (some .boolean) site
def P (x : Addr) (cd z : Int32) (args : Array Value) (s : State) : Prop := args = #[.ref x] ∧ Has x "java/lang/String" "coder" "B" (.int cd) s ∧ (cd = 0 ∨ cd = 1) ∧ StaticIs s "java/lang/String" "COMPACT_STRINGS" "Z" (.int z) ∧ ¬ z = 0
def E (cd : Int32) (r : Option Value) (s u : State) : Prop := XT.PureE (some (.int (1 - cd))) r s u
theorem law (l : Launch) (x : Addr) (cd z : Int32) : Law l yN 1 0 0 0 yB 1 (some .boolean) site (P x cd z) (E cd) [] 0 0 := by
  refine Law.of_walk (plainFor_of_name (by decide +kernel)) (by decide +kernel) (by decide +kernel) (by decide) (fun _ _ h => by rw [h.1]; rfl) (fun _ U U' hal hh h => ⟨h.1, h.2.1.mv hal hh, h.2.2.1, h.2.2.2.1.there hal hh, h.2.2.2.2⟩) (fun r U U' V V' h1 hal h2 h => XT.PureE.mv r U U' V V' h1 hal h2 h) ?_
  intro p e s m args below meth c s₁ X0 hexec hbytes hml hret hlk hnm hown hh0 W hP
  obtain ⟨rfl, hx, hc, s1, hz⟩ := hP
  have c1 : Steps p.tables e below (s₁.setTop (entryFrame m #[.ref x] 1)) (s₁.setTop (mkF m 0 #[.val (.ref x)] [])) := entry rfl
  obtain ⟨T2, X2, q2, st2⟩ := X0.sget hexec hown (wk W (.fieldLink "java/lang/String" 38 "java/lang/String" "COMPACT_STRINGS" "Z")) s1 (fun _ _ h => by rw [hh0]; exact h) (g := (mkF m 0 #[.val (.ref x)] [])) rfl (hb hbytes d0)
  have hh2 := q2.trans hh0
  have c3 : Steps p.tables e below (s₁.setTop (entryFrame m #[.ref x] 1)) (T2.setTop (mkF m 7 #[.val (.ref x)] [.ref x])) := (c1.trans (st2 _ (Steps.refl _))).trans (by
    refine XS.ifNo X2.here hexec rfl (hb hbytes d3) rfl (i0_eq_f hz) ?_
    refine XS.aloadN X2.here hexec rfl (hb hbytes d6) rfl rfl ?_
    exact Steps.refl _)
  obtain ⟨T4, X4, q4, st4⟩ := X2.hget hexec hown (wk W (.fieldLink "java/lang/String" 15 "java/lang/String" "coder" "B")) (hx.mv X2.warmed.alike hh2) (g := (mkF m 7 #[.val (.ref x)] [.ref x])) rfl (rest := []) rfl (hb hbytes d7)
  have c5 : Steps p.tables e below (s₁.setTop (entryFrame m #[.ref x] 1)) (T4.setTop (mkF m 10 #[.val (.ref x)] [.int cd])) := c3.trans (st4 _ (Steps.refl _))
  have c6 : Steps p.tables e below (s₁.setTop (entryFrame m #[.ref x] 1)) (T4.setTop (mkF m 18 #[.val (.ref x)] [.int (1 - cd)])) := by
    rcases hc with rfl | rfl
    · exact c5.trans (by
        refine XS.ifNo X4.here hexec rfl (hb hbytes d10) rfl (i0_ne_f rfl) ?_
        refine iconstV X4.here hexec rfl 1 (hb hbytes d13) (by decide) ?_
        refine XS.goto X4.here hexec rfl (pc0 := 14) rfl (hb hbytes d14) (by decide) rfl ?_
        exact Steps.refl _)
    · exact c5.trans (by
        refine XS.ifYes X4.here hexec rfl (pc0 := 10) rfl (hb hbytes d10) rfl (i0_ne_t (by decide)) (by decide) rfl ?_
        refine iconstV X4.here hexec rfl 0 (hb hbytes d17) (by decide) ?_
        exact Steps.refl _)
  exact ⟨T4, some (.int (1 - cd)), _, _, _, X4, rfl, rfl, rfl, (fun h => by cases h), ⟨rfl, q4.trans hh2⟩, fun fs hl => c6.trans (X4.ireturnOut hexec hret (by rcases hc with rfl | rfl <;> rfl) (Or.inr (Or.inl rfl)) (hb hbytes d18) hl)⟩
end IsL
namespace LChA
def yN : MethodName := ⟨"java/lang/StringLatin1", "charAt", "([BI)C"⟩
abbrev yB : ByteArray := jdk_43_method_2_code
theorem d0 : decode yB 0 = .ok (.iload_n 1, 1) := by decide +kernel
theorem d1 : decode yB 1 = .ok (.aload_n 0, 1) := by decide +kernel
theorem d2 : decode yB 2 = .ok (.arraylength, 1) := by decide +kernel
theorem d3 : decode yB 3 = .ok (.invokestatic 9, 3) := by decide +kernel
theorem d6 : decode yB 6 = .ok (.aload_n 0, 1) := by decide +kernel
theorem d7 : decode yB 7 = .ok (.iload_n 1, 1) := by decide +kernel
theorem d8 : decode yB 8 = .ok (.baload, 1) := by decide +kernel
theorem d9 : decode yB 9 = .ok (.sipush 255, 3) := by decide +kernel
theorem d12 : decode yB 12 = .ok (.iand, 1) := by decide +kernel
theorem d13 : decode yB 13 = .ok (.i2c, 1) := by decide +kernel
theorem d14 : decode yB 14 = .ok (.ireturn, 1) := by decide +kernel
def site : List Cond := [JO.Str_checkIndex.tab] ++ staticW "java/lang/StringLatin1" 9 JO.Str_checkIndex.yN
def tab : Cond := tabOf yN yB 2 (some .char) site
def P (t : Addr) (V : Cell) (i : Nat) (u : Int32) (fm : Value) (args : Array Value) (s : State) : Prop := args = #[.ref t, .int (Int32.ofNat i)] ∧ XT.Arr .byte t V s ∧ V.slots[i]? = some (.int u) ∧ (StaticIs s "jdk/internal/util/Preconditions" "SIOOBE_FORMATTER" "Ljava/util/function/BiFunction;" fm ∧ fm.isRef = true)
def E (u : Int32) (r : Option Value) (s w : State) : Prop := XT.PureE (some (.int (chr8 u))) r s w
theorem law (l : Launch) (t : Addr) (V : Cell) (i : Nat) (u : Int32) (fm : Value) : Law l yN 2 2 2 27 yB 2 (some .char) site (P t V i u fm) (E u) [] 0 0 := by
  refine Law.of_walk (plainFor_of_name (by decide +kernel)) (by decide +kernel) (by decide +kernel) (by decide) (fun _ _ h => by rw [h.1]; rfl) (fun _ U U' hal hh h => ⟨h.1, h.2.1.mv hal hh, h.2.2.1, h.2.2.2.1.there hal hh, h.2.2.2.2⟩) (fun r U U' V V' h1 hal h2 h => XT.PureE.mv r U U' V V' h1 hal h2 h) ?_
  intro p e s m args below meth c s₁ X0 hexec hbytes hml hret hlk hnm hown hh0 W hP
  obtain ⟨rfl, hV, hu, s1, rf⟩ := hP
  have v31 := hV.2.2.2
  have hi : i < V.slots.size := (Array.getElem?_eq_some_iff.mp hu).1
  have c1 : Steps p.tables e below (s₁.setTop (entryFrame m #[.ref t, .int (Int32.ofNat i)] 2)) (s₁.setTop (mkF m 0 #[.val (.ref t), .val (.int (Int32.ofNat i))] [])) := entry rfl
  have c2 : Steps p.tables e below (s₁.setTop (entryFrame m #[.ref t, .int (Int32.ofNat i)] 2)) (s₁.setTop (mkF m 3 #[.val (.ref t), .val (.int (Int32.ofNat i))] [.int (Int32.ofNat V.slots.size), .int (Int32.ofNat i)])) := c1.trans (by
    refine XS.iloadN X0.here hexec rfl (hb hbytes d0) rfl ?_
    refine XS.aloadN X0.here hexec rfl (hb hbytes d1) rfl rfl ?_
    refine X0.alen hexec (hV.mv X0.warmed.alike hh0) rfl rfl (hb hbytes d2) ?_
    exact Steps.refl _)
  obtain ⟨v3, T3, X3, E3, g3⟩ := X0.callS hexec (JO.Str_checkIndex.law l (Int32.ofNat i) (Int32.ofNat V.slots.size) fm) hown (wks W (staticW "java/lang/StringLatin1" 9 JO.Str_checkIndex.yN)) (wk W JO.Str_checkIndex.tab) (W := 0) (Nat.le_of_ble_eq_true rfl) (Nat.le_of_ble_eq_true rfl) (Nat.le_refl _) (Nat.le_refl _) (g := (mkF m 3 #[.val (.ref t), .val (.int (Int32.ofNat i))] [.int (Int32.ofNat V.slots.size), .int (Int32.ofNat i)])) rfl (by rw [hml]; rfl) c2 (argsL := [.int (Int32.ofNat i), .int (Int32.ofNat V.slots.size)]) (rest := []) rfl rfl (by show 2 * 0 + 0 ≤ _; decide) (hb hbytes d3) (⟨rfl, rf, s1.there X0.warmed.alike hh0, Int32.ofNat_not_neg (by omega), lt32 v31 hi⟩)
  obtain ⟨rfl, q3⟩ := E3
  have hh3 := q3.trans hh0
  have c4 : Steps p.tables e below (s₁.setTop (entryFrame m #[.ref t, .int (Int32.ofNat i)] 2)) (T3.setTop (mkF m 14 #[.val (.ref t), .val (.int (Int32.ofNat i))] [.int (chr8 u)])) := Steps.trans g3 (by
    refine XS.aloadN X3.here hexec rfl (hb hbytes d6) rfl rfl ?_
    refine XS.iloadN X3.here hexec rfl (hb hbytes d7) rfl ?_
    refine X3.aget hexec (hV.mv X3.warmed.alike hh3) rfl hu rfl rfl (hb hbytes d8) ?_
    refine sipushV X3.here hexec rfl 255 (hb hbytes d9) (by decide) ?_
    refine XS.iand X3.here hexec rfl (hb hbytes d12) rfl ?_
    refine i2c X3.here hexec rfl (hb hbytes d13) rfl ?_
    exact Steps.refl _)
  exact ⟨T3, some (.int (chr8 u)), _, _, _, X3, rfl, rfl, rfl, (fun h => by cases h), ⟨rfl, hh3⟩, fun fs hl => c4.trans (X3.ireturnOut hexec hret (narrow_c _) (Or.inr (Or.inr (Or.inr (Or.inl rfl)))) (hb hbytes d14) hl)⟩
end LChA
end StrChars
namespace StrChars.Road
open Jvm Sem ClassFile Op Lib Jvm.Stand Jvm.Free Jvm.Free.XT
open Jvm.Lib.Cold (StaticIs)
theorem consq {a : Array Value} {s : State} {c : Jvm.Cond} {L : List Jvm.Cond} (h0 : c.before a s = true) (h : ∀ w ∈ L, w.before a s = true) : ∀ w ∈ c :: L, w.before a s = true := fun w hw => (List.mem_cons.mp hw).elim (fun e => e ▸ h0) (h w)
/-- the words of String.length(), either coding -/
abbrev wordsLen : List Jvm.Cond := [.code Len.yN Len.yB 1 (some .int), .initialized ST, .fieldLink ST 9 ST "value" "[B", .fieldLink ST 38 ST "COMPACT_STRINGS" "Z", .fieldLink ST 15 ST "coder" "B", .code Cdr.yN Cdr.yB 1 (some .byte), .methodLink ST 335 Cdr.yN, .declares Cdr.yN, .selects ST Cdr.yN Cdr.yN, .instanceMethod Cdr.yN]
theorem tabLen_of {a : Array Value} {s : State} (h : ∀ w ∈ wordsLen, w.before a s = true) : Len.tab.before a s = true := by
  have hc : Cdr.tab.before a s = true := unparts (wk h (.code Cdr.yN Cdr.yB 1 (some .byte))) (wks h (.initialized Cdr.yN.cls :: Cdr.site))
  have q := consq hc h
  exact unparts (wk q (.code Len.yN Len.yB 1 (some .int))) (wks q (.initialized Len.yN.cls :: Len.site))
theorem movedLen {Z s : State} {a0 args : Array Value} (hZ : Z.Warmed39 s.vm) (hw : ∀ d ∈ wordsLen, d.before a0 Z = true) : ∀ d ∈ wordsLen, d.before args s = true := fun d hd => by
  have q := hw d hd
  have t : ∀ d ∈ wordsLen, d = .arrayClass .byte ∨ (d.onTables && d.keepsFace) = true := by decide +kernel
  rcases t d hd with rfl | t
  · exact RoadKit.mvA hZ q
  · exact RoadKit.mv hZ q t
/-- the bytes of the chars cs, low before high -/
def wideBytes : List Int32 → List Value
  | [] => []
  | c :: cs => .int (lo8 c) :: .int (hi8 c) :: wideBytes cs
theorem wide_lo (d : Value) : ∀ (cs : List Int32) (j : Nat), j < cs.length → (wideBytes cs).getD (2 * j) d = .int (lo8 (cs.getD j 0))
  | [], j, h => absurd h (Nat.not_lt_zero j)
  | c :: cs, 0, _ => rfl
  | c :: cs, j + 1, h => by
    have q := wide_lo d cs j (by simpa using h)
    rw [show 2 * (j + 1) = 2 * j + 1 + 1 from by omega]
    simpa [wideBytes] using q
theorem wide_hi (d : Value) : ∀ (cs : List Int32) (j : Nat), j < cs.length → (wideBytes cs).getD (2 * j + 1) d = .int (hi8 (cs.getD j 0))
  | [], j, h => absurd h (Nat.not_lt_zero j)
  | c :: cs, 0, _ => rfl
  | c :: cs, j + 1, h => by
    have q := wide_hi d cs j (by simpa using h)
    rw [show 2 * (j + 1) + 1 = 2 * j + 1 + 1 + 1 from by omega]
    simpa [wideBytes] using q
theorem low_at (d : Value) (cs : List Int32) (j : Nat) (h : j < cs.length) : (cs.map fun c => Value.int (lo8 c)).getD j d = .int (lo8 (cs.getD j 0)) := by
  simp [List.getD_eq_getElem?_getD, h]
/-- an array of N2 bytes vs codes the chars cs by the coder cd -/
def CodA (cs : List Int32) (cd N2 : Int32) (vs : List Value) : Prop := (cd = 0 ∧ N2 = Int32.ofNat cs.length ∧ vs = (cs.map fun c => Value.int (lo8 c)) ∧ ∀ c ∈ cs, ¬ 255 < c) ∨ (cd = 1 ∧ N2 = Int32.ofNat (2 * cs.length) ∧ vs = wideBytes cs ∧ ∃ c ∈ cs, 255 < c)
theorem CodA.cod {cs : List Int32} {cd N2 : Int32} {vs : List Value} {V : Cell} (h : CodA cs cd N2 vs) (hn : 2 * cs.length < 2 ^ 31) (hs : V.slots.size = N2.toNatClampNeg) (hv : RoadKit.Has V vs (.int 0)) : Cod cd cs.length (fun j => cs.getD j 0) V := by
  rcases h with ⟨rfl, rfl, rfl, h⟩ | ⟨rfl, rfl, rfl, c, hc, hw⟩
  · rw [n32 (by omega)] at hs
    exact Or.inl ⟨rfl, hs, fun j hj => ⟨by rw [hv j (by omega), low_at _ _ _ hj], by
      have e : cs.getD j 0 = cs[j] := by simp [List.getD_eq_getElem?_getD, hj]
      show ¬ 255 < cs.getD j 0
      rw [e]; exact h _ (List.getElem_mem _)⟩⟩
  · rw [n32 (by omega)] at hs
    obtain ⟨j, hj, rfl⟩ := List.getElem_of_mem hc
    exact Or.inr ⟨rfl, hs, fun j hj => ⟨by rw [hv _ (by omega), wide_lo _ _ _ hj], by rw [hv _ (by omega), wide_hi _ _ _ hj]⟩, j, hj, by
      have e : cs.getD j 0 = cs[j] := by simp [List.getD_eq_getElem?_getD, hj]
      show 255 < cs.getD j 0
      rw [e]; exact hw⟩
/-- an object of exactly java/lang/String, its two fields found: as the laws ask it -/
theorem strObj {Z U : State} {a0 : Array Value} {kI : Nat} (wi : (Jvm.Cond.instantiable ST kI).before a0 Z = true) (al : Z.vm.Alike U.vm) {x : Addr} {v0 c0 : Value} (E : RoadKit.Exa Z U.heap x ST) (V : RoadKit.Fld Z U.heap x ST "value" "[B" v0) (C : RoadKit.Fld Z U.heap x ST "coder" "B" c0) :
    ∃ (D : Cell) (fV fC : Field), Blank ST x D U ∧ Found ST "value" "[B" fV U ∧ Found ST "coder" "B" fC U ∧ D.slots[fV.slot]? = some v0 ∧ D.slots[fC.slot]? = some c0 ∧ RoadKit.slotOf Z ST "value" "[B" = fV.slot ∧ RoadKit.slotOf Z ST "coder" "B" = fC.slot := by
  obtain ⟨D, cfV, kV, iV, fV, hD, gV, stV, knV, obV, asV, slV⟩ := V
  obtain ⟨D', cfC, kC, iC, fC, hD', gC, stC, -, -, asC, slC⟩ := C
  cases hD.symm.trans hD'
  obtain ⟨D2, kD, e1, e2, e3, e4, e5⟩ := E
  cases hD.symm.trans e1
  obtain ⟨c2, k2, i1, i2, i3, -⟩ := Cond.instantiable_spec wi
  cases e2.symm.trans i1
  cases e3.symm.trans i2
  obtain ⟨kU, u1, u2⟩ := al.2.2 _ _ e3
  exact ⟨D, fV, fC, ⟨hD, ⟨knV, fun q hq => by rw [hq] at obV; cases obV⟩, by rw [al.findClass]; exact e2, kU, u1, by rw [u2]; exact i3, by rw [u2]; exact e5 i3⟩, ⟨SBG.found_only al ⟨cfV, kV, iV, gV⟩, stV⟩, ⟨SBG.found_only al ⟨cfC, kC, iC, gC⟩, stC⟩, slV, slC, by simp [RoadKit.slotOf, gV], by simp [RoadKit.slotOf, gC]⟩
theorem sta_is {Z U : State} (al : Z.vm.Alike U.vm) {C n d : String} {v : Value} (S : RoadKit.Sta Z U.heap C n d v) : StaticIs U C n d v := by
  obtain ⟨cfS, iS, kS, fS, st, cS, t1, t2, t3, t4, t5, t6, t7⟩ := S
  exact StaticIs.there (s := { Z with heap := U.heap }) ⟨cfS, iS, kS, fS, st, cS, t1, t2, t3, t4, t5, (fun q => by rw [q] at t6; cases t6), t7⟩ al rfl
/-- **length() OF SUCH A STRING** -/
theorem lenW {p : Program} {l : Launch} {e : Env} {R : Room} {s : State} {args : Array Value} {below : List Frame} {len W : Nat} {Z : State} {a0 : Array Value} {h : Heap} (hZ : Z.Warmed39 s.vm) (hw : ∀ d ∈ wordsLen, d.before a0 Z = true) {kI : Nat} (wi : (Jvm.Cond.instantiable ST kI).before a0 Z = true)
    {x t : Addr} {kb : ClassId} {cs : List Int32} {cd N2 z : Int32} {vs : List Value} (E : RoadKit.Exa Z h x ST) (V : RoadKit.Fld Z h x ST "value" "[B" (.ref t)) (C : RoadKit.Fld Z h x ST "coder" "B" (.int cd)) (K : RoadKit.Arv Z h t kb .byte N2 vs (.int 0)) (hc : CodA cs cd N2 vs) (hb : ∀ c ∈ cs, ¬ c < 0 ∧ ¬ (65535 : Int32) < c)
    (S : RoadKit.Sta Z h ST "COMPACT_STRINGS" "Z" (.int z)) (hz : ¬ z = 0) (l2 : cs.length ≤ 4000) (hfr : 2 ≤ R.frames) (hlo : W + 25 ≤ R.locals) :
    Back l R p e below s args (⟨"java/lang/String", "length", "()I"⟩ : MethodName) len W (fun P a => a = #[.ref x] ∧ P.U.heap = h ∧ P.cells + 0 ≤ R.cells ∧ P.slots + 0 ≤ R.slots)
      (fun P _ v B => ∃ L, (v = some (.int (Int32.ofNat cs.length)) ∧ L = [] ∧ B.U.heap = h) ∧ B.locs = P.locs ++ L ∧ B.cells = P.cells + 0 ∧ B.slots = P.slots + 0) := by
  obtain ⟨A, K1, K2, K3, K4, K5, K6⟩ := K
  have hcod := hc.cod (by omega) K3 K5
  intro m meth c P g ig mk a X hg hsize hdg hW hn hp'
  obtain ⟨rfl, rfl, r1, r2⟩ := hp'
  have al : Z.vm.Alike P.U.vm := hZ.alike.trans X.warmed.alike
  obtain ⟨D, fV, fC, hB, F1, F2, g1, g2, -, -⟩ := strObj wi al E V C
  have hx : Txt x t A cd cs.length (fun j => cs.getD j 0) P.U := ⟨⟨_, hB.2.2.1, D, hB.1, rfl, by cases q : D.vm <;> first | rfl | exact absurd q (hB.2.1.2 _)⟩, Has.of hB F1 g1, Has.of hB F2 g2, ⟨K1.1, State.isArrayOf_alike al K1.2.1, K1.2.2, by rcases hcod with ⟨-, q, -⟩ | ⟨-, q, -⟩ <;> omega⟩, hcod, fun j hj => by
    have e : cs.getD j 0 = cs[j] := by simp [List.getD_eq_getElem?_getD, hj]
    show ¬ cs.getD j 0 < 0 ∧ ¬ 65535 < cs.getD j 0
    rw [e]; exact hb _ (List.getElem_mem _)⟩
  obtain ⟨v, B, X', ⟨⟨hv, hh⟩, hl, hk, hs⟩, st⟩ := Len.pays x t A cd cs.length (fun j => cs.getD j 0) z (tabLen_of (movedLen hZ hw)) hfr hlo m meth c P g ig mk _ X hg hsize hdg hW hn ⟨r1, r2, rfl, hx, sta_is al S, hz⟩
  exact ⟨v, B, X', ⟨[], ⟨hv, rfl, hh⟩, hl, hk, hs⟩, st⟩
end StrChars.Road
namespace StrChars
open Jvm Sem ClassFile Op Lib Jvm.Stand Jvm.Free.XT Jvm.Free.ALB Jvm.Free.JM Jvm.Free
open Jvm.Lib.Cold (StaticIs)
namespace Emp
def yN : MethodName := ⟨"java/lang/String", "isEmpty", "()Z"⟩
abbrev yB : ByteArray := jdk_42_method_55_code
theorem d0 : decode yB 0 = .ok (.aload_n 0, 1) := by decide +kernel
theorem d1 : decode yB 1 = .ok (.getfield 9, 3) := by decide +kernel
theorem d4 : decode yB 4 = .ok (.arraylength, 1) := by decide +kernel
theorem d5 : decode yB 5 = .ok (.ifCond (.ne) 7, 3) := by decide +kernel
theorem d8 : decode yB 8 = .ok (.iconst 1, 1) := by decide +kernel
theorem d9 : decode yB 9 = .ok (.goto 4, 3) := by decide +kernel
theorem d12 : decode yB 12 = .ok (.iconst 0, 1) := by decide +kernel
theorem d13 : decode yB 13 = .ok (.ireturn, 1) := by decide +kernel
def site : List Cond := [.fieldLink "java/lang/String" 9 "java/lang/String" "value" "[B"]
def tab : Cond := tabOf yN yB 1 (some .boolean) site
def P (x t : Addr) (V : Cell) (cd : Int32) (n : Nat) (f : Nat → Int32) (args : Array Value) (s : State) : Prop := args = #[.ref x] ∧ Txt x t V cd n f s
def E (n : Nat) (r : Option Value) (s u : State) : Prop := XT.PureE (some (.int (if n = 0 then 1 else 0))) r s u
/-- isEmpty() of a String of n chars -/
theorem law (l : Launch) (x t : Addr) (V : Cell) (cd : Int32) (n : Nat) (f : Nat → Int32) : Law l yN 1 0 0 0 yB 1 (some .boolean) site (P x t V cd n f) (E n) [] 0 0 := by
  refine Law.of_walk (plainFor_of_name (by decide +kernel)) (by decide +kernel) (by decide +kernel) (by decide) (fun _ _ h => by rw [h.1]; rfl) (fun _ U U' hal hh h => ⟨h.1, h.2.mv hal hh⟩) (fun r U U' V V' h1 hal h2 h => XT.PureE.mv r U U' V V' h1 hal h2 h) ?_
  intro p e s m args below meth c s₁ X0 hexec hbytes hml hret hlk hnm hown hh0 W hP
  obtain ⟨rfl, hx⟩ := hP
  have v31 := hx.2.2.2.1.2.2.2
  have c1 : Steps p.tables e below (s₁.setTop (entryFrame m #[.ref x] 1)) (s₁.setTop (mkF m 1 #[.val (.ref x)] [.ref x])) := Steps.trans (entry rfl) (by
    show Steps p.tables e below (s₁.setTop (mkF m 0 #[.val (.ref x)] [])) _
    refine XS.aloadN X0.here hexec rfl (hb hbytes d0) rfl rfl ?_
    exact Steps.refl _)
  obtain ⟨T2, X2, q2, st2⟩ := X0.hget hexec hown (wk W (.fieldLink "java/lang/String" 9 "java/lang/String" "value" "[B")) (hx.mv X0.warmed.alike hh0).2.1 (g := (mkF m 1 #[.val (.ref x)] [.ref x])) rfl (rest := []) rfl (hb hbytes d1)
  have hh2 := q2.trans hh0
  have hx2 := hx.mv X2.warmed.alike hh2
  have c3 : Steps p.tables e below (s₁.setTop (entryFrame m #[.ref x] 1)) (T2.setTop (mkF m 5 #[.val (.ref x)] [.int (Int32.ofNat V.slots.size)])) := (c1.trans (st2 _ (Steps.refl _))).trans (by
    refine X2.alen hexec hx2.2.2.2.1 rfl rfl (hb hbytes d4) ?_
    exact Steps.refl _)
  have hz : V.slots.size = 0 ↔ n = 0 := by
    rcases hx.2.2.2.2.1 with ⟨-, q, -⟩ | ⟨-, q, -⟩ <;> omega
  by_cases h0 : n = 0
  · have c4 : Steps p.tables e below (s₁.setTop (entryFrame m #[.ref x] 1)) (T2.setTop (mkF m 13 #[.val (.ref x)] [.int 1])) := c3.trans (by
      refine XS.ifNo X2.here hexec rfl (hb hbytes d5) rfl (i0_ne_f (by rw [hz.mpr h0]; rfl)) ?_
      refine iconstV X2.here hexec rfl 1 (hb hbytes d8) (by decide) ?_
      refine XS.goto X2.here hexec rfl (pc0 := 9) rfl (hb hbytes d9) (by decide) rfl ?_
      exact Steps.refl _)
    exact ⟨T2, some (.int 1), _, _, _, X2, rfl, rfl, rfl, (fun h => by cases h), ⟨by rw [if_pos h0], hh2⟩, fun fs hl => c4.trans (X2.ireturnOut hexec hret rfl (Or.inr (Or.inl rfl)) (hb hbytes d13) hl)⟩
  · have c4 : Steps p.tables e below (s₁.setTop (entryFrame m #[.ref x] 1)) (T2.setTop (mkF m 13 #[.val (.ref x)] [.int 0])) := c3.trans (by
      refine XS.ifYes X2.here hexec rfl (pc0 := 5) rfl (hb hbytes d5) rfl (i0_ne_t (nz32 v31 (by omega))) (by decide) rfl ?_
      refine iconstV X2.here hexec rfl 0 (hb hbytes d12) (by decide) ?_
      exact Steps.refl _)
    exact ⟨T2, some (.int 0), _, _, _, X2, rfl, rfl, rfl, (fun h => by cases h), ⟨by rw [if_neg h0], hh2⟩, fun fs hl => c4.trans (X2.ireturnOut hexec hret rfl (Or.inr (Or.inl rfl)) (hb hbytes d13) hl)⟩
theorem pays {l : Launch} {R : Room} {p : Program} {e : Env} {below : List Frame} {s : State} {sargs : Array Value} {len W : Nat} (x t : Addr) (V : Cell) (cd : Int32) (n : Nat) (f : Nat → Int32) (htab : tab.before sargs s = true) (hfr : 1 ≤ R.frames) (hlo : W + 12 ≤ R.locals) :
    Back l R p e below s sargs yN len W (fun A₁ a₁ => A₁.cells + 0 ≤ R.cells ∧ A₁.slots + 0 ≤ R.slots ∧ P x t V cd n f a₁ A₁.U) (fun A₁ _ v₁ B₁ => E n v₁ A₁.U B₁.U ∧ B₁.locs = A₁.locs ++ [] ∧ B₁.cells = A₁.cells + 0 ∧ B₁.slots = A₁.slots + 0) :=
  (law l x t V cd n f).pays htab hfr (by omega)
end Emp
/-- what place i of a byte[]'s cell holds -/
def yv (A : Cell) (i : Nat) : Int32 := match A.slots[i]? with | some (.int x) => x | _ => 0
theorem yv_get {a : Addr} {A : Cell} {U : State} (h : XT.Arr .byte a A U) (ht : Typed .byte A) {i : Nat} (hi : i < A.slots.size) : A.slots[i]? = some (.int (yv A i)) := by
  have e := Array.getElem?_eq_getElem hi
  have f := ht i _ e
  unfold yv; rw [e]
  generalize A.slots[i] = v at f
  cases v <;> simp [fits] at f ⊢
/-- the two arrays are equal, place for place -/
def EqC (A B : Cell) : Prop := A.slots.size = B.slots.size ∧ ∀ i, i < A.slots.size → yv A i = yv B i
/-- a boolean that says whether p -/
def Says01 (q : Prop) (r : Option Value) (s u : State) : Prop := ∃ v : Int32, r = some (.int v) ∧ u.heap = s.heap ∧ ((v = 1 ∧ q) ∨ (v = 0 ∧ ¬ q))
theorem Says01.mv {q : Prop} : ∀ r (U U' V V' : State), U'.heap = U.heap → V.vm.Alike V'.vm → V'.heap = V.heap → Says01 q r U V → Says01 q r U' V' :=
  fun r U U' V V' h1 _ h2 ⟨v, a, b, c⟩ => ⟨v, a, by rw [h1, h2]; exact b, c⟩
namespace LEq
def yN : MethodName := ⟨"java/lang/StringLatin1", "equals", "([B[B)Z"⟩
abbrev yB : ByteArray := jdk_43_method_13_code
theorem d0 : decode yB 0 = .ok (.aload_n 0, 1) := by decide +kernel
theorem d1 : decode yB 1 = .ok (.arraylength, 1) := by decide +kernel
theorem d2 : decode yB 2 = .ok (.aload_n 1, 1) := by decide +kernel
theorem d3 : decode yB 3 = .ok (.arraylength, 1) := by decide +kernel
theorem d4 : decode yB 4 = .ok (.if_icmp (.ne) 30, 3) := by decide +kernel
theorem d7 : decode yB 7 = .ok (.iconst 0, 1) := by decide +kernel
theorem d8 : decode yB 8 = .ok (.istore_n 2, 1) := by decide +kernel
theorem d9 : decode yB 9 = .ok (.iload_n 2, 1) := by decide +kernel
theorem d10 : decode yB 10 = .ok (.aload_n 0, 1) := by decide +kernel
theorem d11 : decode yB 11 = .ok (.arraylength, 1) := by decide +kernel
theorem d12 : decode yB 12 = .ok (.if_icmp (.ge) 20, 3) := by decide +kernel
theorem d15 : decode yB 15 = .ok (.aload_n 0, 1) := by decide +kernel
theorem d16 : decode yB 16 = .ok (.iload_n 2, 1) := by decide +kernel
theorem d17 : decode yB 17 = .ok (.baload, 1) := by decide +kernel
theorem d18 : decode yB 18 = .ok (.aload_n 1, 1) := by decide +kernel
theorem d19 : decode yB 19 = .ok (.iload_n 2, 1) := by decide +kernel
theorem d20 : decode yB 20 = .ok (.baload, 1) := by decide +kernel
theorem d21 : decode yB 21 = .ok (.if_icmp (.eq) 5, 3) := by decide +kernel
theorem d24 : decode yB 24 = .ok (.iconst 0, 1) := by decide +kernel
theorem d25 : decode yB 25 = .ok (.ireturn, 1) := by decide +kernel
theorem d26 : decode yB 26 = .ok (.iinc 2 1, 3) := by decide +kernel
theorem d29 : decode yB 29 = .ok (.goto (-20), 3) := by decide +kernel
theorem d32 : decode yB 32 = .ok (.iconst 1, 1) := by decide +kernel
theorem d33 : decode yB 33 = .ok (.ireturn, 1) := by decide +kernel
theorem d34 : decode yB 34 = .ok (.iconst 0, 1) := by decide +kernel
theorem d35 : decode yB 35 = .ok (.ireturn, 1) := by decide +kernel
def site : List Cond := []
def tab : Cond := tabOf yN yB 3 (some .boolean) site
def P (a : Addr) (A : Cell) (b : Addr) (B : Cell) (args : Array Value) (s : State) : Prop := args = #[.ref a, .ref b] ∧ XT.Arr .byte a A s ∧ Typed .byte A ∧ XT.Arr .byte b B s ∧ Typed .byte B
/-- whether two byte[] are equal, place for place -/
theorem law (l : Launch) (a : Addr) (A : Cell) (b : Addr) (B : Cell) : Law l yN 2 2 0 0 yB 3 (some .boolean) site (P a A b B) (Says01 (EqC A B)) [] 0 0 := by
  refine Law.of_walk (plainFor_of_name (by decide +kernel)) (by decide +kernel) (by decide +kernel) (by decide) (fun _ _ h => by rw [h.1]; rfl) (fun _ U U' hal hh h => ⟨h.1, h.2.1.mv hal hh, h.2.2.1, h.2.2.2.1.mv hal hh, h.2.2.2.2⟩) (fun r U U' V V' h1 hal h2 h => Says01.mv r U U' V V' h1 hal h2 h) ?_
  intro p e s m args below meth c s₁ X0 hexec hbytes hml hret hlk hnm hown hh0 W hP
  obtain ⟨rfl, hA, tA, hB, tB⟩ := hP
  have a31 := hA.2.2.2
  have b31 := hB.2.2.2
  have hA0 := hA.mv X0.warmed.alike hh0
  have hB0 := hB.mv X0.warmed.alike hh0
  have c1 : Steps p.tables e below (s₁.setTop (entryFrame m #[.ref a, .ref b] 3)) (s₁.setTop (mkF m 0 #[.val (.ref a), .val (.ref b), .unset] [])) := entry rfl
  have c2 : Steps p.tables e below (s₁.setTop (entryFrame m #[.ref a, .ref b] 3)) (s₁.setTop (mkF m 4 #[.val (.ref a), .val (.ref b), .unset] [.int (Int32.ofNat B.slots.size), .int (Int32.ofNat A.slots.size)])) := c1.trans (by
    refine XS.aloadN X0.here hexec rfl (hb hbytes d0) rfl rfl ?_
    refine X0.alen hexec hA0 rfl rfl (hb hbytes d1) ?_
    refine XS.aloadN X0.here hexec rfl (hb hbytes d2) rfl rfl ?_
    refine X0.alen hexec hB0 rfl rfl (hb hbytes d3) ?_
    exact Steps.refl _)
  by_cases hs : A.slots.size = B.slots.size
  · have c3 : Steps p.tables e below (s₁.setTop (entryFrame m #[.ref a, .ref b] 3)) (s₁.setTop (mkF m 9 #[.val (.ref a), .val (.ref b), .val (.int 0)] [])) := c2.trans (by
      refine XS.icmpNo X0.here hexec rfl (hb hbytes d4) rfl (ii_ne_f (by rw [hs])) ?_
      refine iconstV X0.here hexec rfl 0 (hb hbytes d7) (by decide) ?_
      refine XS.istoreN X0.here hexec rfl (hb hbytes d8) rfl rfl ?_
      exact Steps.refl _)
    have loop : ∀ (r i : Nat), i + r = A.slots.size → (∀ j, j < i → yv A j = yv B j) → Steps p.tables e below (s₁.setTop (entryFrame m #[.ref a, .ref b] 3)) (s₁.setTop (mkF m 9 #[.val (.ref a), .val (.ref b), .val (.int (Int32.ofNat i))] [])) → ∃ (pc : Nat) (Ls : Array Slot) (v : Int32), (pc = 25 ∨ pc = 33) ∧ ((v = 1 ∧ EqC A B) ∨ (v = 0 ∧ ¬ EqC A B)) ∧ Steps p.tables e below (s₁.setTop (entryFrame m #[.ref a, .ref b] 3)) (s₁.setTop (mkF m pc Ls [.int v])) := by
      intro r
      induction r with
      | zero =>
        intro i hi he cl
        exact ⟨33, _, 1, Or.inr rfl, Or.inl ⟨rfl, hs, fun j hj => he j (by omega)⟩, cl.trans (by
          refine XS.iloadN X0.here hexec rfl (hb hbytes d9) rfl ?_
          refine XS.aloadN X0.here hexec rfl (hb hbytes d10) rfl rfl ?_
          refine X0.alen hexec hA0 rfl rfl (hb hbytes d11) ?_
          refine XS.icmpYes X0.here hexec rfl (pc0 := 12) rfl (hb hbytes d12) rfl (ii_ge_t (nlt32 (by omega) (by omega))) (by decide) rfl ?_
          refine iconstV X0.here hexec rfl 1 (hb hbytes d32) (by decide) ?_
          exact Steps.refl _)⟩
      | succ r ih =>
        intro i hi he cl
        have c4 : Steps p.tables e below (s₁.setTop (entryFrame m #[.ref a, .ref b] 3)) (s₁.setTop (mkF m 21 #[.val (.ref a), .val (.ref b), .val (.int (Int32.ofNat i))] [.int (yv B i), .int (yv A i)])) := cl.trans (by
          refine XS.iloadN X0.here hexec rfl (hb hbytes d9) rfl ?_
          refine XS.aloadN X0.here hexec rfl (hb hbytes d10) rfl rfl ?_
          refine X0.alen hexec hA0 rfl rfl (hb hbytes d11) ?_
          refine XS.icmpNo X0.here hexec rfl (hb hbytes d12) rfl (ii_ge_f (lt32 (by omega) (by omega))) ?_
          refine XS.aloadN X0.here hexec rfl (hb hbytes d15) rfl rfl ?_
          refine XS.iloadN X0.here hexec rfl (hb hbytes d16) rfl ?_
          refine X0.aget hexec hA0 rfl (yv_get hA tA (i := i) (by omega)) rfl rfl (hb hbytes d17) ?_
          refine XS.aloadN X0.here hexec rfl (hb hbytes d18) rfl rfl ?_
          refine XS.iloadN X0.here hexec rfl (hb hbytes d19) rfl ?_
          refine X0.aget hexec hB0 rfl (yv_get hB tB (i := i) (by omega)) rfl rfl (hb hbytes d20) ?_
          exact Steps.refl _)
        by_cases hv : yv A i = yv B i
        · have c5 : Steps p.tables e below (s₁.setTop (entryFrame m #[.ref a, .ref b] 3)) (s₁.setTop (mkF m 9 #[.val (.ref a), .val (.ref b), .val (.int (Int32.ofNat i + 1))] [])) := c4.trans (by
            refine XS.icmpYes X0.here hexec rfl (pc0 := 21) rfl (hb hbytes d21) rfl (ii_eq_t hv) (by decide) rfl ?_
            refine iincV X0.here hexec rfl 1 (hb hbytes d26) (by decide) rfl rfl ?_
            refine XS.goto X0.here hexec rfl (pc0 := 29) rfl (hb hbytes d29) (by decide) rfl ?_
            exact Steps.refl _)
          rw [succ32] at c5
          exact ih (i + 1) (by omega) (fun j hj => by
            by_cases e : j = i
            · rw [e]; exact hv
            · exact he j (by omega)) c5
        · exact ⟨25, _, 0, Or.inl rfl, Or.inr ⟨rfl, fun q => hv (q.2 i (by omega))⟩, c4.trans (by
            refine XS.icmpNo X0.here hexec rfl (hb hbytes d21) rfl (ii_eq_f hv) ?_
            refine iconstV X0.here hexec rfl 0 (hb hbytes d24) (by decide) ?_
            exact Steps.refl _)⟩
    obtain ⟨pc, Ls, v, hpc, hv, cz⟩ := loop A.slots.size 0 (by omega) (fun j hj => absurd hj (Nat.not_lt_zero j)) c3
    have nv : narrow .boolean (.int v) = .int v := by rcases hv with ⟨rfl, -⟩ | ⟨rfl, -⟩ <;> rfl
    rcases hpc with rfl | rfl
    · exact ⟨s₁, some (.int v), _, _, _, X0, rfl, rfl, rfl, (fun h => by cases h), ⟨v, rfl, hh0, hv⟩, fun fs hl => cz.trans (X0.ireturnOut hexec hret nv (Or.inr (Or.inl rfl)) (hb hbytes d25) hl)⟩
    · exact ⟨s₁, some (.int v), _, _, _, X0, rfl, rfl, rfl, (fun h => by cases h), ⟨v, rfl, hh0, hv⟩, fun fs hl => cz.trans (X0.ireturnOut hexec hret nv (Or.inr (Or.inl rfl)) (hb hbytes d33) hl)⟩
  · have c3 : Steps p.tables e below (s₁.setTop (entryFrame m #[.ref a, .ref b] 3)) (s₁.setTop (mkF m 35 #[.val (.ref a), .val (.ref b), .unset] [.int 0])) := c2.trans (by
      refine XS.icmpYes X0.here hexec rfl (pc0 := 4) rfl (hb hbytes d4) rfl (ii_ne_t (ne32 a31 b31 hs)) (by decide) rfl ?_
      refine iconstV X0.here hexec rfl 0 (hb hbytes d34) (by decide) ?_
      exact Steps.refl _)
    exact ⟨s₁, some (.int 0), _, _, _, X0, rfl, rfl, rfl, (fun h => by cases h), ⟨0, rfl, hh0, Or.inr ⟨rfl, fun q => hs q.1⟩⟩, fun fs hl => c3.trans (X0.ireturnOut hexec hret rfl (Or.inr (Or.inl rfl)) (hb hbytes d35) hl)⟩
end LEq
theorem Cod.ty {cd : Int32} {n : Nat} {f : Nat → Int32} {V : Cell} (h : Cod cd n f V) : Typed .byte V := fun i v hv => by
  have hi : i < V.slots.size := (Array.getElem?_eq_some_iff.mp hv).1
  rcases h with ⟨-, k1, k2⟩ | ⟨-, k1, k2, -⟩
  · rw [(k2 i (by omega)).1] at hv; cases hv; exact fits_lo8 _
  · rcases Nat.mod_two_eq_zero_or_one i with e | e
    · obtain ⟨j, rfl⟩ : ∃ j, i = 2 * j := ⟨i / 2, by omega⟩
      rw [(k2 j (by omega)).1] at hv; cases hv; exact fits_lo8 _
    · obtain ⟨j, rfl⟩ : ∃ j, i = 2 * j + 1 := ⟨i / 2, by omega⟩
      rw [(k2 j (by omega)).2] at hv; cases hv; exact fits_lo8 _
/-- the same text -/
def SameT (n : Nat) (f : Nat → Int32) (k : Nat) (g : Nat → Int32) : Prop := n = k ∧ ∀ j, j < n → f j = g j
theorem lo8_inj {x y : Int32} (h0 : ¬ x < 0) (h1 : ¬ 255 < x) (k0 : ¬ y < 0) (k1 : ¬ 255 < y) (h : lo8 x = lo8 y) : x = y := by
  rw [← lo8_mask h0 h1, ← lo8_mask k0 k1, h]
/-- arrays coded by one coder are equal just where the texts are -/
theorem Cod.eqv {cd : Int32} {n k : Nat} {f g : Nat → Int32} {V V' : Cell} (h : Cod cd n f V) (h' : Cod cd k g V') (hf : ∀ j, j < n → ¬ f j < 0 ∧ ¬ 65535 < f j) (hg : ∀ j, j < k → ¬ g j < 0 ∧ ¬ 65535 < g j) : EqC V V' ↔ SameT n f k g := by
  have yvv : ∀ {W : Cell} {i : Nat} {x : Int32}, W.slots[i]? = some (.int x) → yv W i = x := fun q => by unfold yv; rw [q]
  rcases h with ⟨rfl, k1, k2⟩ | ⟨rfl, k1, k2, -⟩
  · rcases h' with ⟨-, m1, m2⟩ | ⟨e, -⟩
    · constructor
      · rintro ⟨e1, e2⟩
        refine ⟨by omega, fun j hj => ?_⟩
        have q := e2 j (by omega)
        rw [yvv (k2 j hj).1, yvv (m2 j (by omega)).1] at q
        exact lo8_inj (hf j hj).1 (k2 j hj).2 (hg j (by omega)).1 (m2 j (by omega)).2 q
      · rintro ⟨rfl, e2⟩
        refine ⟨by omega, fun j hj => ?_⟩
        rw [yvv (k2 j (by omega)).1, yvv (m2 j (by omega)).1, e2 j (by omega)]
    · exact absurd e (by decide)
  · rcases h' with ⟨e, -⟩ | ⟨-, m1, m2, -⟩
    · exact absurd e (by decide)
    · constructor
      · rintro ⟨e1, e2⟩
        refine ⟨by omega, fun j hj => ?_⟩
        have q1 := e2 (2 * j) (by omega)
        have q2 := e2 (2 * j + 1) (by omega)
        rw [yvv (k2 j hj).1, yvv (m2 j (by omega)).1] at q1
        rw [yvv (k2 j hj).2, yvv (m2 j (by omega)).2] at q2
        rw [← pair_says (hf j hj).1 (hf j hj).2, ← pair_says (hg j (by omega)).1 (hg j (by omega)).2, q1, q2]
      · rintro ⟨rfl, e2⟩
        refine ⟨by omega, fun i hi => ?_⟩
        rcases Nat.mod_two_eq_zero_or_one i with e | e
        · obtain ⟨j, rfl⟩ : ∃ j, i = 2 * j := ⟨i / 2, by omega⟩
          rw [yvv (k2 j (by omega)).1, yvv (m2 j (by omega)).1, e2 j (by omega)]
        · obtain ⟨j, rfl⟩ : ∃ j, i = 2 * j + 1 := ⟨i / 2, by omega⟩
          rw [yvv (k2 j (by omega)).2, yvv (m2 j (by omega)).2, e2 j (by omega)]
/-- two codings differ: so do the texts -/
theorem Cod.dif {cd cd' : Int32} {n k : Nat} {f g : Nat → Int32} {V V' : Cell} (h : Cod cd n f V) (h' : Cod cd' k g V') (hne : ¬ cd = cd') : ¬ SameT n f k g := by
  rintro ⟨rfl, e⟩
  rcases h with ⟨rfl, -, k2⟩ | ⟨rfl, -, -, j, hj, hw⟩
  · rcases h' with ⟨rfl, -⟩ | ⟨-, -, -, j, hj, hw⟩
    · exact hne rfl
    · exact (k2 j hj).2 (by rw [e j hj]; exact hw)
  · rcases h' with ⟨-, -, m2⟩ | ⟨rfl, -⟩
    · exact (m2 j hj).2 (by rw [← e j hj]; exact hw)
    · exact hne rfl
/-- an object of exactly C is an instance of C -/
theorem cinst {p : Program} {l : Launch} {e : Env} {R : Room} {s : State} {m : MethodId} {args : Array Value} {below : List Frame} {meth : Method} {c : Code} {T : State} {locs : List Loc} {cells slots : Nat} (X : Stand p l e R s m args below meth c T locs cells slots) (hexec : p.tables.exec = Jvm.exec) {own C : String} {index : Nat} (hown : s.vm.findClass own = some m.cls) (hlink : (Cond.classLink own index C).before args s = true) {a : Addr} (hE : Exact C a T)
    {g : JFrame} (hg : g.method = m) {rest : List Value} (hstack : g.stack = .ref a :: rest) (hdg : decode c.code g.pc = .ok (.instanceof index, 3)) :
    ∃ T', Stand p l e R s m args below meth c T' locs cells slots ∧ T'.heap = T.heap ∧ ∀ target, Steps p.tables e below (T'.setTop { g with pc := g.pc + 3, stack := .int 1 :: rest }) target → Steps p.tables e below (T.setTop g) target := by
  obtain ⟨cB, h1, D, h2, h3, h4⟩ := hE
  have h1' : s.vm.findClass C = some cB := by rw [← X.warmed.alike.findClass]; exact h1
  obtain ⟨vm', X', st⟩ := X.instanceofYes hexec hown hlink h2 h4 h1' (by rw [h3]; exact Jvm.Free.SB.assignable_self _ _) hg hstack hdg
  exact ⟨_, X', rfl, st⟩
theorem cself {p : Program} {l : Launch} {e : Env} {R : Room} {s : State} {m : MethodId} {args : Array Value} {below : List Frame} {meth : Method} {c : Code} {T : State} {locs : List Loc} {cells slots : Nat} (X : Stand p l e R s m args below meth c T locs cells slots) (hexec : p.tables.exec = Jvm.exec) {own C : String} {index : Nat} (hown : s.vm.findClass own = some m.cls) (hlink : (Cond.classLink own index C).before args s = true) {a : Addr} (hE : Exact C a T)
    {g : JFrame} (hg : g.method = m) {rest : List Value} (hstack : g.stack = .ref a :: rest) (hdg : decode c.code g.pc = .ok (.checkcast index, 3)) :
    ∃ T', Stand p l e R s m args below meth c T' locs cells slots ∧ T'.heap = T.heap ∧ ∀ target, Steps p.tables e below (T'.setTop { g with pc := g.pc + 3, stack := .ref a :: rest }) target → Steps p.tables e below (T.setTop g) target := by
  obtain ⟨cB, h1, D, h2, h3, h4⟩ := hE
  have h1' : s.vm.findClass C = some cB := by rw [← X.warmed.alike.findClass]; exact h1
  obtain ⟨vm', X', st⟩ := X.checkcastYes hexec hown hlink h2 h4 h1' (by rw [h3]; exact Jvm.Free.SB.assignable_self _ _) hg hstack hdg
  exact ⟨_, X', rfl, fun t h => st t (by rw [← hstack] at h; exact h)⟩
namespace SEq
def yN : MethodName := ⟨"java/lang/String", "equals", "(Ljava/lang/Object;)Z"⟩
abbrev yB : ByteArray := jdk_42_method_66_code
theorem d0 : decode yB 0 = .ok (.aload_n 0, 1) := by decide +kernel
theorem d1 : decode yB 1 = .ok (.aload_n 1, 1) := by decide +kernel
theorem d2 : decode yB 2 = .ok (.if_acmp (.ne) 5, 3) := by decide +kernel
theorem d5 : decode yB 5 = .ok (.iconst 1, 1) := by decide +kernel
theorem d6 : decode yB 6 = .ok (.ireturn, 1) := by decide +kernel
theorem d7 : decode yB 7 = .ok (.aload_n 1, 1) := by decide +kernel
theorem d8 : decode yB 8 = .ok (.instanceof 10, 3) := by decide +kernel
theorem d11 : decode yB 11 = .ok (.ifCond (.eq) 43, 3) := by decide +kernel
theorem d14 : decode yB 14 = .ok (.aload_n 1, 1) := by decide +kernel
theorem d15 : decode yB 15 = .ok (.checkcast 10, 3) := by decide +kernel
theorem d18 : decode yB 18 = .ok (.astore_n 2, 1) := by decide +kernel
theorem d19 : decode yB 19 = .ok (.getstatic 38, 3) := by decide +kernel
theorem d22 : decode yB 22 = .ok (.ifCond (.eq) 14, 3) := by decide +kernel
theorem d25 : decode yB 25 = .ok (.aload_n 0, 1) := by decide +kernel
theorem d26 : decode yB 26 = .ok (.getfield 15, 3) := by decide +kernel
theorem d29 : decode yB 29 = .ok (.aload_n 2, 1) := by decide +kernel
theorem d30 : decode yB 30 = .ok (.getfield 15, 3) := by decide +kernel
theorem d33 : decode yB 33 = .ok (.if_icmp (.ne) 21, 3) := by decide +kernel
theorem d36 : decode yB 36 = .ok (.aload_n 0, 1) := by decide +kernel
theorem d37 : decode yB 37 = .ok (.getfield 9, 3) := by decide +kernel
theorem d40 : decode yB 40 = .ok (.aload_n 2, 1) := by decide +kernel
theorem d41 : decode yB 41 = .ok (.getfield 9, 3) := by decide +kernel
theorem d44 : decode yB 44 = .ok (.invokestatic 541, 3) := by decide +kernel
theorem d47 : decode yB 47 = .ok (.ifCond (.eq) 7, 3) := by decide +kernel
theorem d50 : decode yB 50 = .ok (.iconst 1, 1) := by decide +kernel
theorem d51 : decode yB 51 = .ok (.goto 4, 3) := by decide +kernel
theorem d54 : decode yB 54 = .ok (.iconst 0, 1) := by decide +kernel
theorem d55 : decode yB 55 = .ok (.ireturn, 1) := by decide +kernel
def site : List Cond := [.classLink "java/lang/String" 10 "java/lang/String", .fieldLink "java/lang/String" 38 "java/lang/String" "COMPACT_STRINGS" "Z", .fieldLink "java/lang/String" 15 "java/lang/String" "coder" "B", .fieldLink "java/lang/String" 9 "java/lang/String" "value" "[B", LEq.tab] ++ staticW "java/lang/String" 541 LEq.yN
def tab : Cond := tabOf yN yB 3 (some .boolean) site
def P (x t : Addr) (V : Cell) (cd : Int32) (n : Nat) (f : Nat → Int32) (y t' : Addr) (V' : Cell) (cd' : Int32) (k : Nat) (g : Nat → Int32) (z : Int32) (args : Array Value) (s : State) : Prop := args = #[.ref x, .ref y] ∧ Txt x t V cd n f s ∧ Txt y t' V' cd' k g s ∧ StaticIs s "java/lang/String" "COMPACT_STRINGS" "Z" (.int z) ∧ ¬ z = 0
/-- equals(Object) of two Strings: whether the texts are the same -/
theorem law (l : Launch) (x t : Addr) (V : Cell) (cd : Int32) (n : Nat) (f : Nat → Int32) (y t' : Addr) (V' : Cell) (cd' : Int32) (k : Nat) (g : Nat → Int32) (z : Int32) : Law l yN 2 1 1 14 yB 3 (some .boolean) site (P x t V cd n f y t' V' cd' k g z) (Says01 (SameT n f k g)) [] 0 0 := by
  refine Law.of_walk (plainFor_of_name (by decide +kernel)) (by decide +kernel) (by decide +kernel) (by decide) (fun _ _ h => by rw [h.1]; rfl) (fun _ U U' hal hh h => ⟨h.1, h.2.1.mv hal hh, h.2.2.1.mv hal hh, h.2.2.2.1.there hal hh, h.2.2.2.2⟩) (fun r U U' V V' h1 hal h2 h => Says01.mv r U U' V V' h1 hal h2 h) ?_
  intro p e s m args below meth c s₁ X0 hexec hbytes hml hret hlk hnm hown hh0 W hP
  obtain ⟨rfl, hx, hy, s1, hz⟩ := hP
  have c1 : Steps p.tables e below (s₁.setTop (entryFrame m #[.ref x, .ref y] 3)) (s₁.setTop (mkF m 2 #[.val (.ref x), .val (.ref y), .unset] [.ref y, .ref x])) := Steps.trans (entry rfl) (by
    show Steps p.tables e below (s₁.setTop (mkF m 0 #[.val (.ref x), .val (.ref y), .unset] [])) _
    refine XS.aloadN X0.here hexec rfl (hb hbytes d0) rfl rfl ?_
    refine XS.aloadN X0.here hexec rfl (hb hbytes d1) rfl rfl ?_
    exact Steps.refl _)
  by_cases hxy : x = y
  · have c2 : Steps p.tables e below (s₁.setTop (entryFrame m #[.ref x, .ref y] 3)) (s₁.setTop (mkF m 6 #[.val (.ref x), .val (.ref y), .unset] [.int 1])) := c1.trans (by
      refine acmpNo X0.here hexec rfl (hb hbytes d2) rfl rfl rfl (by simp [acmp, hxy]) ?_
      refine iconstV X0.here hexec rfl 1 (hb hbytes d5) (by decide) ?_
      exact Steps.refl _)
    subst hxy
    have ec : cd = cd' := by
      obtain ⟨D, fd, a1, a2, a3⟩ := hx.2.2.1
      obtain ⟨D', fd', b1, b2, b3⟩ := hy.2.2.1
      cases a1.symm.trans b1
      obtain ⟨q1, q2, q3, q4⟩ := a2.1
      obtain ⟨r1, r2, r3, r4⟩ := b2.1
      cases q4.symm.trans r4
      cases a3.symm.trans b3; rfl
    have et : t = t' := by
      obtain ⟨D, fd, a1, a2, a3⟩ := hx.2.1
      obtain ⟨D', fd', b1, b2, b3⟩ := hy.2.1
      cases a1.symm.trans b1
      obtain ⟨q1, q2, q3, q4⟩ := a2.1
      obtain ⟨r1, r2, r3, r4⟩ := b2.1
      cases q4.symm.trans r4
      cases a3.symm.trans b3; rfl
    subst ec et
    have ev : V = V' := by cases hx.2.2.2.1.1.symm.trans hy.2.2.2.1.1; rfl
    subst ev
    have hs : SameT n f k g := (Cod.eqv hx.2.2.2.2.1 hy.2.2.2.2.1 hx.2.2.2.2.2 hy.2.2.2.2.2).mp ⟨rfl, fun _ _ => rfl⟩
    exact ⟨s₁, some (.int 1), _, _, _, X0, rfl, rfl, rfl, (fun h => by cases h), ⟨1, rfl, hh0, Or.inl ⟨rfl, hs⟩⟩, fun fs hl => c2.trans (X0.ireturnOut hexec hret rfl (Or.inr (Or.inl rfl)) (hb hbytes d6) hl)⟩
  · have c2 : Steps p.tables e below (s₁.setTop (entryFrame m #[.ref x, .ref y] 3)) (s₁.setTop (mkF m 8 #[.val (.ref x), .val (.ref y), .unset] [.ref y])) := c1.trans (by
      refine acmpYes X0.here hexec rfl (pc0 := 2) rfl (hb hbytes d2) rfl rfl rfl (by simp [acmp, hxy]) (by decide) rfl ?_
      refine XS.aloadN X0.here hexec rfl (hb hbytes d7) rfl rfl ?_
      exact Steps.refl _)
    obtain ⟨T3, X3, q3, st3⟩ := cinst X0 hexec hown (wk W (.classLink "java/lang/String" 10 "java/lang/String")) (hy.mv X0.warmed.alike hh0).1 (g := (mkF m 8 #[.val (.ref x), .val (.ref y), .unset] [.ref y])) rfl (rest := []) rfl (hb hbytes d8)
    have hh3 := q3.trans hh0
    have c4 : Steps p.tables e below (s₁.setTop (entryFrame m #[.ref x, .ref y] 3)) (T3.setTop (mkF m 15 #[.val (.ref x), .val (.ref y), .unset] [.ref y])) := (c2.trans (st3 _ (Steps.refl _))).trans (by
      refine XS.ifNo X3.here hexec rfl (hb hbytes d11) rfl (i0_eq_f (by decide)) ?_
      refine XS.aloadN X3.here hexec rfl (hb hbytes d14) rfl rfl ?_
      exact Steps.refl _)
    obtain ⟨T5, X5, q5, st5⟩ := cself X3 hexec hown (wk W (.classLink "java/lang/String" 10 "java/lang/String")) (hy.mv X3.warmed.alike hh3).1 (g := (mkF m 15 #[.val (.ref x), .val (.ref y), .unset] [.ref y])) rfl (rest := []) rfl (hb hbytes d15)
    have hh5 := q5.trans hh3
    have c6 : Steps p.tables e below (s₁.setTop (entryFrame m #[.ref x, .ref y] 3)) (T5.setTop (mkF m 19 #[.val (.ref x), .val (.ref y), .val (.ref y)] [])) := (c4.trans (st5 _ (Steps.refl _))).trans (by
      refine XS.astoreN X5.here hexec rfl (hb hbytes d18) rfl rfl rfl ?_
      exact Steps.refl _)
    obtain ⟨T7, X7, q7, st7⟩ := X5.sget hexec hown (wk W (.fieldLink "java/lang/String" 38 "java/lang/String" "COMPACT_STRINGS" "Z")) s1 (fun _ _ h => by rw [hh5]; exact h) (g := (mkF m 19 #[.val (.ref x), .val (.ref y), .val (.ref y)] [])) rfl (hb hbytes d19)
    have hh7 := q7.trans hh5
    have c8 : Steps p.tables e below (s₁.setTop (entryFrame m #[.ref x, .ref y] 3)) (T7.setTop (mkF m 26 #[.val (.ref x), .val (.ref y), .val (.ref y)] [.ref x])) := (c6.trans (st7 _ (Steps.refl _))).trans (by
      refine XS.ifNo X7.here hexec rfl (hb hbytes d22) rfl (i0_eq_f hz) ?_
      refine XS.aloadN X7.here hexec rfl (hb hbytes d25) rfl rfl ?_
      exact Steps.refl _)
    obtain ⟨T9, X9, q9, st9⟩ := X7.hget hexec hown (wk W (.fieldLink "java/lang/String" 15 "java/lang/String" "coder" "B")) (hx.mv X7.warmed.alike hh7).2.2.1 (g := (mkF m 26 #[.val (.ref x), .val (.ref y), .val (.ref y)] [.ref x])) rfl (rest := []) rfl (hb hbytes d26)
    have hh9 := q9.trans hh7
    have c10 : Steps p.tables e below (s₁.setTop (entryFrame m #[.ref x, .ref y] 3)) (T9.setTop (mkF m 30 #[.val (.ref x), .val (.ref y), .val (.ref y)] [.ref y, .int cd])) := (c8.trans (st9 _ (Steps.refl _))).trans (by
      refine XS.aloadN X9.here hexec rfl (hb hbytes d29) rfl rfl ?_
      exact Steps.refl _)
    obtain ⟨T11, X11, q11, st11⟩ := X9.hget hexec hown (wk W (.fieldLink "java/lang/String" 15 "java/lang/String" "coder" "B")) (hy.mv X9.warmed.alike hh9).2.2.1 (g := (mkF m 30 #[.val (.ref x), .val (.ref y), .val (.ref y)] [.ref y, .int cd])) rfl (rest := [.int cd]) rfl (hb hbytes d30)
    have hh11 := q11.trans hh9
    have c12 : Steps p.tables e below (s₁.setTop (entryFrame m #[.ref x, .ref y] 3)) (T11.setTop (mkF m 33 #[.val (.ref x), .val (.ref y), .val (.ref y)] [.int cd', .int cd])) := c10.trans (st11 _ (Steps.refl _))
    by_cases hcd : cd = cd'
    · subst hcd
      have c13 : Steps p.tables e below (s₁.setTop (entryFrame m #[.ref x, .ref y] 3)) (T11.setTop (mkF m 37 #[.val (.ref x), .val (.ref y), .val (.ref y)] [.ref x])) := c12.trans (by
        refine XS.icmpNo X11.here hexec rfl (hb hbytes d33) rfl (ii_ne_f rfl) ?_
        refine XS.aloadN X11.here hexec rfl (hb hbytes d36) rfl rfl ?_
        exact Steps.refl _)
      obtain ⟨T14, X14, q14, st14⟩ := X11.hget hexec hown (wk W (.fieldLink "java/lang/String" 9 "java/lang/String" "value" "[B")) (hx.mv X11.warmed.alike hh11).2.1 (g := (mkF m 37 #[.val (.ref x), .val (.ref y), .val (.ref y)] [.ref x])) rfl (rest := []) rfl (hb hbytes d37)
      have hh14 := q14.trans hh11
      have c15 : Steps p.tables e below (s₁.setTop (entryFrame m #[.ref x, .ref y] 3)) (T14.setTop (mkF m 41 #[.val (.ref x), .val (.ref y), .val (.ref y)] [.ref y, .ref t])) := (c13.trans (st14 _ (Steps.refl _))).trans (by
        refine XS.aloadN X14.here hexec rfl (hb hbytes d40) rfl rfl ?_
        exact Steps.refl _)
      obtain ⟨T16, X16, q16, st16⟩ := X14.hget hexec hown (wk W (.fieldLink "java/lang/String" 9 "java/lang/String" "value" "[B")) (hy.mv X14.warmed.alike hh14).2.1 (g := (mkF m 41 #[.val (.ref x), .val (.ref y), .val (.ref y)] [.ref y, .ref t])) rfl (rest := [.ref t]) rfl (hb hbytes d41)
      have hh16 := q16.trans hh14
      have c17 : Steps p.tables e below (s₁.setTop (entryFrame m #[.ref x, .ref y] 3)) (T16.setTop (mkF m 44 #[.val (.ref x), .val (.ref y), .val (.ref y)] [.ref t', .ref t])) := c15.trans (st16 _ (Steps.refl _))
      obtain ⟨v18, T18, X18, E18, g18⟩ := X16.callS hexec (LEq.law l t V t' V') hown (wks W (staticW "java/lang/String" 541 LEq.yN)) (wk W LEq.tab) (W := 0) (Nat.le_of_ble_eq_true rfl) (Nat.le_of_ble_eq_true rfl) (Nat.le_refl _) (Nat.le_refl _) (g := (mkF m 44 #[.val (.ref x), .val (.ref y), .val (.ref y)] [.ref t', .ref t])) rfl (by rw [hml]; rfl) c17 (argsL := [.ref t, .ref t']) (rest := []) rfl rfl (by show 2 * 0 + 0 ≤ _; decide) (hb hbytes d44) (⟨rfl, hx.2.2.2.1.mv X16.warmed.alike hh16, hx.2.2.2.2.1.ty, hy.2.2.2.1.mv X16.warmed.alike hh16, hy.2.2.2.2.1.ty⟩)
      obtain ⟨v, rfl, q18, hv⟩ := E18
      have iff := Cod.eqv hx.2.2.2.2.1 hy.2.2.2.2.1 hx.2.2.2.2.2 hy.2.2.2.2.2
      rcases hv with ⟨rfl, he⟩ | ⟨rfl, he⟩
      · have c19 : Steps p.tables e below (s₁.setTop (entryFrame m #[.ref x, .ref y] 3)) (T18.setTop (mkF m 55 #[.val (.ref x), .val (.ref y), .val (.ref y)] [.int 1])) := Steps.trans g18 (by
          refine XS.ifNo X18.here hexec rfl (hb hbytes d47) rfl (i0_eq_f (by decide)) ?_
          refine iconstV X18.here hexec rfl 1 (hb hbytes d50) (by decide) ?_
          refine XS.goto X18.here hexec rfl (pc0 := 51) rfl (hb hbytes d51) (by decide) rfl ?_
          exact Steps.refl _)
        exact ⟨T18, some (.int 1), _, _, _, X18, rfl, rfl, rfl, (fun h => by cases h), ⟨1, rfl, q18.trans hh16, Or.inl ⟨rfl, iff.mp he⟩⟩, fun fs hl => c19.trans (X18.ireturnOut hexec hret rfl (Or.inr (Or.inl rfl)) (hb hbytes d55) hl)⟩
      · have c19 : Steps p.tables e below (s₁.setTop (entryFrame m #[.ref x, .ref y] 3)) (T18.setTop (mkF m 55 #[.val (.ref x), .val (.ref y), .val (.ref y)] [.int 0])) := Steps.trans g18 (by
          refine XS.ifYes X18.here hexec rfl (pc0 := 47) rfl (hb hbytes d47) rfl (i0_eq_t rfl) (by decide) rfl ?_
          refine iconstV X18.here hexec rfl 0 (hb hbytes d54) (by decide) ?_
          exact Steps.refl _)
        exact ⟨T18, some (.int 0), _, _, _, X18, rfl, rfl, rfl, (fun h => by cases h), ⟨0, rfl, q18.trans hh16, Or.inr ⟨rfl, fun q => he (iff.mpr q)⟩⟩, fun fs hl => c19.trans (X18.ireturnOut hexec hret rfl (Or.inr (Or.inl rfl)) (hb hbytes d55) hl)⟩
    · have c13 : Steps p.tables e below (s₁.setTop (entryFrame m #[.ref x, .ref y] 3)) (T11.setTop (mkF m 55 #[.val (.ref x), .val (.ref y), .val (.ref y)] [.int 0])) := c12.trans (by
        refine XS.icmpYes X11.here hexec rfl (pc0 := 33) rfl (hb hbytes d33) rfl (ii_ne_t hcd) (by decide) rfl ?_
        refine iconstV X11.here hexec rfl 0 (hb hbytes d54) (by decide) ?_
        exact Steps.refl _)
      exact ⟨T11, some (.int 0), _, _, _, X11, rfl, rfl, rfl, (fun h => by cases h), ⟨0, rfl, hh11, Or.inr ⟨rfl, Cod.dif hx.2.2.2.2.1 hy.2.2.2.2.1 hcd⟩⟩, fun fs hl => c13.trans (X11.ireturnOut hexec hret rfl (Or.inr (Or.inl rfl)) (hb hbytes d55) hl)⟩
theorem pays {l : Launch} {R : Room} {p : Program} {e : Env} {below : List Frame} {s : State} {sargs : Array Value} {len W : Nat} (x t : Addr) (V : Cell) (cd : Int32) (n : Nat) (f : Nat → Int32) (y t' : Addr) (V' : Cell) (cd' : Int32) (k : Nat) (g : Nat → Int32) (z : Int32) (htab : tab.before sargs s = true) (hfr : 2 ≤ R.frames) (hlo : W + 28 ≤ R.locals) :
    Back l R p e below s sargs yN len W (fun A₁ a₁ => A₁.cells + 0 ≤ R.cells ∧ A₁.slots + 0 ≤ R.slots ∧ P x t V cd n f y t' V' cd' k g z a₁ A₁.U) (fun A₁ _ v₁ B₁ => Says01 (SameT n f k g) v₁ A₁.U B₁.U ∧ B₁.locs = A₁.locs ++ [] ∧ B₁.cells = A₁.cells + 0 ∧ B₁.slots = A₁.slots + 0) :=
  (law l x t V cd n f y t' V' cd' k g z).pays htab hfr (by omega)
end SEq
end StrChars
namespace StrChars.Road
open Jvm Sem ClassFile Op Lib Jvm.Stand Jvm.Free Jvm.Free.XT
open Jvm.Lib.Cold (StaticIs)
/-- the words of String.isEmpty() -/
abbrev wordsEmp : List Jvm.Cond := [.code Emp.yN Emp.yB 1 (some .boolean), .initialized ST, .fieldLink ST 9 ST "value" "[B"]
theorem tabEmp_of {a : Array Value} {s : State} (h : ∀ w ∈ wordsEmp, w.before a s = true) : Emp.tab.before a s = true := unparts (wk h (.code Emp.yN Emp.yB 1 (some .boolean))) (wks h (.initialized Emp.yN.cls :: Emp.site))
theorem movedEmp {Z s : State} {a0 args : Array Value} (hZ : Z.Warmed39 s.vm) (hw : ∀ d ∈ wordsEmp, d.before a0 Z = true) : ∀ d ∈ wordsEmp, d.before args s = true := fun d hd => by
  have t : ∀ d ∈ wordsEmp, (d.onTables && d.keepsFace) = true := by decide +kernel
  exact RoadKit.mv hZ (hw d hd) (t d hd)
/-- the words of String.equals(Object) -/
abbrev wordsEq : List Jvm.Cond := [.code SEq.yN SEq.yB 3 (some .boolean), .initialized ST, .classLink ST 10 ST, .fieldLink ST 38 ST "COMPACT_STRINGS" "Z", .fieldLink ST 15 ST "coder" "B", .fieldLink ST 9 ST "value" "[B", .methodLink ST 541 LEq.yN, .static LEq.yN, .code LEq.yN LEq.yB 3 (some .boolean), .initialized "java/lang/StringLatin1"]
theorem tabEq_of {a : Array Value} {s : State} (h : ∀ w ∈ wordsEq, w.before a s = true) : SEq.tab.before a s = true := by
  have hl : LEq.tab.before a s = true := unparts (wk h (.code LEq.yN LEq.yB 3 (some .boolean))) (wks h (.initialized LEq.yN.cls :: LEq.site))
  have q := consq hl h
  exact unparts (wk q (.code SEq.yN SEq.yB 3 (some .boolean))) (wks q (.initialized SEq.yN.cls :: SEq.site))
theorem movedEq {Z s : State} {a0 args : Array Value} (hZ : Z.Warmed39 s.vm) (hw : ∀ d ∈ wordsEq, d.before a0 Z = true) : ∀ d ∈ wordsEq, d.before args s = true := fun d hd => by
  have t : ∀ d ∈ wordsEq, (d.onTables && d.keepsFace) = true := by decide +kernel
  exact RoadKit.mv hZ (hw d hd) (t d hd)
/-- the road's facts of a String, as the laws ask it -/
theorem txt_of {Z U : State} {a0 : Array Value} {kI : Nat} (wi : (Jvm.Cond.instantiable ST kI).before a0 Z = true) (al : Z.vm.Alike U.vm) {x t : Addr} {kb : ClassId} {cs : List Int32} {cd N2 : Int32} {vs : List Value} (E : RoadKit.Exa Z U.heap x ST) (V : RoadKit.Fld Z U.heap x ST "value" "[B" (.ref t)) (C : RoadKit.Fld Z U.heap x ST "coder" "B" (.int cd)) (K : RoadKit.Arv Z U.heap t kb .byte N2 vs (.int 0)) (hc : CodA cs cd N2 vs) (hb : ∀ c ∈ cs, ¬ c < 0 ∧ ¬ (65535 : Int32) < c) (l2 : cs.length ≤ 4000) :
    ∃ A, Txt x t A cd cs.length (fun j => cs.getD j 0) U := by
  obtain ⟨A, K1, K2, K3, K4, K5, K6⟩ := K
  have hcod := hc.cod (by omega) K3 K5
  obtain ⟨D, fV, fC, hB, F1, F2, g1, g2, -, -⟩ := strObj wi al E V C
  exact ⟨A, ⟨_, hB.2.2.1, D, hB.1, rfl, by cases q : D.vm <;> first | rfl | exact absurd q (hB.2.1.2 _)⟩, Has.of hB F1 g1, Has.of hB F2 g2, ⟨K1.1, State.isArrayOf_alike al K1.2.1, K1.2.2, by rcases hcod with ⟨-, q, -⟩ | ⟨-, q, -⟩ <;> omega⟩, hcod, fun j hj => by
    have e : cs.getD j 0 = cs[j] := by simp [List.getD_eq_getElem?_getD, hj]
    show ¬ cs.getD j 0 < 0 ∧ ¬ 65535 < cs.getD j 0
    rw [e]; exact hb _ (List.getElem_mem _)⟩
theorem same_list (cs ds : List Int32) : SameT cs.length (fun j => cs.getD j 0) ds.length (fun j => ds.getD j 0) ↔ cs = ds := by
  constructor
  · rintro ⟨e, q⟩
    refine List.ext_getElem e fun j h1 h2 => ?_
    have := q j h1
    simpa [List.getD_eq_getElem?_getD, h1, h2] using this
  · rintro rfl
    exact ⟨rfl, fun _ _ => rfl⟩
/-- **isEmpty() OF SUCH A STRING** -/
theorem empW {p : Program} {l : Launch} {e : Env} {R : Room} {s : State} {args : Array Value} {below : List Frame} {len W : Nat} {Z : State} {a0 : Array Value} {h : Heap} (hZ : Z.Warmed39 s.vm) (hw : ∀ d ∈ wordsEmp, d.before a0 Z = true) {kI : Nat} (wi : (Jvm.Cond.instantiable ST kI).before a0 Z = true)
    {x t : Addr} {kb : ClassId} {cs : List Int32} {cd N2 : Int32} {vs : List Value} (E : RoadKit.Exa Z h x ST) (V : RoadKit.Fld Z h x ST "value" "[B" (.ref t)) (C : RoadKit.Fld Z h x ST "coder" "B" (.int cd)) (K : RoadKit.Arv Z h t kb .byte N2 vs (.int 0)) (hc : CodA cs cd N2 vs) (hb : ∀ c ∈ cs, ¬ c < 0 ∧ ¬ (65535 : Int32) < c) (l2 : cs.length ≤ 4000) (hfr : 1 ≤ R.frames) (hlo : W + 12 ≤ R.locals) :
    Back l R p e below s args (⟨"java/lang/String", "isEmpty", "()Z"⟩ : MethodName) len W (fun P a => a = #[.ref x] ∧ P.U.heap = h ∧ P.cells + 0 ≤ R.cells ∧ P.slots + 0 ≤ R.slots)
      (fun P _ v B => ∃ L, (v = some (.int (if cs.length = 0 then 1 else 0)) ∧ L = [] ∧ B.U.heap = h) ∧ B.locs = P.locs ++ L ∧ B.cells = P.cells + 0 ∧ B.slots = P.slots + 0) := by
  intro m meth c P g ig mk a X hg hsize hdg hW hn hp'
  obtain ⟨rfl, rfl, r1, r2⟩ := hp'
  have al : Z.vm.Alike P.U.vm := hZ.alike.trans X.warmed.alike
  obtain ⟨A, hx⟩ := txt_of wi al E V C K hc hb l2
  obtain ⟨v, B, X', ⟨⟨hv, hh⟩, hl, hk, hs⟩, st⟩ := Emp.pays x t A cd cs.length (fun j => cs.getD j 0) (tabEmp_of (movedEmp hZ hw)) hfr hlo m meth c P g ig mk _ X hg hsize hdg hW hn ⟨r1, r2, rfl, hx⟩
  exact ⟨v, B, X', ⟨[], ⟨hv, rfl, hh⟩, hl, hk, hs⟩, st⟩
/-- **equals(Object) OF TWO SUCH STRINGS**: 1 just where the chars are the same -/
theorem eqW {p : Program} {l : Launch} {e : Env} {R : Room} {s : State} {args : Array Value} {below : List Frame} {len W : Nat} {Z : State} {a0 : Array Value} {h : Heap} (hZ : Z.Warmed39 s.vm) (hw : ∀ d ∈ wordsEq, d.before a0 Z = true) {kI : Nat} (wi : (Jvm.Cond.instantiable ST kI).before a0 Z = true)
    {x t : Addr} {kb : ClassId} {cs : List Int32} {cd N2 : Int32} {vs : List Value} (E : RoadKit.Exa Z h x ST) (V : RoadKit.Fld Z h x ST "value" "[B" (.ref t)) (C : RoadKit.Fld Z h x ST "coder" "B" (.int cd)) (K : RoadKit.Arv Z h t kb .byte N2 vs (.int 0)) (hc : CodA cs cd N2 vs) (hb : ∀ c ∈ cs, ¬ c < 0 ∧ ¬ (65535 : Int32) < c) (l2 : cs.length ≤ 4000)
    {y t' : Addr} {kb' : ClassId} {ds : List Int32} {cd' N2' : Int32} {vs' : List Value} (E' : RoadKit.Exa Z h y ST) (V' : RoadKit.Fld Z h y ST "value" "[B" (.ref t')) (C' : RoadKit.Fld Z h y ST "coder" "B" (.int cd')) (K' : RoadKit.Arv Z h t' kb' .byte N2' vs' (.int 0)) (hc' : CodA ds cd' N2' vs') (hb' : ∀ c ∈ ds, ¬ c < 0 ∧ ¬ (65535 : Int32) < c) (l2' : ds.length ≤ 4000)
    {z : Int32} (S : RoadKit.Sta Z h ST "COMPACT_STRINGS" "Z" (.int z)) (hz : ¬ z = 0) (hfr : 2 ≤ R.frames) (hlo : W + 28 ≤ R.locals) :
    Back l R p e below s args (⟨"java/lang/String", "equals", "(Ljava/lang/Object;)Z"⟩ : MethodName) len W (fun P a => a = #[.ref x, .ref y] ∧ P.U.heap = h ∧ P.cells + 0 ≤ R.cells ∧ P.slots + 0 ≤ R.slots)
      (fun P _ v B => ∃ L, (((v = some (.int 1) ∧ cs = ds) ∨ (v = some (.int 0) ∧ ¬ cs = ds)) ∧ L = [] ∧ B.U.heap = h) ∧ B.locs = P.locs ++ L ∧ B.cells = P.cells + 0 ∧ B.slots = P.slots + 0) := by
  intro m meth c P g ig mk a X hg hsize hdg hW hn hp'
  obtain ⟨rfl, rfl, r1, r2⟩ := hp'
  have al : Z.vm.Alike P.U.vm := hZ.alike.trans X.warmed.alike
  obtain ⟨A, hx⟩ := txt_of wi al E V C K hc hb l2
  obtain ⟨A', hy⟩ := txt_of wi al E' V' C' K' hc' hb' l2'
  obtain ⟨v, B, X', ⟨⟨w, hv, hh, hq⟩, hl, hk, hs⟩, st⟩ := SEq.pays x t A cd cs.length (fun j => cs.getD j 0) y t' A' cd' ds.length (fun j => ds.getD j 0) z (tabEq_of (movedEq hZ hw)) hfr hlo m meth c P g ig mk _ X hg hsize hdg hW hn ⟨r1, r2, rfl, hx, hy, sta_is al S, hz⟩
  refine ⟨v, B, X', ⟨[], ⟨?_, rfl, hh⟩, hl, hk, hs⟩, st⟩
  rcases hq with ⟨rfl, q⟩ | ⟨rfl, q⟩
  · exact Or.inl ⟨hv, (same_list cs ds).mp q⟩
  · exact Or.inr ⟨hv, fun e => q ((same_list cs ds).mpr e)⟩
end StrChars.Road
namespace StrChars
open Jvm Sem ClassFile Op Lib Jvm.Stand Jvm.Free.XT Jvm.Free.ALB Jvm.Free.JM Jvm.Free
open Jvm.Lib.Cold (StaticIs)
namespace ChN
def yN : MethodName := ⟨"java/lang/String", "charAt", "(I)C"⟩
abbrev yB : ByteArray := jdk_42_method_56_code
theorem d0 : decode yB 0 = .ok (.aload_n 0, 1) := by decide +kernel
theorem d1 : decode yB 1 = .ok (.invokevirtual 492, 3) := by decide +kernel
theorem d4 : decode yB 4 = .ok (.ifCond (.eq) 12, 3) := by decide +kernel
theorem d7 : decode yB 7 = .ok (.aload_n 0, 1) := by decide +kernel
theorem d8 : decode yB 8 = .ok (.getfield 9, 3) := by decide +kernel
theorem d11 : decode yB 11 = .ok (.iload_n 1, 1) := by decide +kernel
theorem d12 : decode yB 12 = .ok (.invokestatic 495, 3) := by decide +kernel
theorem d15 : decode yB 15 = .ok (.ireturn, 1) := by decide +kernel
def site : List Cond := [.fieldLink "java/lang/String" 9 "java/lang/String" "value" "[B", IsL.tab, LChA.tab] ++ virtW "java/lang/String" 492 "java/lang/String" IsL.yN IsL.yN ++ staticW "java/lang/String" 495 LChA.yN
def tab : Cond := tabOf yN yB 2 (some .char) site
def P (x t : Addr) (V : Cell) (n : Nat) (f : Nat → Int32) (z : Int32) (fm : Value) (i : Nat) (args : Array Value) (s : State) : Prop := args = #[.ref x, .int (Int32.ofNat i)] ∧ Txt x t V 0 n f s ∧ i < n ∧ StaticIs s "java/lang/String" "COMPACT_STRINGS" "Z" (.int z) ∧ ¬ z = 0 ∧ StaticIs s "jdk/internal/util/Preconditions" "SIOOBE_FORMATTER" "Ljava/util/function/BiFunction;" fm ∧ fm.isRef = true
def E (f : Nat → Int32) (i : Nat) (r : Option Value) (s u : State) : Prop := XT.PureE (some (.int (f i))) r s u
/-- charAt(i) of a Latin-1 String of n chars, i < n: f i -/
theorem law (l : Launch) (x t : Addr) (V : Cell) (n : Nat) (f : Nat → Int32) (z : Int32) (fm : Value) (i : Nat) : Law l yN 2 1 3 40 yB 2 (some .char) site (P x t V n f z fm i) (E f i) [] 0 0 := by
  refine Law.of_walk (plainFor_of_name (by decide +kernel)) (by decide +kernel) (by decide +kernel) (by decide) (fun _ _ h => by rw [h.1]; rfl) (fun _ U U' hal hh h => ⟨h.1, h.2.1.mv hal hh, h.2.2.1, h.2.2.2.1.there hal hh, h.2.2.2.2.1, h.2.2.2.2.2.1.there hal hh, h.2.2.2.2.2.2⟩) (fun r U U' V V' h1 hal h2 h => XT.PureE.mv r U U' V V' h1 hal h2 h) ?_
  intro p e s m args below meth c s₁ X0 hexec hbytes hml hret hlk hnm hown hh0 W hP
  obtain ⟨rfl, hx, hi, s1, hz, s3, rf⟩ := hP
  have v31 := hx.2.2.2.1.2.2.2
  have hr := hx.2.2.2.2.2 i hi
  have hx0 := hx.mv X0.warmed.alike hh0
  have c1 : Steps p.tables e below (s₁.setTop (entryFrame m #[.ref x, .int (Int32.ofNat i)] 2)) (s₁.setTop (mkF m 1 #[.val (.ref x), .val (.int (Int32.ofNat i))] [.ref x])) := Steps.trans (entry rfl) (by
    show Steps p.tables e below (s₁.setTop (mkF m 0 #[.val (.ref x), .val (.int (Int32.ofNat i))] [])) _
    refine XS.aloadN X0.here hexec rfl (hb hbytes d0) rfl rfl ?_
    exact Steps.refl _)
  obtain ⟨v2, T2, X2, E2, g2⟩ := X0.callV hexec (IsL.law l x 0 z) hown (wks W (virtW "java/lang/String" 492 "java/lang/String" IsL.yN IsL.yN)) rfl (by decide) (wk W IsL.tab) (W := 0) (Nat.le_of_ble_eq_true rfl) (Nat.le_of_ble_eq_true rfl) (Nat.le_refl _) (Nat.le_refl _) (hx0.1.fc X0.warmed.alike) hx0.1.is (g := (mkF m 1 #[.val (.ref x), .val (.int (Int32.ofNat i))] [.ref x])) rfl (by rw [hml]; rfl) c1 (argsL := []) (rest := []) rfl rfl (by show 2 * 0 + 0 ≤ _; decide) (hb hbytes d1) (⟨rfl, hx0.2.2.1, hx.2.2.2.2.1.cd, s1.there X0.warmed.alike hh0, hz⟩)
  obtain ⟨rfl, q2⟩ := E2
  have hh2 := q2.trans hh0
  have hx2 := hx.mv X2.warmed.alike hh2
  obtain ⟨-, k1, k2⟩ | ⟨k0, -⟩ := hx.2.2.2.2.1
  · have c3 : Steps p.tables e below (s₁.setTop (entryFrame m #[.ref x, .int (Int32.ofNat i)] 2)) (T2.setTop (mkF m 8 #[.val (.ref x), .val (.int (Int32.ofNat i))] [.ref x])) := Steps.trans g2 (by
      refine XS.ifNo X2.here hexec rfl (hb hbytes d4) rfl (i0_eq_f (by decide)) ?_
      refine XS.aloadN X2.here hexec rfl (hb hbytes d7) rfl rfl ?_
      exact Steps.refl _)
    obtain ⟨T4, X4, q4, st4⟩ := X2.hget hexec hown (wk W (.fieldLink "java/lang/String" 9 "java/lang/String" "value" "[B")) hx2.2.1 (g := (mkF m 8 #[.val (.ref x), .val (.int (Int32.ofNat i))] [.ref x])) rfl (rest := []) rfl (hb hbytes d8)
    have hh4 := q4.trans hh2
    have c5 : Steps p.tables e below (s₁.setTop (entryFrame m #[.ref x, .int (Int32.ofNat i)] 2)) (T4.setTop (mkF m 12 #[.val (.ref x), .val (.int (Int32.ofNat i))] [.int (Int32.ofNat i), .ref t])) := (c3.trans (st4 _ (Steps.refl _))).trans (by
      refine XS.iloadN X4.here hexec rfl (hb hbytes d11) rfl ?_
      exact Steps.refl _)
    obtain ⟨v6, T6, X6, E6, g6⟩ := X4.callS hexec (LChA.law l t V i (lo8 (f i)) fm) hown (wks W (staticW "java/lang/String" 495 LChA.yN)) (wk W LChA.tab) (W := 0) (Nat.le_of_ble_eq_true rfl) (Nat.le_of_ble_eq_true rfl) (Nat.le_refl _) (Nat.le_refl _) (g := (mkF m 12 #[.val (.ref x), .val (.int (Int32.ofNat i))] [.int (Int32.ofNat i), .ref t])) rfl (by rw [hml]; rfl) c5 (argsL := [.ref t, .int (Int32.ofNat i)]) (rest := []) rfl rfl (by show 2 * 0 + 0 ≤ _; decide) (hb hbytes d12) (⟨rfl, hx.2.2.2.1.mv X4.warmed.alike hh4, (k2 i hi).1, s3.there X4.warmed.alike hh4, rf⟩)
    obtain ⟨rfl, q6⟩ := E6
    rw [chr8_lo8 hr.1 (k2 i hi).2] at g6
    exact ⟨T6, some (.int (f i)), _, _, _, X6, rfl, rfl, rfl, (fun h => by cases h), ⟨rfl, q6.trans hh4⟩, fun fs hl => Steps.trans g6 (X6.ireturnOut hexec hret (narrow_ch hr.1 hr.2) (Or.inr (Or.inr (Or.inr (Or.inl rfl)))) (hb hbytes d15) hl)⟩
  · exact absurd k0 (by decide)
theorem pays {l : Launch} {R : Room} {p : Program} {e : Env} {below : List Frame} {s : State} {sargs : Array Value} {len W : Nat} (x t : Addr) (V : Cell) (n : Nat) (f : Nat → Int32) (z : Int32) (fm : Value) (i : Nat) (htab : tab.before sargs s = true) (hfr : 4 ≤ R.frames) (hlo : W + 53 ≤ R.locals) :
    Back l R p e below s sargs yN len W (fun A₁ a₁ => A₁.cells + 0 ≤ R.cells ∧ A₁.slots + 0 ≤ R.slots ∧ P x t V n f z fm i a₁ A₁.U) (fun A₁ _ v₁ B₁ => E f i v₁ A₁.U B₁.U ∧ B₁.locs = A₁.locs ++ [] ∧ B₁.cells = A₁.cells + 0 ∧ B₁.slots = A₁.slots + 0) :=
  (law l x t V n f z fm i).pays htab hfr (by omega)
end ChN
end StrChars
namespace StrChars.Road
open Jvm Sem ClassFile Op Lib Jvm.Stand Jvm.Free Jvm.Free.XT
open Jvm.Lib.Cold (StaticIs)
/-- the words of String.charAt(int), the Latin-1 road alone -/
abbrev wordsChN : List Jvm.Cond := [.code ChN.yN ChN.yB 2 (some .char), .initialized ST, .fieldLink ST 9 ST "value" "[B", .fieldLink ST 38 ST "COMPACT_STRINGS" "Z", .fieldLink ST 15 ST "coder" "B", .code IsL.yN IsL.yB 1 (some .boolean), .methodLink ST 492 IsL.yN, .declares IsL.yN, .selects ST IsL.yN IsL.yN, .instanceMethod IsL.yN,
  .methodLink ST 495 LChA.yN, .static LChA.yN, .code LChA.yN LChA.yB 2 (some .char), .initialized "java/lang/StringLatin1", .methodLink "java/lang/StringLatin1" 9 JO.Str_checkIndex.yN, .static JO.Str_checkIndex.yN, .code JO.Str_checkIndex.yN JO.Str_checkIndex.yB 2 none,
  .fieldLink ST 1053 "jdk/internal/util/Preconditions" "SIOOBE_FORMATTER" "Ljava/util/function/BiFunction;", .methodLink ST 1059 JC.PreCheck.yN, .static JC.PreCheck.yN, .code JC.PreCheck.yN JC.PreCheck.yB 3 (some .int), .initialized "jdk/internal/util/Preconditions"]
theorem tabChN_of {a : Array Value} {s : State} (h : ∀ w ∈ wordsChN, w.before a s = true) : ChN.tab.before a s = true := by
  have hp : JC.PreCheck.tab.before a s = true := unparts (wk h (.code JC.PreCheck.yN JC.PreCheck.yB 3 (some .int))) (wks h (.initialized JC.PreCheck.yN.cls :: JC.PreCheck.site))
  have qk := consq hp h
  have hk : JO.Str_checkIndex.tab.before a s = true := unparts (wk qk (.code JO.Str_checkIndex.yN JO.Str_checkIndex.yB 2 none)) (wks qk (.initialized JO.Str_checkIndex.yN.cls :: JO.Str_checkIndex.site))
  have ql := consq hk h
  have hl : LChA.tab.before a s = true := unparts (wk ql (.code LChA.yN LChA.yB 2 (some .char))) (wks ql (.initialized LChA.yN.cls :: LChA.site))
  have hi : IsL.tab.before a s = true := unparts (wk h (.code IsL.yN IsL.yB 1 (some .boolean))) (wks h (.initialized IsL.yN.cls :: IsL.site))
  have q := consq hi (consq hl h)
  exact unparts (wk q (.code ChN.yN ChN.yB 2 (some .char))) (wks q (.initialized ChN.yN.cls :: ChN.site))
theorem movedChN {Z s : State} {a0 args : Array Value} (hZ : Z.Warmed39 s.vm) (hw : ∀ d ∈ wordsChN, d.before a0 Z = true) : ∀ d ∈ wordsChN, d.before args s = true := fun d hd => by
  have t : ∀ d ∈ wordsChN, (d.onTables && d.keepsFace) = true := by decide +kernel
  exact RoadKit.mv hZ (hw d hd) (t d hd)
/-- **charAt(i) OF A LATIN-1 STRING**, i < n: the char -/
theorem chN {p : Program} {l : Launch} {e : Env} {R : Room} {s : State} {args : Array Value} {below : List Frame} {len W : Nat} {Z : State} {a0 : Array Value} {h : Heap} (hZ : Z.Warmed39 s.vm) (hw : ∀ d ∈ wordsChN, d.before a0 Z = true) {kI : Nat} (wi : (Jvm.Cond.instantiable ST kI).before a0 Z = true)
    {x t : Addr} {kb : ClassId} {cs : List Int32} {N2 z : Int32} {vs : List Value} {fm : Value} {i : Nat} {j : Int32} (E : RoadKit.Exa Z h x ST) (V : RoadKit.Fld Z h x ST "value" "[B" (.ref t)) (C : RoadKit.Fld Z h x ST "coder" "B" (.int 0)) (K : RoadKit.Arv Z h t kb .byte N2 vs (.int 0)) (hc : CodA cs 0 N2 vs) (hb : ∀ c ∈ cs, ¬ c < 0 ∧ ¬ (65535 : Int32) < c)
    (S : RoadKit.Sta Z h ST "COMPACT_STRINGS" "Z" (.int z)) (hz : ¬ z = 0) (F : RoadKit.Sta Z h "jdk/internal/util/Preconditions" "SIOOBE_FORMATTER" "Ljava/util/function/BiFunction;" fm) (rf : fm.isRef = true) (l2 : cs.length ≤ 4000) (hi : i < cs.length) (hj : j = Int32.ofNat i) (hfr : 4 ≤ R.frames) (hlo : W + 53 ≤ R.locals) :
    Back l R p e below s args (⟨"java/lang/String", "charAt", "(I)C"⟩ : MethodName) len W (fun P a => a = #[.ref x, .int j] ∧ P.U.heap = h ∧ P.cells + 0 ≤ R.cells ∧ P.slots + 0 ≤ R.slots)
      (fun P _ v B => ∃ L, (v = some (.int (cs.getD i 0)) ∧ L = [] ∧ B.U.heap = h) ∧ B.locs = P.locs ++ L ∧ B.cells = P.cells + 0 ∧ B.slots = P.slots + 0) := by
  subst hj
  intro m meth c P g ig mk a X hg hsize hdg hW hn hp'
  obtain ⟨rfl, rfl, r1, r2⟩ := hp'
  have al : Z.vm.Alike P.U.vm := hZ.alike.trans X.warmed.alike
  obtain ⟨A, hx⟩ := txt_of wi al E V C K hc hb l2
  obtain ⟨v, B, X', ⟨⟨hv, hh⟩, hl, hk, hs⟩, st⟩ := ChN.pays x t A cs.length (fun j => cs.getD j 0) z fm i (tabChN_of (movedChN hZ hw)) hfr hlo m meth c P g ig mk _ X hg hsize hdg hW hn ⟨r1, r2, rfl, hx, hi, sta_is al S, hz, sta_is al F, rf⟩
  exact ⟨v, B, X', ⟨[], ⟨hv, rfl, hh⟩, hl, hk, hs⟩, st⟩
/-- what backV says of its String, as the contracts of this text ask it: cs's low bytes, coder 0 -/
theorem codOf {cs : List Int32} {n : Nat} (hn : cs.length = n) (hb : ∀ c ∈ cs, ¬ 255 < c) : CodA cs 0 (Int32.ofNat n) ((cs.map lo8).map Value.int) := Or.inl ⟨rfl, by rw [hn], by simp [List.map_map, Function.comp_def], hb⟩
end StrChars.Road
end Jvm.Pilot.@@N@@
namespace Jvm.Pilot.@@N@@
open Jvm Jvm.ClassFile Sem Op Lib Jvm.Free Jvm.Stand Jvm.LawKit Jvm.RoadKit Bundle Jvm.Pilot.@@N@@.Jvm.D
section OwnKit
variable {p : Program} {l : Launch} {e : Env} {R : Room} {s : State} {m : MethodId} {args : Array Value} {below : List Frame} {meth : Method} {c : Code} {T : State} {locs : List Loc} {cells slots : Nat} {C N : Nat} {F : Outcome → State → List Loc → Prop} {Q : Option Value → Heap → List Loc → Prop} {pc : Nat} {Ls : Array Slot} {S : List Value} {Z : State} {a0 : Array Value} {h : Heap} {own : String}
def Go (p : Program) (e : Env) (below : List Frame) (F : Outcome → State → List Loc → Prop) (Q : Option Value → Heap → List Loc → Prop) (T : State) (g : JFrame) : Prop :=
  ∃ s₂ o, Steps p.tables e below (T.setTop g) s₂ ∧ s₂.status = .running ∧ Ended s₂ below o ∧ ∃ v L, o = .returned v ∧ Q v s₂.heap L ∧ F o s₂ L
def FE (s : State) (C N : Nat) (o : Outcome) (t : State) (L : List Loc) : Prop := FrameEnd s o t L C N
theorem Go.st {T' : State} {g g' : JFrame} (h : Go p e below F Q T' g') (st : ∀ t, Steps p.tables e below (T'.setTop g') t → Steps p.tables e below (T.setTop g) t) : Go p e below F Q T g := by
  obtain ⟨s₂, o, h1, h2⟩ := h
  exact ⟨s₂, o, st _ h1, h2⟩
theorem Go.tr {T' : State} {g g' : JFrame} (h : Go p e below F Q T' g') (st : Steps p.tables e below (T.setTop g) (T'.setTop g')) : Go p e below F Q T g := by
  obtain ⟨s₂, o, h1, h2⟩ := h
  exact ⟨s₂, o, st.trans h1, h2⟩
/-- a body's contract out of its walk -/
theorem metOf {y : MethodName} {bytes : ByteArray} {maxL : Nat} {ret : Option FieldType} {rm : Room} {ws : List Jvm.Cond} {as' : Array Value} {h0 : Heap} (hpl : plainFor y = true)
    (body : ∀ p e s m below meth c s₁, Stand p l e rm s m as' below meth c s₁ [] 0 0 → p.tables.exec = Jvm.exec → c.code = bytes → c.maxLocals = maxL → meth.sig.returnType = ret → meth.locks = false → Z.Warmed39 s.vm → s.vm.findClass y.cls = some m.cls → meth.name = y.name → s₁.heap = h0 → Go p e below (FE s rm.cells rm.slots) Q s₁ (entryFrame m as' maxL)) :
    MetFree l y (head1 (Jvm.Cond.code y bytes maxL ret :: ws) rm) (fun a U => a = as' ∧ Z.Warmed39 U.vm ∧ U.heap = h0) (fun _ _ _ _ _ => True) (fun _ U o U' => ∃ v L, o = .returned v ∧ Q v U'.heap L ∧ FrameEnd U o U' L rm.cells rm.slots) := by
  refine MetFree.of_bodySF hpl hisR ?_
  intro p e s m args below meth c s₁ Bd hml0 hP hK
  obtain ⟨rfl, hZ, hh⟩ := hP
  exact body p e s m below meth c s₁ (Stand.of_body Bd) Bd.exec Bd.bytes hml0 Bd.returns Bd.notSynchronized hZ (findClass_of_methodNamed Bd.named) (name_of_methodNamed Bd.named Bd.method).1 (by rw [← hh, Bd.state]; rfl)
theorem Go.iloadN (X : Stand p l e R s m args below meth c T locs cells slots) (hx : p.tables.exec = Jvm.exec) {k : Fin 4} {v : Int32} (hd : decode c.code pc = .ok (.iload_n k, 1)) (hl : Ls[k.val]? = some (.val (.int v))) (h : Go p e below F Q T (mkF m (pc + 1) Ls (.int v :: S))) : Go p e below F Q T (mkF m pc Ls S) := h.st fun _ k => XS.iloadN X.here hx rfl hd hl k
theorem Go.iload (X : Stand p l e R s m args below meth c T locs cells slots) (hx : p.tables.exec = Jvm.exec) {k : Nat} {v : Int32} (hd : decode c.code pc = .ok (.iload k, 2)) (hl : Ls[k]? = some (.val (.int v))) (h : Go p e below F Q T (mkF m (pc + 2) Ls (.int v :: S))) : Go p e below F Q T (mkF m pc Ls S) := h.st fun _ k => XS.iload X.here hx rfl hd hl k
theorem Go.istoreN (X : Stand p l e R s m args below meth c T locs cells slots) (hx : p.tables.exec = Jvm.exec) {k : Fin 4} {x : Int32} {l' : Array Slot} (hd : decode c.code pc = .ok (.istore_n k, 1)) (hl : storeLocals Ls k.val (.int x) = some l') (h : Go p e below F Q T (mkF m (pc + 1) l' S)) : Go p e below F Q T (mkF m pc Ls (.int x :: S)) := h.st fun _ k => XS.istoreN X.here hx rfl hd rfl hl k
theorem Go.istore (X : Stand p l e R s m args below meth c T locs cells slots) (hx : p.tables.exec = Jvm.exec) {k : Nat} {x : Int32} {l' : Array Slot} (hd : decode c.code pc = .ok (.istore k, 2)) (hl : storeLocals Ls k (.int x) = some l') (h : Go p e below F Q T (mkF m (pc + 2) l' S)) : Go p e below F Q T (mkF m pc Ls (.int x :: S)) := h.st fun _ k => XS.istore X.here hx rfl hd rfl hl k
theorem Go.lloadN (X : Stand p l e R s m args below meth c T locs cells slots) (hx : p.tables.exec = Jvm.exec) {k : Fin 4} {v : Int64} (hd : decode c.code pc = .ok (.lload_n k, 1)) (hl : Ls[k.val]? = some (.val (.long v))) (h : Go p e below F Q T (mkF m (pc + 1) Ls (.long v :: S))) : Go p e below F Q T (mkF m pc Ls S) := h.st fun _ k => XS.lloadN X.here hx rfl hd hl k
theorem Go.lload (X : Stand p l e R s m args below meth c T locs cells slots) (hx : p.tables.exec = Jvm.exec) {k : Nat} {v : Int64} (hd : decode c.code pc = .ok (.lload k, 2)) (hl : Ls[k]? = some (.val (.long v))) (h : Go p e below F Q T (mkF m (pc + 2) Ls (.long v :: S))) : Go p e below F Q T (mkF m pc Ls S) := h.st fun _ k => XS.lload X.here hx rfl hd hl k
theorem Go.lstoreN (X : Stand p l e R s m args below meth c T locs cells slots) (hx : p.tables.exec = Jvm.exec) {k : Fin 4} {x : Int64} {l' : Array Slot} (hd : decode c.code pc = .ok (.lstore_n k, 1)) (hl : storeLocals Ls k.val (.long x) = some l') (h : Go p e below F Q T (mkF m (pc + 1) l' S)) : Go p e below F Q T (mkF m pc Ls (.long x :: S)) := h.st fun _ k => XS.lstoreN X.here hx rfl hd rfl hl k
theorem Go.lstore (X : Stand p l e R s m args below meth c T locs cells slots) (hx : p.tables.exec = Jvm.exec) {k : Nat} {x : Int64} {l' : Array Slot} (hd : decode c.code pc = .ok (.lstore k, 2)) (hl : storeLocals Ls k (.long x) = some l') (h : Go p e below F Q T (mkF m (pc + 2) l' S)) : Go p e below F Q T (mkF m pc Ls (.long x :: S)) := h.st fun _ k => XS.lstore X.here hx rfl hd rfl hl k
theorem Go.aloadN (X : Stand p l e R s m args below meth c T locs cells slots) (hx : p.tables.exec = Jvm.exec) {k : Fin 4} {v : Value} (hd : decode c.code pc = .ok (.aload_n k, 1)) (hl : Ls[k.val]? = some (.val v)) (hv : v.isRef = true) (h : Go p e below F Q T (mkF m (pc + 1) Ls (v :: S))) : Go p e below F Q T (mkF m pc Ls S) := h.st fun _ k => XS.aloadN X.here hx rfl hd hl hv k
theorem Go.aload (X : Stand p l e R s m args below meth c T locs cells slots) (hx : p.tables.exec = Jvm.exec) {k : Nat} {v : Value} (hd : decode c.code pc = .ok (.aload k, 2)) (hl : Ls[k]? = some (.val v)) (hv : v.isRef = true) (h : Go p e below F Q T (mkF m (pc + 2) Ls (v :: S))) : Go p e below F Q T (mkF m pc Ls S) := h.st fun _ k => XS.aload X.here hx rfl hd hl hv k
theorem Go.astoreN (X : Stand p l e R s m args below meth c T locs cells slots) (hx : p.tables.exec = Jvm.exec) {k : Fin 4} {x : Value} {l' : Array Slot} (hd : decode c.code pc = .ok (.astore_n k, 1)) (hv : x.isRef = true) (hl : storeLocals Ls k.val x = some l') (h : Go p e below F Q T (mkF m (pc + 1) l' S)) : Go p e below F Q T (mkF m pc Ls (x :: S)) := h.st fun _ k => XS.astoreN X.here hx rfl hd rfl hv hl k
theorem Go.astore (X : Stand p l e R s m args below meth c T locs cells slots) (hx : p.tables.exec = Jvm.exec) {k : Nat} {x : Value} {l' : Array Slot} (hd : decode c.code pc = .ok (.astore k, 2)) (hv : x.isRef = true) (hl : storeLocals Ls k x = some l') (h : Go p e below F Q T (mkF m (pc + 2) l' S)) : Go p e below F Q T (mkF m pc Ls (x :: S)) := h.st fun _ k => XS.astore X.here hx rfl hd rfl hv hl k
theorem Go.iconst (X : Stand p l e R s m args below meth c T locs cells slots) (hx : p.tables.exec = Jvm.exec) {i : Int} (v : Int32) (hd : decode c.code pc = .ok (.iconst i, 1)) (hv : Int32.ofInt i = v) (h : Go p e below F Q T (mkF m (pc + 1) Ls (.int v :: S))) : Go p e below F Q T (mkF m pc Ls S) := h.st fun _ k => XT.iconstV X.here hx rfl v hd hv k
theorem Go.bipush (X : Stand p l e R s m args below meth c T locs cells slots) (hx : p.tables.exec = Jvm.exec) {i : Int} (v : Int32) (hd : decode c.code pc = .ok (.bipush i, 2)) (hv : (Int8.ofInt i).toInt32 = v) (h : Go p e below F Q T (mkF m (pc + 2) Ls (.int v :: S))) : Go p e below F Q T (mkF m pc Ls S) := h.st fun _ k => XT.bipushV X.here hx rfl v hd hv k
theorem Go.sipush (X : Stand p l e R s m args below meth c T locs cells slots) (hx : p.tables.exec = Jvm.exec) {i : Int} (v : Int32) (hd : decode c.code pc = .ok (.sipush i, 3)) (hv : (Int16.ofInt i).toInt32 = v) (h : Go p e below F Q T (mkF m (pc + 3) Ls (.int v :: S))) : Go p e below F Q T (mkF m pc Ls S) := h.st fun _ k => XT.sipushV X.here hx rfl v hd hv k
theorem Go.lconst (X : Stand p l e R s m args below meth c T locs cells slots) (hx : p.tables.exec = Jvm.exec) {i : Fin 2} (v : Int64) (hd : decode c.code pc = .ok (.lconst i, 1)) (hv : Int64.ofNat i = v) (h : Go p e below F Q T (mkF m (pc + 1) Ls (.long v :: S))) : Go p e below F Q T (mkF m pc Ls S) := h.st fun _ k => XT.lconstV X.here hx rfl v hd hv k
theorem Go.aconstNull (X : Stand p l e R s m args below meth c T locs cells slots) (hx : p.tables.exec = Jvm.exec)  (hd : decode c.code pc = .ok (.aconst_null, 1))  (h : Go p e below F Q T (mkF m (pc + 1) Ls (.null :: S))) : Go p e below F Q T (mkF m pc Ls S) := h.st fun _ k => XS.aconstNull X.here hx rfl hd  k
theorem Go.iadd (X : Stand p l e R s m args below meth c T locs cells slots) (hx : p.tables.exec = Jvm.exec) {x y : Int32} (hd : decode c.code pc = .ok (.iadd, 1))  (h : Go p e below F Q T (mkF m (pc + 1) Ls (.int (x + y) :: S))) : Go p e below F Q T (mkF m pc Ls (.int y :: .int x :: S)) := h.st fun _ k => XS.iadd X.here hx rfl hd rfl k
theorem Go.isub (X : Stand p l e R s m args below meth c T locs cells slots) (hx : p.tables.exec = Jvm.exec) {x y : Int32} (hd : decode c.code pc = .ok (.isub, 1))  (h : Go p e below F Q T (mkF m (pc + 1) Ls (.int (x - y) :: S))) : Go p e below F Q T (mkF m pc Ls (.int y :: .int x :: S)) := h.st fun _ k => XS.isub X.here hx rfl hd rfl k
theorem Go.imul (X : Stand p l e R s m args below meth c T locs cells slots) (hx : p.tables.exec = Jvm.exec) {x y : Int32} (hd : decode c.code pc = .ok (.imul, 1))  (h : Go p e below F Q T (mkF m (pc + 1) Ls (.int (x * y) :: S))) : Go p e below F Q T (mkF m pc Ls (.int y :: .int x :: S)) := h.st fun _ k => XS.imul X.here hx rfl hd rfl k
theorem Go.iand (X : Stand p l e R s m args below meth c T locs cells slots) (hx : p.tables.exec = Jvm.exec) {x y : Int32} (hd : decode c.code pc = .ok (.iand, 1))  (h : Go p e below F Q T (mkF m (pc + 1) Ls (.int (x &&& y) :: S))) : Go p e below F Q T (mkF m pc Ls (.int y :: .int x :: S)) := h.st fun _ k => XS.iand X.here hx rfl hd rfl k
theorem Go.ior (X : Stand p l e R s m args below meth c T locs cells slots) (hx : p.tables.exec = Jvm.exec) {x y : Int32} (hd : decode c.code pc = .ok (.ior, 1))  (h : Go p e below F Q T (mkF m (pc + 1) Ls (.int (x ||| y) :: S))) : Go p e below F Q T (mkF m pc Ls (.int y :: .int x :: S)) := h.st fun _ k => XS.ior X.here hx rfl hd rfl k
theorem Go.ixor (X : Stand p l e R s m args below meth c T locs cells slots) (hx : p.tables.exec = Jvm.exec) {x y : Int32} (hd : decode c.code pc = .ok (.ixor, 1))  (h : Go p e below F Q T (mkF m (pc + 1) Ls (.int (x ^^^ y) :: S))) : Go p e below F Q T (mkF m pc Ls (.int y :: .int x :: S)) := h.st fun _ k => XS.ixor X.here hx rfl hd rfl k
theorem Go.idiv (X : Stand p l e R s m args below meth c T locs cells slots) (hx : p.tables.exec = Jvm.exec) {x y : Int32} (hd : decode c.code pc = .ok (.idiv, 1)) (hy : y ≠ 0) (h : Go p e below F Q T (mkF m (pc + 1) Ls (.int (x / y) :: S))) : Go p e below F Q T (mkF m pc Ls (.int y :: .int x :: S)) := h.st fun _ k => XS.idiv X.here hx rfl hd rfl hy k
theorem Go.ineg (X : Stand p l e R s m args below meth c T locs cells slots) (hx : p.tables.exec = Jvm.exec) {x : Int32} (hd : decode c.code pc = .ok (.ineg, 1))  (h : Go p e below F Q T (mkF m (pc + 1) Ls (.int (-x) :: S))) : Go p e below F Q T (mkF m pc Ls (.int x :: S)) := h.st fun _ k => XS.ineg X.here hx rfl hd rfl k
theorem Go.ladd (X : Stand p l e R s m args below meth c T locs cells slots) (hx : p.tables.exec = Jvm.exec) {x y : Int64} (hd : decode c.code pc = .ok (.ladd, 1))  (h : Go p e below F Q T (mkF m (pc + 1) Ls (.long (x + y) :: S))) : Go p e below F Q T (mkF m pc Ls (.long y :: .long x :: S)) := h.st fun _ k => XS.ladd X.here hx rfl hd rfl k
theorem Go.lsub (X : Stand p l e R s m args below meth c T locs cells slots) (hx : p.tables.exec = Jvm.exec) {x y : Int64} (hd : decode c.code pc = .ok (.lsub, 1))  (h : Go p e below F Q T (mkF m (pc + 1) Ls (.long (x - y) :: S))) : Go p e below F Q T (mkF m pc Ls (.long y :: .long x :: S)) := h.st fun _ k => XS.lsub X.here hx rfl hd rfl k
theorem Go.lmul (X : Stand p l e R s m args below meth c T locs cells slots) (hx : p.tables.exec = Jvm.exec) {x y : Int64} (hd : decode c.code pc = .ok (.lmul, 1))  (h : Go p e below F Q T (mkF m (pc + 1) Ls (.long (x * y) :: S))) : Go p e below F Q T (mkF m pc Ls (.long y :: .long x :: S)) := h.st fun _ k => XS.lmul X.here hx rfl hd rfl k
theorem Go.land (X : Stand p l e R s m args below meth c T locs cells slots) (hx : p.tables.exec = Jvm.exec) {x y : Int64} (hd : decode c.code pc = .ok (.land, 1))  (h : Go p e below F Q T (mkF m (pc + 1) Ls (.long (x &&& y) :: S))) : Go p e below F Q T (mkF m pc Ls (.long y :: .long x :: S)) := h.st fun _ k => XS.land X.here hx rfl hd rfl k
theorem Go.lor (X : Stand p l e R s m args below meth c T locs cells slots) (hx : p.tables.exec = Jvm.exec) {x y : Int64} (hd : decode c.code pc = .ok (.lor, 1))  (h : Go p e below F Q T (mkF m (pc + 1) Ls (.long (x ||| y) :: S))) : Go p e below F Q T (mkF m pc Ls (.long y :: .long x :: S)) := h.st fun _ k => XS.lor X.here hx rfl hd rfl k
theorem Go.lxor (X : Stand p l e R s m args below meth c T locs cells slots) (hx : p.tables.exec = Jvm.exec) {x y : Int64} (hd : decode c.code pc = .ok (.lxor, 1))  (h : Go p e below F Q T (mkF m (pc + 1) Ls (.long (x ^^^ y) :: S))) : Go p e below F Q T (mkF m pc Ls (.long y :: .long x :: S)) := h.st fun _ k => XS.lxor X.here hx rfl hd rfl k
theorem Go.ldiv (X : Stand p l e R s m args below meth c T locs cells slots) (hx : p.tables.exec = Jvm.exec) {x y : Int64} (hd : decode c.code pc = .ok (.ldiv, 1)) (hy : y ≠ 0) (h : Go p e below F Q T (mkF m (pc + 1) Ls (.long (x / y) :: S))) : Go p e below F Q T (mkF m pc Ls (.long y :: .long x :: S)) := h.st fun _ k => XS.ldiv X.here hx rfl hd rfl hy k
theorem Go.lneg (X : Stand p l e R s m args below meth c T locs cells slots) (hx : p.tables.exec = Jvm.exec) {x : Int64} (hd : decode c.code pc = .ok (.lneg, 1))  (h : Go p e below F Q T (mkF m (pc + 1) Ls (.long (-x) :: S))) : Go p e below F Q T (mkF m pc Ls (.long x :: S)) := h.st fun _ k => XS.lneg X.here hx rfl hd rfl k
theorem Go.irem (X : Stand p l e R s m args below meth c T locs cells slots) (hx : p.tables.exec = Jvm.exec) {x y : Int32} (hd : decode c.code pc = .ok (.irem, 1)) (hy : y ≠ 0) (h : Go p e below F Q T (mkF m (pc + 1) Ls (.int (x % y) :: S))) : Go p e below F Q T (mkF m pc Ls (.int y :: .int x :: S)) := h.st fun _ k => Jvm.RoadKit.iremM X hx rfl hd rfl hy k
theorem Go.lrem (X : Stand p l e R s m args below meth c T locs cells slots) (hx : p.tables.exec = Jvm.exec) {x y : Int64} (hd : decode c.code pc = .ok (.lrem, 1)) (hy : y ≠ 0) (h : Go p e below F Q T (mkF m (pc + 1) Ls (.long (x % y) :: S))) : Go p e below F Q T (mkF m pc Ls (.long y :: .long x :: S)) := h.st fun _ k => XS.lrem X.here hx rfl hd rfl hy (by rw [lrem_mod]; exact k)
theorem Go.ishl (X : Stand p l e R s m args below meth c T locs cells slots) (hx : p.tables.exec = Jvm.exec) {x : Int32} {y : Int32} (hd : decode c.code pc = .ok (.ishl, 1))  (h : Go p e below F Q T (mkF m (pc + 1) Ls (.int (x <<< (y &&& 31)) :: S))) : Go p e below F Q T (mkF m pc Ls (.int y :: .int x :: S)) := h.st fun _ k => XS.ishl X.here hx rfl hd rfl k
theorem Go.ishr (X : Stand p l e R s m args below meth c T locs cells slots) (hx : p.tables.exec = Jvm.exec) {x : Int32} {y : Int32} (hd : decode c.code pc = .ok (.ishr, 1))  (h : Go p e below F Q T (mkF m (pc + 1) Ls (.int (x >>> (y &&& 31)) :: S))) : Go p e below F Q T (mkF m pc Ls (.int y :: .int x :: S)) := h.st fun _ k => XS.ishr X.here hx rfl hd rfl k
theorem Go.iushr (X : Stand p l e R s m args below meth c T locs cells slots) (hx : p.tables.exec = Jvm.exec) {x : Int32} {y : Int32} (hd : decode c.code pc = .ok (.iushr, 1))  (h : Go p e below F Q T (mkF m (pc + 1) Ls (.int ((x.toUInt32 >>> (y &&& 31).toUInt32).toInt32) :: S))) : Go p e below F Q T (mkF m pc Ls (.int y :: .int x :: S)) := h.st fun _ k => XS.iushr X.here hx rfl hd rfl k
theorem Go.lshl (X : Stand p l e R s m args below meth c T locs cells slots) (hx : p.tables.exec = Jvm.exec) {x : Int64} {y : Int32} (hd : decode c.code pc = .ok (.lshl, 1))  (h : Go p e below F Q T (mkF m (pc + 1) Ls (.long (x <<< (y &&& 0x3f).toInt64) :: S))) : Go p e below F Q T (mkF m pc Ls (.int y :: .long x :: S)) := h.st fun _ k => XS.lshl X.here hx rfl hd rfl k
theorem Go.lshr (X : Stand p l e R s m args below meth c T locs cells slots) (hx : p.tables.exec = Jvm.exec) {x : Int64} {y : Int32} (hd : decode c.code pc = .ok (.lshr, 1))  (h : Go p e below F Q T (mkF m (pc + 1) Ls (.long (x >>> (y &&& 0x3f).toInt64) :: S))) : Go p e below F Q T (mkF m pc Ls (.int y :: .long x :: S)) := h.st fun _ k => XS.lshr X.here hx rfl hd rfl k
theorem Go.lushr (X : Stand p l e R s m args below meth c T locs cells slots) (hx : p.tables.exec = Jvm.exec) {x : Int64} {y : Int32} (hd : decode c.code pc = .ok (.lushr, 1))  (h : Go p e below F Q T (mkF m (pc + 1) Ls (.long ((x.toUInt64 >>> (y &&& 0x3f).toInt64.toUInt64).toInt64) :: S))) : Go p e below F Q T (mkF m pc Ls (.int y :: .long x :: S)) := h.st fun _ k => XS.lushr X.here hx rfl hd rfl k
theorem Go.i2l (X : Stand p l e R s m args below meth c T locs cells slots) (hx : p.tables.exec = Jvm.exec) {x : Int32} (hd : decode c.code pc = .ok (.i2l, 1))  (h : Go p e below F Q T (mkF m (pc + 1) Ls (.long (x.toInt64) :: S))) : Go p e below F Q T (mkF m pc Ls (.int x :: S)) := h.st fun _ k => XS.i2l X.here hx rfl hd rfl k
theorem Go.l2i (X : Stand p l e R s m args below meth c T locs cells slots) (hx : p.tables.exec = Jvm.exec) {x : Int64} (hd : decode c.code pc = .ok (.l2i, 1))  (h : Go p e below F Q T (mkF m (pc + 1) Ls (.int (x.toInt32) :: S))) : Go p e below F Q T (mkF m pc Ls (.long x :: S)) := h.st fun _ k => XS.l2i X.here hx rfl hd rfl k
theorem Go.i2b (X : Stand p l e R s m args below meth c T locs cells slots) (hx : p.tables.exec = Jvm.exec) {x : Int32} (hd : decode c.code pc = .ok (.i2b, 1))  (h : Go p e below F Q T (mkF m (pc + 1) Ls (.int (x.toInt8.toInt32) :: S))) : Go p e below F Q T (mkF m pc Ls (.int x :: S)) := h.st fun _ k => XS.i2b X.here hx rfl hd rfl k
theorem Go.i2s (X : Stand p l e R s m args below meth c T locs cells slots) (hx : p.tables.exec = Jvm.exec) {x : Int32} (hd : decode c.code pc = .ok (.i2s, 1))  (h : Go p e below F Q T (mkF m (pc + 1) Ls (.int (x.toInt16.toInt32) :: S))) : Go p e below F Q T (mkF m pc Ls (.int x :: S)) := h.st fun _ k => XS.i2s X.here hx rfl hd rfl k
theorem Go.i2c (X : Stand p l e R s m args below meth c T locs cells slots) (hx : p.tables.exec = Jvm.exec) {x : Int32} (hd : decode c.code pc = .ok (.i2c, 1))  (h : Go p e below F Q T (mkF m (pc + 1) Ls (.int (x.toUInt32.toUInt16.toUInt32.toInt32) :: S))) : Go p e below F Q T (mkF m pc Ls (.int x :: S)) := h.st fun _ k => XS.i2c X.here hx rfl hd rfl k
theorem Go.lcmp (X : Stand p l e R s m args below meth c T locs cells slots) (hx : p.tables.exec = Jvm.exec) {x y : Int64} (hd : decode c.code pc = .ok (.lcmp, 1))  (h : Go p e below F Q T (mkF m (pc + 1) Ls (.int (XT.cmpL x y) :: S))) : Go p e below F Q T (mkF m pc Ls (.long y :: .long x :: S)) := h.st fun _ k => XT.lcmp X.here hx rfl hd rfl k
theorem Go.dup (X : Stand p l e R s m args below meth c T locs cells slots) (hx : p.tables.exec = Jvm.exec) {x : Value} (hd : decode c.code pc = .ok (.dup, 1)) (hc : x.category = 1) (h : Go p e below F Q T (mkF m (pc + 1) Ls (x :: x :: S))) : Go p e below F Q T (mkF m pc Ls (x :: S)) := h.st fun _ k => XS.dup X.here hx rfl hd rfl hc k
theorem Go.pop (X : Stand p l e R s m args below meth c T locs cells slots) (hx : p.tables.exec = Jvm.exec) {x : Value} (hd : decode c.code pc = .ok (.pop, 1)) (hc : x.category = 1) (h : Go p e below F Q T (mkF m (pc + 1) Ls S)) : Go p e below F Q T (mkF m pc Ls (x :: S)) := h.st fun _ k => XS.pop X.here hx rfl hd rfl hc k
theorem Go.dupX1 (X : Stand p l e R s m args below meth c T locs cells slots) (hx : p.tables.exec = Jvm.exec) {x y : Value} (hd : decode c.code pc = .ok (.dup_x1, 1)) (hc : x.category = 1) (hc' : y.category = 1) (h : Go p e below F Q T (mkF m (pc + 1) Ls (x :: y :: x :: S))) : Go p e below F Q T (mkF m pc Ls (x :: y :: S)) := h.st fun _ k => XS.dupX1 X.here hx rfl hd rfl hc hc' k
theorem Go.iinc (X : Stand p l e R s m args below meth c T locs cells slots) (hx : p.tables.exec = Jvm.exec) {k : Nat} {cst : Int} {x : Int32} {l' : Array Slot} (v : Int32) (hd : decode c.code pc = .ok (.iinc k cst, 3)) (hv : Int32.ofInt cst = v) (hl : Ls[k]? = some (.val (.int x))) (hl' : storeLocals Ls k (.int (x + v)) = some l') (h : Go p e below F Q T (mkF m (pc + 3) l' S)) : Go p e below F Q T (mkF m pc Ls S) := h.st fun _ k => XT.iincV X.here hx rfl v hd hv hl hl' k
theorem Go.iincF (X : Stand p l e R s m args below meth c T locs cells slots) (hx : p.tables.exec = Jvm.exec) {k : Nat} {cst : Int} {x : Int32} {l' : Array Slot} (v z : Int32) (hd : decode c.code pc = .ok (.iinc k cst, 3)) (hv : Int32.ofInt cst = v) (hz : x + v = z) (hl : Ls[k]? = some (.val (.int x))) (hl' : storeLocals Ls k (.int z) = some l') (h : Go p e below F Q T (mkF m (pc + 3) l' S)) : Go p e below F Q T (mkF m pc Ls S) := Go.iinc X hx v hd hv hl (hz ▸ hl') h
theorem Go.istoreS (X : Stand p l e R s m args below meth c T locs cells slots) (hx : p.tables.exec = Jvm.exec) {k : Nat} {x : Int32} {o : Slot} (hd : decode c.code pc = .ok (.istore k, 2)) (hold : Ls[k]? = some o) (ho : One o) (h : Go p e below F Q T (mkF m (pc + 2) (Ls.setIfInBounds k (.val (.int x))) S)) : Go p e below F Q T (mkF m pc Ls (.int x :: S)) := h.st fun _ q => XS.istoreS X.here hx rfl hd rfl hold ho q
theorem Go.istoreNS (X : Stand p l e R s m args below meth c T locs cells slots) (hx : p.tables.exec = Jvm.exec) {k : Fin 4} {x : Int32} {o : Slot} (hd : decode c.code pc = .ok (.istore_n k, 1)) (hold : Ls[k.val]? = some o) (ho : One o) (h : Go p e below F Q T (mkF m (pc + 1) (Ls.setIfInBounds k.val (.val (.int x))) S)) : Go p e below F Q T (mkF m pc Ls (.int x :: S)) := h.st fun _ q => XS.istoreNS X.here hx rfl hd rfl hold ho q
theorem Go.goto (X : Stand p l e R s m args below meth c T locs cells slots) (hx : p.tables.exec = Jvm.exec) {o : Int} {pc' : Nat} (hd : decode c.code pc = .ok (.goto o, 3)) (ho : 0 ≤ (pc : Int) + o) (hp : ((pc : Int) + o).toNat = pc') (h : Go p e below F Q T (mkF m pc' Ls S)) : Go p e below F Q T (mkF m pc Ls S) := h.st fun _ k => XS.goto X.here hx rfl rfl hd ho hp k
theorem Go.ifYes (X : Stand p l e R s m args below meth c T locs cells slots) (hx : p.tables.exec = Jvm.exec) {cd : ClassFile.Cond} {x : Int32} {o : Int} {pc' : Nat} (hd : decode c.code pc = .ok (.ifCond cd o, 3)) (hc : ifCond.holds cd x = true) (ho : 0 ≤ (pc : Int) + o) (hp : ((pc : Int) + o).toNat = pc') (h : Go p e below F Q T (mkF m pc' Ls S)) : Go p e below F Q T (mkF m pc Ls (.int x :: S)) := h.st fun _ k => XS.ifYes X.here hx rfl rfl hd rfl hc ho hp k
theorem Go.ifNo (X : Stand p l e R s m args below meth c T locs cells slots) (hx : p.tables.exec = Jvm.exec) {cd : ClassFile.Cond} {x : Int32} {o : Int} (hd : decode c.code pc = .ok (.ifCond cd o, 3)) (hc : ifCond.holds cd x = false) (h : Go p e below F Q T (mkF m (pc + 3) Ls S)) : Go p e below F Q T (mkF m pc Ls (.int x :: S)) := h.st fun _ k => XS.ifNo X.here hx rfl hd rfl hc k
theorem Go.icmpYes (X : Stand p l e R s m args below meth c T locs cells slots) (hx : p.tables.exec = Jvm.exec) {cd : ClassFile.Cond} {x y : Int32} {o : Int} {pc' : Nat} (hd : decode c.code pc = .ok (.if_icmp cd o, 3)) (hc : if_icmp.holds cd x y = true) (ho : 0 ≤ (pc : Int) + o) (hp : ((pc : Int) + o).toNat = pc') (h : Go p e below F Q T (mkF m pc' Ls S)) : Go p e below F Q T (mkF m pc Ls (.int y :: .int x :: S)) := h.st fun _ k => XS.icmpYes X.here hx rfl rfl hd rfl hc ho hp k
theorem Go.icmpNo (X : Stand p l e R s m args below meth c T locs cells slots) (hx : p.tables.exec = Jvm.exec) {cd : ClassFile.Cond} {x y : Int32} {o : Int} (hd : decode c.code pc = .ok (.if_icmp cd o, 3)) (hc : if_icmp.holds cd x y = false) (h : Go p e below F Q T (mkF m (pc + 3) Ls S)) : Go p e below F Q T (mkF m pc Ls (.int y :: .int x :: S)) := h.st fun _ k => XS.icmpNo X.here hx rfl hd rfl hc k
theorem Go.ifnullYes (X : Stand p l e R s m args below meth c T locs cells slots) (hx : p.tables.exec = Jvm.exec) {o : Int} {pc' : Nat} (hd : decode c.code pc = .ok (.ifnull o, 3)) (ho : 0 ≤ (pc : Int) + o) (hp : ((pc : Int) + o).toNat = pc') (h : Go p e below F Q T (mkF m pc' Ls S)) : Go p e below F Q T (mkF m pc Ls (.null :: S)) := h.st fun _ k => XS.ifnullYes X.here hx rfl rfl hd rfl ho hp k
theorem Go.ifnullNo (X : Stand p l e R s m args below meth c T locs cells slots) (hx : p.tables.exec = Jvm.exec) {o : Int} {b : Addr} (hd : decode c.code pc = .ok (.ifnull o, 3)) (h : Go p e below F Q T (mkF m (pc + 3) Ls S)) : Go p e below F Q T (mkF m pc Ls (.ref b :: S)) := h.st fun _ k => XS.ifnullNo X.here hx rfl hd rfl k
theorem Go.ifnonnullYes (X : Stand p l e R s m args below meth c T locs cells slots) (hx : p.tables.exec = Jvm.exec) {o : Int} {b : Addr} {pc' : Nat} (hd : decode c.code pc = .ok (.ifnonnull o, 3)) (ho : 0 ≤ (pc : Int) + o) (hp : ((pc : Int) + o).toNat = pc') (h : Go p e below F Q T (mkF m pc' Ls S)) : Go p e below F Q T (mkF m pc Ls (.ref b :: S)) := h.st fun _ k => XS.ifnonnullYes X.here hx rfl rfl hd rfl ho hp k
theorem Go.ifnonnullNo (X : Stand p l e R s m args below meth c T locs cells slots) (hx : p.tables.exec = Jvm.exec) {o : Int} (hd : decode c.code pc = .ok (.ifnonnull o, 3)) (h : Go p e below F Q T (mkF m (pc + 3) Ls S)) : Go p e below F Q T (mkF m pc Ls (.null :: S)) := h.st fun _ k => XS.ifnonnullNo X.here hx rfl hd rfl k
theorem Go.acmpYes (X : Stand p l e R s m args below meth c T locs cells slots) (hx : p.tables.exec = Jvm.exec) {cd : ClassFile.ACond} {x y : Value} {o : Int} {pc' : Nat} (hd : decode c.code pc = .ok (.if_acmp cd o, 3)) (hx' : x.isRef = true) (hy' : y.isRef = true) (hc : XT.acmp cd x y = true) (ho : 0 ≤ (pc : Int) + o) (hp : ((pc : Int) + o).toNat = pc') (h : Go p e below F Q T (mkF m pc' Ls S)) : Go p e below F Q T (mkF m pc Ls (y :: x :: S)) := h.st fun _ k => XT.acmpYes X.here hx rfl rfl hd rfl hx' hy' hc ho hp k
theorem Go.acmpNo (X : Stand p l e R s m args below meth c T locs cells slots) (hx : p.tables.exec = Jvm.exec) {cd : ClassFile.ACond} {x y : Value} {o : Int} (hd : decode c.code pc = .ok (.if_acmp cd o, 3)) (hx' : x.isRef = true) (hy' : y.isRef = true) (hc : XT.acmp cd x y = false) (h : Go p e below F Q T (mkF m (pc + 3) Ls S)) : Go p e below F Q T (mkF m pc Ls (y :: x :: S)) := h.st fun _ k => XT.acmpNo X.here hx rfl hd rfl hx' hy' hc k
theorem Go.ldcI (X : Stand p l e R s m args below meth c T locs cells slots) (hx : p.tables.exec = Jvm.exec) (hZ : Z.Warmed39 s.vm) {index : Nat} {v : Int32} (hown : s.vm.findClass own = some m.cls) (w : (Jvm.Cond.constant own index v).before a0 Z = true) (hd : decode c.code pc = .ok (.ldc index, 2)) (h : Go p e below F Q T (mkF m (pc + 2) Ls (.int v :: S))) : Go p e below F Q T (mkF m pc Ls S) := h.st fun _ k => Jvm.Stand.ldcI X hx hown (mvT hZ w) rfl hd k
theorem Go.ldcWI (X : Stand p l e R s m args below meth c T locs cells slots) (hx : p.tables.exec = Jvm.exec) (hZ : Z.Warmed39 s.vm) {index : Nat} {v : Int32} (hown : s.vm.findClass own = some m.cls) (w : (Jvm.Cond.constant own index v).before a0 Z = true) (hd : decode c.code pc = .ok (.ldc_w index, 3)) (h : Go p e below F Q T (mkF m (pc + 3) Ls (.int v :: S))) : Go p e below F Q T (mkF m pc Ls S) := h.st fun _ k => Jvm.Stand.ldcWI X hx hown (mvT hZ w) rfl hd k
theorem Go.ldc2J (X : Stand p l e R s m args below meth c T locs cells slots) (hx : p.tables.exec = Jvm.exec) (hZ : Z.Warmed39 s.vm) {index : Nat} {v : Int64} (hown : s.vm.findClass own = some m.cls) (w : (Jvm.Cond.constantLong own index v).before a0 Z = true) (hd : decode c.code pc = .ok (.ldc2_w index, 3)) (h : Go p e below F Q T (mkF m (pc + 3) Ls (.long v :: S))) : Go p e below F Q T (mkF m pc Ls S) := h.st fun _ k => Jvm.Stand.ldc2J X hx hown (mvT hZ w) rfl hd k
theorem Go.retN (X : Stand p l e R s m args below meth c T locs cells slots) (hx : p.tables.exec = Jvm.exec) {t : FieldType} {z : Int32} (hret : meth.sig.returnType = some t) (hlk : meth.locks = false) (ht : t = .boolean ∨ t = .byte ∨ t = .char ∨ t = .short) (hd : decode c.code pc = .ok (.ireturn, 1)) (hC : cells ≤ C) (hN : slots ≤ N) (hQ : Q (some (.int (nar t z))) T.heap locs) : Go p e below (FE s C N) Q T (mkF m pc Ls (.int z :: S)) := by
  obtain ⟨fs, hr, hrun, hended, hW, hsame⟩ := X.leave (v := some (.int (nar t z))) (fun h => by rw [hret] at h; cases h) hlk
  exact ⟨_, _, Jvm.RoadKit.retN X hx hret ht hd hr, hrun, hended, _, _, rfl, hQ, ⟨_, rfl⟩, hW, hsame.mono hC hN⟩
theorem Go.retI (X : Stand p l e R s m args below meth c T locs cells slots) (hx : p.tables.exec = Jvm.exec) {z : Int32} (hret : meth.sig.returnType = some .int) (hlk : meth.locks = false) (hd : decode c.code pc = .ok (.ireturn, 1)) (hC : cells ≤ C) (hN : slots ≤ N) (hQ : Q (some (.int z)) T.heap locs) : Go p e below (FE s C N) Q T (mkF m pc Ls (.int z :: S)) := by
  obtain ⟨fs, hr, hrun, hended, hW, hsame⟩ := X.leave (v := some (.int z)) (fun h => by rw [hret] at h; cases h) hlk
  exact ⟨_, _, retOut X hx hret rfl (Or.inl ⟨rfl, Or.inl rfl, _, rfl⟩) hd hr, hrun, hended, _, _, rfl, hQ, ⟨_, rfl⟩, hW, hsame.mono hC hN⟩
theorem Go.retJ (X : Stand p l e R s m args below meth c T locs cells slots) (hx : p.tables.exec = Jvm.exec) {z : Int64} (hret : meth.sig.returnType = some .long) (hlk : meth.locks = false) (hd : decode c.code pc = .ok (.lreturn, 1)) (hC : cells ≤ C) (hN : slots ≤ N) (hQ : Q (some (.long z)) T.heap locs) : Go p e below (FE s C N) Q T (mkF m pc Ls (.long z :: S)) := by
  obtain ⟨fs, hr, hrun, hended, hW, hsame⟩ := X.leave (v := some (.long z)) (fun h => by rw [hret] at h; cases h) hlk
  exact ⟨_, _, retOut X hx hret rfl (Or.inr (Or.inl ⟨rfl, rfl, _, rfl⟩)) hd hr, hrun, hended, _, _, rfl, hQ, ⟨_, rfl⟩, hW, hsame.mono hC hN⟩
theorem Go.retA (X : Stand p l e R s m args below meth c T locs cells slots) (hx : p.tables.exec = Jvm.exec) {w : Value} {t : FieldType} (hret : meth.sig.returnType = some t) (hlk : meth.locks = false) (ht : t.isReference = true) (hw : w.isRef = true) (hn : narrow t w = w) (hd : decode c.code pc = .ok (.areturn, 1)) (hC : cells ≤ C) (hN : slots ≤ N) (hQ : Q (some w) T.heap locs) : Go p e below (FE s C N) Q T (mkF m pc Ls (w :: S)) := by
  obtain ⟨fs, hr, hrun, hended, hW, hsame⟩ := X.leave (v := some w) (fun h => by rw [hret] at h; cases h) hlk
  exact ⟨_, _, retOut X hx hret hn (Or.inr (Or.inr (Or.inr (Or.inr ⟨rfl, ht, hw⟩)))) hd hr, hrun, hended, _, _, rfl, hQ, ⟨_, rfl⟩, hW, hsame.mono hC hN⟩
theorem Go.retV (X : Stand p l e R s m args below meth c T locs cells slots) (hx : p.tables.exec = Jvm.exec) (hret : meth.sig.returnType = none) (hlk : meth.locks = false) (hd : decode c.code pc = .ok (.return_, 1)) (hC : cells ≤ C) (hN : slots ≤ N) (hQ : Q none T.heap locs) : Go p e below (FE s C N) Q T (mkF m pc Ls []) := by
  obtain ⟨fs, hr, hrun, hended, hW, hsame⟩ := X.leave (v := none) (fun _ => rfl) hlk
  exact ⟨_, _, X.returnOut hx hret hd hr, hrun, hended, _, _, rfl, hQ, ⟨_, rfl⟩, hW, hsame.mono hC hN⟩
theorem Go.getF (X : Stand p l e R s m args below meth c T locs cells slots) (hx : p.tables.exec = Jvm.exec) (hZ : Z.Warmed39 s.vm) {R0 O n d host : String} {index : Nat} (hown : s.vm.findClass own = some m.cls) (w : (Jvm.Cond.fieldLink own index R0 n d).before a0 Z = true ∨ (Jvm.Cond.fieldLinkNest own index R0 n d host).before a0 Z = true) (via : Via Z R0 O n d) (eT : T.heap = h) {a : Addr} {v : Value} (Fl : Fld Z h a O n d v) (hd : decode c.code pc = .ok (.getfield index, 3)) (k : ∀ T', Stand p l e R s m args below meth c T' locs cells slots → T'.heap = h → Go p e below F Q T' (mkF m (pc + 3) Ls (v :: S))) : Go p e below F Q T (mkF m pc Ls (.ref a :: S)) := by
  obtain ⟨T', X', e', st⟩ := Jvm.RoadKit.getF X hx hZ hown w via eT Fl (g := mkF m pc Ls (.ref a :: S)) rfl rfl hd
  exact (k T' X' e').st st
theorem Go.getS (X : Stand p l e R s m args below meth c T locs cells slots) (hx : p.tables.exec = Jvm.exec) (hZ : Z.Warmed39 s.vm) {R0 O n d host : String} {index : Nat} (hown : s.vm.findClass own = some m.cls) (w : (Jvm.Cond.fieldLink own index R0 n d).before a0 Z = true ∨ (Jvm.Cond.fieldLinkNest own index R0 n d host).before a0 Z = true) (via : Via Z R0 O n d) (eT : T.heap = h) {v : Value} (Fl : Sta Z h O n d v) (hd : decode c.code pc = .ok (.getstatic index, 3)) (k : ∀ T', Stand p l e R s m args below meth c T' locs cells slots → T'.heap = h → Go p e below F Q T' (mkF m (pc + 3) Ls (v :: S))) : Go p e below F Q T (mkF m pc Ls S) := by
  obtain ⟨T', X', e', st⟩ := getS2 X hx hZ hown w via eT Fl (g := mkF m pc Ls S) rfl hd
  exact (k T' X' e').st st
theorem Go.putF (X : Stand p l e R s m args below meth c T locs cells slots) (hx : p.tables.exec = Jvm.exec) (hZ : Z.Warmed39 s.vm) {R0 O n d host K : String} {index kk : Nat} {ty : FieldType} (hown : s.vm.findClass own = some m.cls) (w : (Jvm.Cond.fieldLink own index R0 n d).before a0 Z = true ∨ (Jvm.Cond.fieldLinkNest own index R0 n d host).before a0 Z = true) (via : Via Z R0 O n d) (eT : T.heap = h) {a : Addr} {v old : Value} (Fl : Fld Z h a O n d old) (E : Exa Z h a K) (L : (Jvm.Cond.lays K O n d).before a0 Z = true ∨ ((Jvm.Cond.laysFinal K O n d).before a0 Z = true ∧ own = O ∧ meth.name = "<init>")) (wi : (Jvm.Cond.instantiable K kk).before a0 Z = true) (hty : parseFieldDescriptor d = some ty) (hn : narrow ty v = v) (hf : fits ty v = true) (hd : decode c.code pc = .ok (.putfield index, 3)) (k : ∀ T' h', Stand p l e R s m args below meth c T' (locs ++ [⟨a, Jvm.RoadKit.slotOf Z O n d⟩]) cells slots → T'.heap = h' → Wr h h' a (Jvm.RoadKit.slotOf Z O n d) v → Go p e below F Q T' (mkF m (pc + 3) Ls S)) : Go p e below F Q T (mkF m pc Ls (v :: .ref a :: S)) := by
  obtain ⟨T', h', X', e', W', st⟩ := Jvm.RoadKit.putF X hx hZ hown w via eT Fl E L wi hty hn hf (g := mkF m pc Ls (v :: .ref a :: S)) rfl rfl hd
  exact (k T' h' X' e' W').st st
theorem Go.newO (X : Stand p l e R s m args below meth c T locs cells slots) (hx : p.tables.exec = Jvm.exec) (hZ : Z.Warmed39 s.vm) {K : String} {index n : Nat} (hown : s.vm.findClass own = some m.cls) (w : (Jvm.Cond.classLink own index K).before a0 Z = true) (wi : (Jvm.Cond.instantiable K n).before a0 Z = true) (wz : (Jvm.Cond.initialized K).before a0 Z = true) (eT : T.heap = h) (hd : decode c.code pc = .ok (.new index, 3)) (hc : cells + 1 ≤ R.cells) (hl : slots + n ≤ R.slots) (k : ∀ T' h' a, a = h.size → Stand p l e R s m args below meth c T' locs (cells + 1) (slots + n) → T'.heap = h' → Ext h h' → Exa Z h' a K → (∀ {O nm d : String} {ty : FieldType}, Laid Z a0 K O nm d → parseFieldDescriptor d = some ty → Fld Z h' a O nm d (defaultValue ty)) → Go p e below F Q T' (mkF m (pc + 3) Ls (.ref a :: S))) : Go p e below F Q T (mkF m pc Ls S) := by
  obtain ⟨T', h', X', e', E', A', D', -, st⟩ := Jvm.RoadKit.newO X hx hZ hown w wi wz eT (g := mkF m pc Ls S) rfl hd hc hl
  exact (k T' h' _ rfl X' e' E' A' D').st st
theorem Go.initO (X : Stand p l e R s m args below meth c T locs cells slots) (hx : p.tables.exec = Jvm.exec) (hZ : Z.Warmed39 s.vm) {idx : Nat} (hown : s.vm.findClass own = some m.cls) (w1 : (Jvm.Cond.methodLink own idx Lib.objectInit).before a0 Z = true) (w2 : (Jvm.Cond.instanceMethod Lib.objectInit).before a0 Z = true) (w3 : (Jvm.Cond.code Lib.objectInit ⟨#[0xb1]⟩ 1 none).before a0 Z = true) (eT : T.heap = h) (hsize : Ls.size = c.maxLocals) {a : Addr} (hd : decode c.code pc = .ok (.invokespecial idx, 3)) (hf : 1 ≤ R.frames) {W : Nat} (hW : (S.map fun v => v.category).sum ≤ W) (hl : W + 12 ≤ R.locals) (k : ∀ T', Stand p l e R s m args below meth c T' locs cells slots → T'.heap = h → Go p e below F Q T' (mkF m (pc + 3) Ls S)) : Go p e below F Q T (mkF m pc Ls (.ref a :: S)) := by
  obtain ⟨T', X', e', st⟩ := Jvm.RoadKit.initO X hx hZ hown w1 w2 w3 eT (g := mkF m pc Ls (.ref a :: S)) rfl hsize rfl hd hf (W := W) (by show 2 * 0 + _ ≤ _; omega) hl
  exact (k T' X' e').st st
theorem Go.callS (X : Stand p l e R s m args below meth c T locs cells slots) (hx : p.tables.exec = Jvm.exec) (hZ : Z.Warmed39 s.vm) {index : Nat} {y : MethodName} {bytes : ByteArray} {maxL : Nat} {ret : Option FieldType} {rm : Room} {as' : Array Value} {Qy : Option Value → Heap → List Loc → Prop} (hM : MetFree l y (head1 [Jvm.Cond.code y bytes maxL ret] rm) (fun a U => a = as' ∧ Z.Warmed39 U.vm ∧ U.heap = h) (fun _ _ _ _ _ => True) (fun _ U o U' => ∃ v L, o = .returned v ∧ Qy v U'.heap L ∧ FrameEnd U o U' L rm.cells rm.slots)) (hown : s.vm.findClass own = some m.cls) (wl : (Jvm.Cond.methodLink own index y).before a0 Z = true) (ws : (Jvm.Cond.static y).before a0 Z = true) (wi : (Jvm.Cond.initialized y.cls).before a0 Z = true) (wc : (Jvm.Cond.code y bytes maxL ret).before a0 Z = true) (hy : y.cls ≠ "java/lang/invoke/MethodHandle" ∧ y.cls ≠ "java/lang/invoke/VarHandle") (eT : T.heap = h) {W : Nat} (hsize : Ls.size = c.maxLocals) {argsL : List Value} (hW : (S.map fun v => v.category).sum ≤ W) (hf : rm.frames + 1 ≤ R.frames) (hl : W + (maxL + 11) + rm.locals ≤ R.locals) (hc : cells + rm.cells ≤ R.cells) (hs : slots + rm.slots ≤ R.slots) {ps : List FieldType} {r : Option FieldType} (hds : parseMethodDescriptor y.desc = some ⟨ps, r⟩) (hlen : argsL.length = ps.length) (has : argsL.toArray = as') (hd : decode c.code pc = .ok (.invokestatic index, 3)) (k : ∀ v T' L, Stand p l e R s m args below meth c T' (locs ++ L) (cells + rm.cells) (slots + rm.slots) → Qy v T'.heap L → Go p e below F Q T' (mkF m (pc + 3) Ls (v.toList ++ S))) : Go p e below F Q T (mkF m pc Ls (argsL.reverse ++ S)) := by
  obtain ⟨_, _, ⟨T', L', k', n'⟩, -, X', ⟨L, hq, e1, e2, e3⟩, st⟩ := Jvm.LawKit.callS X hx hown (mvT hZ wl) (mvT hZ ws) (mvT hZ wi) (mvT hZ wc) hy (backOf (W := W) hM hZ wc wi hf hl) (g := mkF m pc Ls (argsL.reverse ++ S)) rfl hsize (argsL := argsL) (rest := S) (lenOf hds hlen) rfl (by show 2 * 0 + _ ≤ _; omega) hd (fun _ _ => ⟨has, eT, hc, hs⟩)
  dsimp only [Pt.U, Pt.locs, Pt.cells, Pt.slots] at X' e1 e2 e3 st hq
  subst e1 e2 e3
  exact (k _ _ _ X' hq).st st
theorem Go.callI (X : Stand p l e R s m args below meth c T locs cells slots) (hx : p.tables.exec = Jvm.exec) (hZ : Z.Warmed39 s.vm) {index : Nat} {y : MethodName} {bytes : ByteArray} {maxL : Nat} {rm : Room} {as' : Array Value} {Qy : Option Value → Heap → List Loc → Prop} (hM : MetFree l y (head1 [Jvm.Cond.code y bytes maxL none] rm) (fun a U => a = as' ∧ Z.Warmed39 U.vm ∧ U.heap = h) (fun _ _ _ _ _ => True) (fun _ U o U' => ∃ v L, o = .returned v ∧ Qy v U'.heap L ∧ FrameEnd U o U' L rm.cells rm.slots)) (hy1 : y.name = "<init>") (hown : s.vm.findClass own = some m.cls) (wl : (Jvm.Cond.methodLink own index y).before a0 Z = true) (ws : (Jvm.Cond.instanceMethod y).before a0 Z = true) (wi : (Jvm.Cond.initialized y.cls).before a0 Z = true) (wc : (Jvm.Cond.code y bytes maxL none).before a0 Z = true) (hy : y.cls ≠ "java/lang/invoke/MethodHandle" ∧ y.cls ≠ "java/lang/invoke/VarHandle") (eT : T.heap = h) {a : Addr} {W : Nat} (hsize : Ls.size = c.maxLocals) {argsL : List Value} (hW : (S.map fun v => v.category).sum ≤ W) (hf : rm.frames + 1 ≤ R.frames) (hl : W + (maxL + 11) + rm.locals ≤ R.locals) (hc : cells + rm.cells ≤ R.cells) (hs : slots + rm.slots ≤ R.slots) {ps : List FieldType} {r : Option FieldType} (hds : parseMethodDescriptor y.desc = some ⟨ps, r⟩) (hlen : argsL.length = ps.length) (has : (.ref a :: argsL).toArray = as') (hd : decode c.code pc = .ok (.invokespecial index, 3)) (k : ∀ v T' L, Stand p l e R s m args below meth c T' (locs ++ L) (cells + rm.cells) (slots + rm.slots) → Qy v T'.heap L → Go p e below F Q T' (mkF m (pc + 3) Ls (v.toList ++ S))) : Go p e below F Q T (mkF m pc Ls (argsL.reverse ++ .ref a :: S)) := by
  obtain ⟨_, _, ⟨T', L', k', n'⟩, -, X', ⟨L, hq, e1, e2, e3⟩, st⟩ := X.specialBack hx hy1 hown (mvT hZ wl) (mvT hZ ws) (mvT hZ wc) hy (backOf (W := W) hM hZ wc wi hf hl) (g := mkF m pc Ls (argsL.reverse ++ .ref a :: S)) rfl hsize (Steps.refl _) (a := a) (argsL := argsL) (rest := S) (lenOf hds hlen) rfl (by show 2 * 0 + _ ≤ _; omega) hd (fun _ _ => ⟨has, eT, hc, hs⟩)
  dsimp only [Pt.U, Pt.locs, Pt.cells, Pt.slots] at X' e1 e2 e3 st hq
  subst e1 e2 e3
  exact (k _ _ _ X' hq).tr st
theorem Go.callV (X : Stand p l e R s m args below meth c T locs cells slots) (hx : p.tables.exec = Jvm.exec) (hZ : Z.Warmed39 s.vm) {index : Nat} {K : String} {y : MethodName} {bytes : ByteArray} {maxL : Nat} {ret : Option FieldType} {rm : Room} {as' : Array Value} {Qy : Option Value → Heap → List Loc → Prop} (hM : MetFree l y (head1 [Jvm.Cond.code y bytes maxL ret] rm) (fun a U => a = as' ∧ Z.Warmed39 U.vm ∧ U.heap = h) (fun _ _ _ _ _ => True) (fun _ U o U' => ∃ v L, o = .returned v ∧ Qy v U'.heap L ∧ FrameEnd U o U' L rm.cells rm.slots)) {y0 : MethodName} (hy : y0.cls ≠ "java/lang/invoke/MethodHandle" ∧ y0.cls ≠ "java/lang/invoke/VarHandle") (hown : s.vm.findClass own = some m.cls) (wl : (Jvm.Cond.methodLink own index y0).before a0 Z = true) (wd : (Jvm.Cond.declares y0).before a0 Z = true) (hnf : NotFace s y0) (wsel : (Jvm.Cond.selects K y0 y).before a0 Z = true) (ws : (Jvm.Cond.instanceMethod y).before a0 Z = true) (wi : (Jvm.Cond.initialized y.cls).before a0 Z = true) (wc : (Jvm.Cond.code y bytes maxL ret).before a0 Z = true) (eT : T.heap = h) {a : Addr} (E : Exa Z h a K) {W : Nat} (hsize : Ls.size = c.maxLocals) {argsL : List Value} (hW : (S.map fun v => v.category).sum ≤ W) (hf : rm.frames + 1 ≤ R.frames) (hl : W + (maxL + 11) + rm.locals ≤ R.locals) (hc : cells + rm.cells ≤ R.cells) (hs : slots + rm.slots ≤ R.slots) {ps : List FieldType} {r : Option FieldType} (hds : parseMethodDescriptor y0.desc = some ⟨ps, r⟩) (hlen : argsL.length = ps.length) (has : (.ref a :: argsL).toArray = as') (hd : decode c.code pc = .ok (.invokevirtual index, 3)) (k : ∀ v T' L, Stand p l e R s m args below meth c T' (locs ++ L) (cells + rm.cells) (slots + rm.slots) → Qy v T'.heap L → Go p e below F Q T' (mkF m (pc + 3) Ls (v.toList ++ S))) : Go p e below F Q T (mkF m pc Ls (argsL.reverse ++ .ref a :: S)) := by
  obtain ⟨cq, kq, q1, q2, q3⟩ := isOf hZ eT E
  obtain ⟨_, _, ⟨T', L', k', n'⟩, -, X', ⟨L, hq, e1, e2, e3⟩, st⟩ := X.virtualBack hx hown (mvT hZ wl) (mvT hZ wd) hnf (mvT hZ wsel) (mvT hZ ws) hy (backOf (W := W) hM hZ wc wi hf hl) q1 q3 (g := mkF m pc Ls (argsL.reverse ++ .ref a :: S)) rfl hsize (Steps.refl _) (argsL := argsL) (rest := S) (lenOf hds hlen) rfl (by show 2 * 0 + _ ≤ _; omega) hd (fun _ _ => ⟨has, eT, hc, hs⟩)
  dsimp only [Pt.U, Pt.locs, Pt.cells, Pt.slots] at X' e1 e2 e3 st hq
  subst e1 e2 e3
  exact (k _ _ _ X' hq).tr st
theorem Go.instY (X : Stand p l e R s m args below meth c T locs cells slots) (hx : p.tables.exec = Jvm.exec) (hZ : Z.Warmed39 s.vm) {K : String} {index : Nat} (hown : s.vm.findClass own = some m.cls) (w : (Jvm.Cond.classLink own index K).before a0 Z = true) (eT : T.heap = h) {a : Addr} (Fl : Ins Z h a K true) (hd : decode c.code pc = .ok (.instanceof index, 3)) (k : ∀ T', Stand p l e R s m args below meth c T' locs cells slots → T'.heap = h → Go p e below F Q T' (mkF m (pc + 3) Ls (.int 1 :: S))) : Go p e below F Q T (mkF m pc Ls (.ref a :: S)) := by
  obtain ⟨T', X', e', st⟩ := Jvm.RoadKit.instY X hx hZ hown w eT Fl (g := mkF m pc Ls (.ref a :: S)) rfl rfl hd
  exact (k T' X' e').st st
theorem Go.castY (X : Stand p l e R s m args below meth c T locs cells slots) (hx : p.tables.exec = Jvm.exec) (hZ : Z.Warmed39 s.vm) {K : String} {index : Nat} (hown : s.vm.findClass own = some m.cls) (w : (Jvm.Cond.classLink own index K).before a0 Z = true) (eT : T.heap = h) {a : Addr} (Fl : Ins Z h a K true) (hd : decode c.code pc = .ok (.checkcast index, 3)) (k : ∀ T', Stand p l e R s m args below meth c T' locs cells slots → T'.heap = h → Go p e below F Q T' (mkF m (pc + 3) Ls (.ref a :: S))) : Go p e below F Q T (mkF m pc Ls (.ref a :: S)) := by
  obtain ⟨T', X', e', st⟩ := Jvm.RoadKit.castY X hx hZ hown w eT Fl (g := mkF m pc Ls (.ref a :: S)) rfl rfl hd
  exact (k T' X' e').st st
theorem Go.instNo (X : Stand p l e R s m args below meth c T locs cells slots) (hx : p.tables.exec = Jvm.exec) (hZ : Z.Warmed39 s.vm) {K K0 : String} {index : Nat} (hown : s.vm.findClass own = some m.cls) (w : (Jvm.Cond.classLink own index K).before a0 Z = true) (eT : T.heap = h) {a : Addr} (E : Exa Z h a K0) (Fl : ∃ c t, Z.vm.findClass K0 = some c ∧ Z.vm.findClass K = some t ∧ Z.vm.assignable c t = false) (hd : decode c.code pc = .ok (.instanceof index, 3)) (k : ∀ T', Stand p l e R s m args below meth c T' locs cells slots → T'.heap = h → Go p e below F Q T' (mkF m (pc + 3) Ls (.int 0 :: S))) : Go p e below F Q T (mkF m pc Ls (.ref a :: S)) := by
  obtain ⟨T', X', e', st⟩ := Jvm.RoadKit.instNo X hx hZ hown w eT E Fl (g := mkF m pc Ls (.ref a :: S)) rfl rfl hd
  exact (k T' X' e').st st
theorem Go.instNull (X : Stand p l e R s m args below meth c T locs cells slots) (hx : p.tables.exec = Jvm.exec) {index : Nat} (hd : decode c.code pc = .ok (.instanceof index, 3)) (h : Go p e below F Q T (mkF m (pc + 3) Ls (.int 0 :: S))) : Go p e below F Q T (mkF m pc Ls (.null :: S)) := h.st fun _ k => X.instanceofNull hx (g := mkF m pc Ls (.null :: S)) rfl rfl hd _ k
theorem Go.castNull (X : Stand p l e R s m args below meth c T locs cells slots) (hx : p.tables.exec = Jvm.exec) {index : Nat} (hd : decode c.code pc = .ok (.checkcast index, 3)) (h : Go p e below F Q T (mkF m (pc + 3) Ls (.null :: S))) : Go p e below F Q T (mkF m pc Ls (.null :: S)) := h.st fun _ k => X.checkcastNull hx (g := mkF m pc Ls (.null :: S)) rfl rfl hd _ k
theorem own_noSub {K0 S0 K : String} {n : Nat} (w : (Jvm.Cond.superclass K0 S0).before a0 Z = true) (wk : (Jvm.Cond.instantiable K n).before a0 Z = true) (q : NS Z K0 K) (hn : K0 ≠ K) : ∃ c t, Z.vm.findClass K0 = some c ∧ Z.vm.findClass K = some t ∧ Z.vm.assignable c t = false := by
  obtain ⟨c, t, h0, g0, n3⟩ := q
  obtain ⟨p, k, kp, h1, h2, h3, h4, h5, -, h7⟩ := Cond.superclass_spec h0 w
  obtain ⟨t', k', g1, g2, g3, g4, -⟩ := Cond.instantiable_spec wk
  cases g0.symm.trans g1
  have g5 : k'.isInterface = false := by simp only [Bool.or_eq_false_iff] at g4; exact g4.1
  have ne := ids_ne h0 g0 hn
  refine ⟨c, t, h0, g0, ?_⟩
  show Z.vm.assignableAux (255 + 1) c t = false
  simp [Vm.assignableAux, ne, h2, g2, h5, g3, g5, Vm.isSubclass, n3]
theorem own_nsRoot {O K : String} {n : Nat} (w : (Jvm.Cond.noSuperclass O).before a0 Z = true) (wk : (Jvm.Cond.instantiable K n).before a0 Z = true) (hn : O ≠ K) : NS Z O K := by
  obtain ⟨c, k, h1, h2, h3, -, -⟩ := Cond.noSuperclass_spec w
  obtain ⟨t, k', g1, -⟩ := Cond.instantiable_spec wk
  have ne := ids_ne h1 g1 hn
  refine ⟨c, t, h1, g1, fun fuel => ?_⟩
  cases fuel with
  | zero => rfl
  | succ f => simp [Vm.isSubclassAux, ne, h2, h3]
theorem Sta.own_keep {h' : Heap} {K n d : String} {v : Value} {ws : List Addr} (Fl : Sta Z h K n d v) (k : Keep h h' ws) (q : ∀ x ∈ ws, ∀ cell : Cell, h[x]? = some cell → cell.vm.isStatics = false) : Sta Z h' K n d v := by
  obtain ⟨cf, i, kk, f, st, cell, h1, h2, h3, h4, h5, h6, h7⟩ := Fl
  refine ⟨cf, i, kk, f, st, cell, h1, h2, h3, h4, k.2.1 _ _ h5 (fun hm => ?_), h6, h7⟩
  have := q _ hm _ h5
  rw [h6] at this; cases this
theorem Go.newP (X : Stand p l e R s m args below meth c T locs cells slots) (hx : p.tables.exec = Jvm.exec) (hZ : Z.Warmed39 s.vm) {aty : ArrayType} (w : (Jvm.Cond.arrayClass (newarray.typeOf aty)).before a0 Z = true) (eT : T.heap = h) {n : Int32} (hd : decode c.code pc = .ok (.newarray aty, 2)) (hn : ¬ n < 0) {cap : Nat} (hcap : n.toNatClampNeg ≤ cap) (hb : cap * 8 ≤ 536870912) (hc : cells + 1 ≤ R.cells) (hl : slots + cap ≤ R.slots) (k : ∀ T' h' cA a, a = h.size → Stand p l e R s m args below meth c T' locs (cells + 1) (slots + cap) → T'.heap = h' → Ext h h' → Arr Z h' a (newA cA (newarray.typeOf aty) n) (newarray.typeOf aty) → Go p e below F Q T' (mkF m (pc + 2) Ls (.ref a :: S))) : Go p e below F Q T (mkF m pc Ls (.int n :: S)) := by
  obtain ⟨T', h', cA, X', e', E', A', st⟩ := Jvm.RoadKit.newP X hx hZ w eT (g := mkF m pc Ls (.int n :: S)) rfl hd rfl hn hcap hb hc hl
  exact (k T' h' cA _ rfl X' e' E' A').st st
theorem Go.stI (X : Stand p l e R s m args below meth c T locs cells slots) (hx : p.tables.exec = Jvm.exec) (hZ : Z.Warmed39 s.vm) (eT : T.heap = h) {a : Addr} {cl : Cell} (A : Arr Z h a cl .int) {j : Int32} {x : Int32} (hj : ¬ (j < 0 ∨ cl.slots.size ≤ j.toNatClampNeg)) (hd : decode c.code pc = .ok (.iastore, 1)) (k : ∀ T' h', Stand p l e R s m args below meth c T' (locs ++ [⟨a, j.toNatClampNeg⟩]) cells slots → T'.heap = h' → Wr h h' a j.toNatClampNeg (.int x) → Go p e below F Q T' (mkF m (pc + 1) Ls S)) : Go p e below F Q T (mkF m pc Ls (.int x :: .int j :: .ref a :: S)) := by
  obtain ⟨T', h', X', e', W', st⟩ := Jvm.RoadKit.stI X hx hZ eT A hj (g := mkF m pc Ls (.int x :: .int j :: .ref a :: S)) rfl rfl hd
  exact (k T' h' X' e' W').st st
theorem Go.stC (X : Stand p l e R s m args below meth c T locs cells slots) (hx : p.tables.exec = Jvm.exec) (hZ : Z.Warmed39 s.vm) (eT : T.heap = h) {a : Addr} {cl : Cell} (A : Arr Z h a cl .char) {j : Int32} {x : Int32} (hj : ¬ (j < 0 ∨ cl.slots.size ≤ j.toNatClampNeg)) (hd : decode c.code pc = .ok (.castore, 1)) (k : ∀ T' h', Stand p l e R s m args below meth c T' (locs ++ [⟨a, j.toNatClampNeg⟩]) cells slots → T'.heap = h' → Wr h h' a j.toNatClampNeg (.int (nar .char x)) → Go p e below F Q T' (mkF m (pc + 1) Ls S)) : Go p e below F Q T (mkF m pc Ls (.int x :: .int j :: .ref a :: S)) := by
  obtain ⟨T', h', X', e', W', st⟩ := Jvm.RoadKit.stC X hx hZ eT A hj (g := mkF m pc Ls (.int x :: .int j :: .ref a :: S)) rfl rfl hd
  exact (k T' h' X' e' W').st st
theorem Go.stB (X : Stand p l e R s m args below meth c T locs cells slots) (hx : p.tables.exec = Jvm.exec) (hZ : Z.Warmed39 s.vm) (eT : T.heap = h) {a : Addr} {cl : Cell} (A : Arr Z h a cl .byte) {j : Int32} {x : Int32} (hj : ¬ (j < 0 ∨ cl.slots.size ≤ j.toNatClampNeg)) (hd : decode c.code pc = .ok (.bastore, 1)) (k : ∀ T' h', Stand p l e R s m args below meth c T' (locs ++ [⟨a, j.toNatClampNeg⟩]) cells slots → T'.heap = h' → Wr h h' a j.toNatClampNeg (.int (nar .byte x)) → Go p e below F Q T' (mkF m (pc + 1) Ls S)) : Go p e below F Q T (mkF m pc Ls (.int x :: .int j :: .ref a :: S)) := by
  obtain ⟨T', h', X', e', W', st⟩ := Jvm.RoadKit.stB X hx hZ eT A hj (g := mkF m pc Ls (.int x :: .int j :: .ref a :: S)) rfl rfl hd
  exact (k T' h' X' e' W').st st
theorem Go.stZ (X : Stand p l e R s m args below meth c T locs cells slots) (hx : p.tables.exec = Jvm.exec) (hZ : Z.Warmed39 s.vm) (eT : T.heap = h) {a : Addr} {cl : Cell} (A : Arr Z h a cl .boolean) {j : Int32} {x : Int32} (hj : ¬ (j < 0 ∨ cl.slots.size ≤ j.toNatClampNeg)) (hd : decode c.code pc = .ok (.bastore, 1)) (k : ∀ T' h', Stand p l e R s m args below meth c T' (locs ++ [⟨a, j.toNatClampNeg⟩]) cells slots → T'.heap = h' → Wr h h' a j.toNatClampNeg (.int (nar .boolean x)) → Go p e below F Q T' (mkF m (pc + 1) Ls S)) : Go p e below F Q T (mkF m pc Ls (.int x :: .int j :: .ref a :: S)) := by
  obtain ⟨T', h', X', e', W', st⟩ := Jvm.RoadKit.stZ X hx hZ eT A hj (g := mkF m pc Ls (.int x :: .int j :: .ref a :: S)) rfl rfl hd
  exact (k T' h' X' e' W').st st
theorem Go.stS (X : Stand p l e R s m args below meth c T locs cells slots) (hx : p.tables.exec = Jvm.exec) (hZ : Z.Warmed39 s.vm) (eT : T.heap = h) {a : Addr} {cl : Cell} (A : Arr Z h a cl .short) {j : Int32} {x : Int32} (hj : ¬ (j < 0 ∨ cl.slots.size ≤ j.toNatClampNeg)) (hd : decode c.code pc = .ok (.sastore, 1)) (k : ∀ T' h', Stand p l e R s m args below meth c T' (locs ++ [⟨a, j.toNatClampNeg⟩]) cells slots → T'.heap = h' → Wr h h' a j.toNatClampNeg (.int (nar .short x)) → Go p e below F Q T' (mkF m (pc + 1) Ls S)) : Go p e below F Q T (mkF m pc Ls (.int x :: .int j :: .ref a :: S)) := by
  obtain ⟨T', h', X', e', W', st⟩ := Jvm.RoadKit.stS X hx hZ eT A hj (g := mkF m pc Ls (.int x :: .int j :: .ref a :: S)) rfl rfl hd
  exact (k T' h' X' e' W').st st
theorem Go.stJ (X : Stand p l e R s m args below meth c T locs cells slots) (hx : p.tables.exec = Jvm.exec) (hZ : Z.Warmed39 s.vm) (eT : T.heap = h) {a : Addr} {cl : Cell} (A : Arr Z h a cl .long) {j : Int32} {x : Int64} (hj : ¬ (j < 0 ∨ cl.slots.size ≤ j.toNatClampNeg)) (hd : decode c.code pc = .ok (.lastore, 1)) (k : ∀ T' h', Stand p l e R s m args below meth c T' (locs ++ [⟨a, j.toNatClampNeg⟩]) cells slots → T'.heap = h' → Wr h h' a j.toNatClampNeg (.long x) → Go p e below F Q T' (mkF m (pc + 1) Ls S)) : Go p e below F Q T (mkF m pc Ls (.long x :: .int j :: .ref a :: S)) := by
  obtain ⟨T', h', X', e', W', st⟩ := Jvm.RoadKit.stJ X hx hZ eT A hj (g := mkF m pc Ls (.long x :: .int j :: .ref a :: S)) rfl rfl hd
  exact (k T' h' X' e' W').st st
theorem Go.iaload (X : Stand p l e R s m args below meth c T locs cells slots) (hx : p.tables.exec = Jvm.exec) (hZ : Z.Warmed39 s.vm) (eT : T.heap = h) {a : Addr} {cl : Cell} (A : Arr Z h a cl .int) {j : Int32} {v : Value} (hj : ¬ (j < 0 ∨ cl.slots.size ≤ j.toNatClampNeg)) (hv : cl.slots[j.toNatClampNeg]? = some v) (hd : decode c.code pc = .ok (.iaload, 1)) (k : Go p e below F Q T (mkF m (pc + 1) Ls (v :: S))) : Go p e below F Q T (mkF m pc Ls (.int j :: .ref a :: S)) := k.st fun _ q => X.iaload hx (by rw [eT]; exact A.1) (State.isArrayOf_alike hZ.alike A.2.1) A.2.2 hj hv (g := mkF m pc Ls (.int j :: .ref a :: S)) rfl rfl hd _ q
theorem Go.caload (X : Stand p l e R s m args below meth c T locs cells slots) (hx : p.tables.exec = Jvm.exec) (hZ : Z.Warmed39 s.vm) (eT : T.heap = h) {a : Addr} {cl : Cell} (A : Arr Z h a cl .char) {j : Int32} {v : Value} (hj : ¬ (j < 0 ∨ cl.slots.size ≤ j.toNatClampNeg)) (hv : cl.slots[j.toNatClampNeg]? = some v) (hd : decode c.code pc = .ok (.caload, 1)) (k : Go p e below F Q T (mkF m (pc + 1) Ls (v :: S))) : Go p e below F Q T (mkF m pc Ls (.int j :: .ref a :: S)) := k.st fun _ q => X.caload hx (by rw [eT]; exact A.1) (State.isArrayOf_alike hZ.alike A.2.1) A.2.2 hj hv (g := mkF m pc Ls (.int j :: .ref a :: S)) rfl rfl hd _ q
theorem Go.saload (X : Stand p l e R s m args below meth c T locs cells slots) (hx : p.tables.exec = Jvm.exec) (hZ : Z.Warmed39 s.vm) (eT : T.heap = h) {a : Addr} {cl : Cell} (A : Arr Z h a cl .short) {j : Int32} {v : Value} (hj : ¬ (j < 0 ∨ cl.slots.size ≤ j.toNatClampNeg)) (hv : cl.slots[j.toNatClampNeg]? = some v) (hd : decode c.code pc = .ok (.saload, 1)) (k : Go p e below F Q T (mkF m (pc + 1) Ls (v :: S))) : Go p e below F Q T (mkF m pc Ls (.int j :: .ref a :: S)) := k.st fun _ q => X.saload hx (by rw [eT]; exact A.1) (State.isArrayOf_alike hZ.alike A.2.1) A.2.2 hj hv (g := mkF m pc Ls (.int j :: .ref a :: S)) rfl rfl hd _ q
theorem Go.laload (X : Stand p l e R s m args below meth c T locs cells slots) (hx : p.tables.exec = Jvm.exec) (hZ : Z.Warmed39 s.vm) (eT : T.heap = h) {a : Addr} {cl : Cell} (A : Arr Z h a cl .long) {j : Int32} {v : Value} (hj : ¬ (j < 0 ∨ cl.slots.size ≤ j.toNatClampNeg)) (hv : cl.slots[j.toNatClampNeg]? = some v) (hd : decode c.code pc = .ok (.laload, 1)) (k : Go p e below F Q T (mkF m (pc + 1) Ls (v :: S))) : Go p e below F Q T (mkF m pc Ls (.int j :: .ref a :: S)) := k.st fun _ q => X.laload hx (by rw [eT]; exact A.1) (State.isArrayOf_alike hZ.alike A.2.1) A.2.2 hj hv (g := mkF m pc Ls (.int j :: .ref a :: S)) rfl rfl hd _ q
theorem Go.baload (X : Stand p l e R s m args below meth c T locs cells slots) (hx : p.tables.exec = Jvm.exec) (hZ : Z.Warmed39 s.vm) (eT : T.heap = h) {a : Addr} {cl : Cell} (A : Arr Z h a cl .byte) {j : Int32} {v : Value} (hj : ¬ (j < 0 ∨ cl.slots.size ≤ j.toNatClampNeg)) (hv : cl.slots[j.toNatClampNeg]? = some v) (hd : decode c.code pc = .ok (.baload, 1)) (k : Go p e below F Q T (mkF m (pc + 1) Ls (v :: S))) : Go p e below F Q T (mkF m pc Ls (.int j :: .ref a :: S)) := k.st fun _ q => X.baloadBytes hx (by rw [eT]; exact A.1) (State.isArrayOf_alike hZ.alike A.2.1) A.2.2 hj hv (g := mkF m pc Ls (.int j :: .ref a :: S)) rfl rfl hd _ q
theorem Go.aaload (X : Stand p l e R s m args below meth c T locs cells slots) (hx : p.tables.exec = Jvm.exec) (hZ : Z.Warmed39 s.vm) (eT : T.heap = h) {a : Addr} {cl : Cell} {ty : FieldType} (A : Arr Z h a cl ty) (hty : ty.isReference = true) {j : Int32} {v : Value} (hj : ¬ (j < 0 ∨ cl.slots.size ≤ j.toNatClampNeg)) (hv : cl.slots[j.toNatClampNeg]? = some v) (hd : decode c.code pc = .ok (.aaload, 1)) (k : Go p e below F Q T (mkF m (pc + 1) Ls (v :: S))) : Go p e below F Q T (mkF m pc Ls (.int j :: .ref a :: S)) := k.st fun _ q => X.aaload hx (by rw [eT]; exact A.1) (State.isArrayOf_alike hZ.alike A.2.1) hty A.2.2 hj hv (g := mkF m pc Ls (.int j :: .ref a :: S)) rfl rfl hd _ q
theorem Go.arraylength (X : Stand p l e R s m args below meth c T locs cells slots) (hx : p.tables.exec = Jvm.exec) (hZ : Z.Warmed39 s.vm) (eT : T.heap = h) {a : Addr} {cl : Cell} {ty : FieldType} (A : Arr Z h a cl ty) {n : Int32} (S1 : cl.slots.size = n.toNatClampNeg) (hn : ¬ n < 0) (hd : decode c.code pc = .ok (.arraylength, 1)) (k : Go p e below F Q T (mkF m (pc + 1) Ls (.int n :: S))) : Go p e below F Q T (mkF m pc Ls (.ref a :: S)) := k.st fun _ q => X.arraylength hx (by rw [eT]; exact A.1) (State.isArrayOf_alike hZ.alike A.2.1) (g := mkF m pc Ls (.ref a :: S)) rfl rfl hd _ (by rw [len_of S1 hn]; exact q)
theorem Go.callIB (X : Stand p l e R s m args below meth c T locs cells slots) (hx : p.tables.exec = Jvm.exec) (hZ : Z.Warmed39 s.vm) {index : Nat} {y : MethodName} {as' : Array Value} {C1 N1 : Nat} {Qy : Option Value → Heap → List Loc → Prop} {W : Nat} (hK : Back l R p e below s args y 3 W (fun P a => a = as' ∧ P.U.heap = h ∧ P.cells + C1 ≤ R.cells ∧ P.slots + N1 ≤ R.slots) (fun P _ v B => ∃ L, Qy v B.U.heap L ∧ B.locs = P.locs ++ L ∧ B.cells = P.cells + C1 ∧ B.slots = P.slots + N1)) (hy1 : y.name = "<init>") (hown : s.vm.findClass own = some m.cls) (wl : (Jvm.Cond.methodLink own index y).before a0 Z = true) (ws : (Jvm.Cond.instanceMethod y).before a0 Z = true) {bytes : ByteArray} {maxL : Nat} (wc : (Jvm.Cond.code y bytes maxL none).before a0 Z = true) (hy : y.cls ≠ "java/lang/invoke/MethodHandle" ∧ y.cls ≠ "java/lang/invoke/VarHandle") (eT : T.heap = h) {a : Addr} (hsize : Ls.size = c.maxLocals) {argsL : List Value} (hW : (S.map fun v => v.category).sum ≤ W) (hc : cells + C1 ≤ R.cells) (hs : slots + N1 ≤ R.slots) {ps : List FieldType} {r : Option FieldType} (hds : parseMethodDescriptor y.desc = some ⟨ps, r⟩) (hlen : argsL.length = ps.length) (has : (.ref a :: argsL).toArray = as') (hd : decode c.code pc = .ok (.invokespecial index, 3)) (k : ∀ v T' L, Stand p l e R s m args below meth c T' (locs ++ L) (cells + C1) (slots + N1) → Qy v T'.heap L → Go p e below F Q T' (mkF m (pc + 3) Ls (v.toList ++ S))) : Go p e below F Q T (mkF m pc Ls (argsL.reverse ++ .ref a :: S)) := by
  obtain ⟨_, _, ⟨T', L', k', n'⟩, -, X', ⟨L, hq, e1, e2, e3⟩, st⟩ := X.specialBack hx hy1 hown (mvT hZ wl) (mvT hZ ws) (mvT hZ wc) hy hK (g := mkF m pc Ls (argsL.reverse ++ .ref a :: S)) rfl hsize (Steps.refl _) (a := a) (argsL := argsL) (rest := S) (lenOf hds hlen) rfl (by show 2 * 0 + _ ≤ _; omega) hd (fun _ _ => ⟨has, eT, hc, hs⟩)
  dsimp only [Pt.U, Pt.locs, Pt.cells, Pt.slots] at X' e1 e2 e3 st hq
  subst e1 e2 e3
  exact (k _ _ _ X' hq).tr st
theorem Go.callVB (X : Stand p l e R s m args below meth c T locs cells slots) (hx : p.tables.exec = Jvm.exec) (hZ : Z.Warmed39 s.vm) {index : Nat} {K : String} {y : MethodName} {as' : Array Value} {C1 N1 : Nat} {Qy : Option Value → Heap → List Loc → Prop} {W : Nat} (hK : Back l R p e below s args y 3 W (fun P a => a = as' ∧ P.U.heap = h ∧ P.cells + C1 ≤ R.cells ∧ P.slots + N1 ≤ R.slots) (fun P _ v B => ∃ L, Qy v B.U.heap L ∧ B.locs = P.locs ++ L ∧ B.cells = P.cells + C1 ∧ B.slots = P.slots + N1)) {y0 : MethodName} (hy : y0.cls ≠ "java/lang/invoke/MethodHandle" ∧ y0.cls ≠ "java/lang/invoke/VarHandle") (hown : s.vm.findClass own = some m.cls) (wl : (Jvm.Cond.methodLink own index y0).before a0 Z = true) (wd : (Jvm.Cond.declares y0).before a0 Z = true) (hnf : NotFace s y0) (wsel : (Jvm.Cond.selects K y0 y).before a0 Z = true) (ws : (Jvm.Cond.instanceMethod y).before a0 Z = true) (eT : T.heap = h) {a : Addr} (E : Exa Z h a K) (hsize : Ls.size = c.maxLocals) {argsL : List Value} (hW : (S.map fun v => v.category).sum ≤ W) (hc : cells + C1 ≤ R.cells) (hs : slots + N1 ≤ R.slots) {ps : List FieldType} {r : Option FieldType} (hds : parseMethodDescriptor y0.desc = some ⟨ps, r⟩) (hlen : argsL.length = ps.length) (has : (.ref a :: argsL).toArray = as') (hd : decode c.code pc = .ok (.invokevirtual index, 3)) (k : ∀ v T' L, Stand p l e R s m args below meth c T' (locs ++ L) (cells + C1) (slots + N1) → Qy v T'.heap L → Go p e below F Q T' (mkF m (pc + 3) Ls (v.toList ++ S))) : Go p e below F Q T (mkF m pc Ls (argsL.reverse ++ .ref a :: S)) := by
  obtain ⟨cq, kq, q1, q2, q3⟩ := isOf hZ eT E
  obtain ⟨_, _, ⟨T', L', k', n'⟩, -, X', ⟨L, hq, e1, e2, e3⟩, st⟩ := X.virtualBack hx hown (mvT hZ wl) (mvT hZ wd) hnf (mvT hZ wsel) (mvT hZ ws) hy hK q1 q3 (g := mkF m pc Ls (argsL.reverse ++ .ref a :: S)) rfl hsize (Steps.refl _) (argsL := argsL) (rest := S) (lenOf hds hlen) rfl (by show 2 * 0 + _ ≤ _; omega) hd (fun _ _ => ⟨has, eT, hc, hs⟩)
  dsimp only [Pt.U, Pt.locs, Pt.cells, Pt.slots] at X' e1 e2 e3 st hq
  subst e1 e2 e3
  exact (k _ _ _ X' hq).tr st
end OwnKit
section OwnKitS
variable {p : Program} {l : Launch} {e : Env} {R : Room} {s : State} {vm0 : Vm} {k0 : Nat} {m : MethodId} {args : Array Value} {below : List Frame} {meth : Method} {c : Code} {T : State} {locs : List Loc} {cells slots : Nat} {C N : Nat} {F : Outcome → State → List Loc → Prop} {Q : Option Value → Heap → List Loc → Prop} {pc : Nat} {Ls : Array Slot} {S : List Value} {Z : State} {a0 : Array Value} {h : Heap} {own : String}
def WE (s : State) (C N : Nat) (o : Outcome) (t : State) (L : List Loc) : Prop := ReturnedEndW s o t L C N
theorem metOfW {y : MethodName} {bytes : ByteArray} {maxL : Nat} {ret : Option FieldType} {rm : Room} {ws : List Jvm.Cond} {as' : Array Value} {h0 : Heap} (hpl : plainFor y = true)
    (body : ∀ p e s m below meth c s₁, Stand p l e rm (s.setVm s.vm) m as' below meth c s₁ [] 0 0 → p.tables.exec = Jvm.exec → c.code = bytes → c.maxLocals = maxL → meth.sig.returnType = ret → meth.locks = false → Z.Warmed39 (s.setVm s.vm).vm → (s.setVm s.vm).vm.findClass y.cls = some m.cls → meth.name = y.name → s₁.heap = h0 → s.Since s.vm 0 → Go p e below (WE s rm.cells rm.slots) Q s₁ (entryFrame m as' maxL)) :
    MetFree l y (head1 (Jvm.Cond.code y bytes maxL ret :: ws) rm) (fun a U => a = as' ∧ Z.Warmed39 U.vm ∧ U.heap = h0) (fun _ _ _ _ _ => True) (fun _ U o U' => ∃ v L, o = .returned v ∧ Q v U'.heap L ∧ ReturnedEndW U o U' L rm.cells rm.slots) := by
  refine MetFree.of_bodySF hpl hisR ?_
  intro p e s m args below meth c s₁ Bd hml0 hP hK
  obtain ⟨rfl, hZ, hh⟩ := hP
  exact body p e s m below meth c s₁ (Stand.of_body Bd) Bd.exec Bd.bytes hml0 Bd.returns Bd.notSynchronized hZ (findClass_of_methodNamed Bd.named) (name_of_methodNamed Bd.named Bd.method).1 (by rw [← hh, Bd.state]; rfl) ((State.WarmedH.refl s).since 0)
theorem ReturnedEndW.own_mono {o : Outcome} {t : State} {L : List Loc} {a b : Nat} (h : ReturnedEndW s o t L a b) (hC : a ≤ C) (hN : b ≤ N) : WE s C N o t L := ⟨h.1, h.2.1, h.2.2.1, h.2.2.2.mono hC hN⟩
theorem Go.retNW (X : Stand p l e R (s.setVm vm0) m args below meth c T locs cells slots) (hx : p.tables.exec = Jvm.exec) (hS : s.Since vm0 k0) (eT : T.heap = h) (hk : k0 ≤ h.size) {t : FieldType} {z : Int32} (hret : meth.sig.returnType = some t) (hlk : meth.locks = false) (ht : t = .boolean ∨ t = .byte ∨ t = .char ∨ t = .short) (hd : decode c.code pc = .ok (.ireturn, 1)) (hC : cells ≤ C) (hN : slots ≤ N) (hQ : Q (some (.int (nar t z))) T.heap locs) : Go p e below (WE s C N) Q T (mkF m pc Ls (.int z :: S)) := by
  obtain ⟨fs, hr, hrun, hended, hW⟩ := X.leaveW hS (by rw [eT]; exact hk) (v := some (.int (nar t z))) (fun h => by rw [hret] at h; cases h) hlk
  exact ⟨_, _, Jvm.RoadKit.retN X hx hret ht hd hr, hrun, hended, _, _, rfl, hQ, ReturnedEndW.own_mono hW hC hN⟩
theorem Go.retIW (X : Stand p l e R (s.setVm vm0) m args below meth c T locs cells slots) (hx : p.tables.exec = Jvm.exec) (hS : s.Since vm0 k0) (eT : T.heap = h) (hk : k0 ≤ h.size) {z : Int32} (hret : meth.sig.returnType = some .int) (hlk : meth.locks = false) (hd : decode c.code pc = .ok (.ireturn, 1)) (hC : cells ≤ C) (hN : slots ≤ N) (hQ : Q (some (.int z)) T.heap locs) : Go p e below (WE s C N) Q T (mkF m pc Ls (.int z :: S)) := by
  obtain ⟨fs, hr, hrun, hended, hW⟩ := X.leaveW hS (by rw [eT]; exact hk) (v := some (.int z)) (fun h => by rw [hret] at h; cases h) hlk
  exact ⟨_, _, retOut X hx hret rfl (Or.inl ⟨rfl, Or.inl rfl, _, rfl⟩) hd hr, hrun, hended, _, _, rfl, hQ, ReturnedEndW.own_mono hW hC hN⟩
theorem Go.retJW (X : Stand p l e R (s.setVm vm0) m args below meth c T locs cells slots) (hx : p.tables.exec = Jvm.exec) (hS : s.Since vm0 k0) (eT : T.heap = h) (hk : k0 ≤ h.size) {z : Int64} (hret : meth.sig.returnType = some .long) (hlk : meth.locks = false) (hd : decode c.code pc = .ok (.lreturn, 1)) (hC : cells ≤ C) (hN : slots ≤ N) (hQ : Q (some (.long z)) T.heap locs) : Go p e below (WE s C N) Q T (mkF m pc Ls (.long z :: S)) := by
  obtain ⟨fs, hr, hrun, hended, hW⟩ := X.leaveW hS (by rw [eT]; exact hk) (v := some (.long z)) (fun h => by rw [hret] at h; cases h) hlk
  exact ⟨_, _, retOut X hx hret rfl (Or.inr (Or.inl ⟨rfl, rfl, _, rfl⟩)) hd hr, hrun, hended, _, _, rfl, hQ, ReturnedEndW.own_mono hW hC hN⟩
theorem Go.retAW (X : Stand p l e R (s.setVm vm0) m args below meth c T locs cells slots) (hx : p.tables.exec = Jvm.exec) (hS : s.Since vm0 k0) (eT : T.heap = h) (hk : k0 ≤ h.size) {w : Value} {t : FieldType} (hret : meth.sig.returnType = some t) (hlk : meth.locks = false) (ht : t.isReference = true) (hw : w.isRef = true) (hn : narrow t w = w) (hd : decode c.code pc = .ok (.areturn, 1)) (hC : cells ≤ C) (hN : slots ≤ N) (hQ : Q (some w) T.heap locs) : Go p e below (WE s C N) Q T (mkF m pc Ls (w :: S)) := by
  obtain ⟨fs, hr, hrun, hended, hW⟩ := X.leaveW hS (by rw [eT]; exact hk) (v := some w) (fun h => by rw [hret] at h; cases h) hlk
  exact ⟨_, _, retOut X hx hret hn (Or.inr (Or.inr (Or.inr (Or.inr ⟨rfl, ht, hw⟩)))) hd hr, hrun, hended, _, _, rfl, hQ, ReturnedEndW.own_mono hW hC hN⟩
theorem Go.retVW (X : Stand p l e R (s.setVm vm0) m args below meth c T locs cells slots) (hx : p.tables.exec = Jvm.exec) (hS : s.Since vm0 k0) (eT : T.heap = h) (hk : k0 ≤ h.size) (hret : meth.sig.returnType = none) (hlk : meth.locks = false) (hd : decode c.code pc = .ok (.return_, 1)) (hC : cells ≤ C) (hN : slots ≤ N) (hQ : Q none T.heap locs) : Go p e below (WE s C N) Q T (mkF m pc Ls []) := by
  obtain ⟨fs, hr, hrun, hended, hW⟩ := X.leaveW hS (by rw [eT]; exact hk) (v := none) (fun _ => rfl) hlk
  exact ⟨_, _, X.returnOut hx hret hd hr, hrun, hended, _, _, rfl, hQ, ReturnedEndW.own_mono hW hC hN⟩
theorem Go.ldcS (X : Stand p l e R (s.setVm vm0) m args below meth c T locs cells slots) (hx : p.tables.exec = Jvm.exec) (hZ : Z.Warmed39 (s.setVm vm0).vm) {text : String} {index : Nat} (hown : (s.setVm vm0).vm.findClass own = some m.cls) (w : (Jvm.Cond.stringLink own index text).before a0 Z = true) (wS : ∀ a ∈ Bundle.stringAtoms, a.before a0 Z = true) (hS : s.Since vm0 k0) (eT : T.heap = h) (hk : k0 ≤ h.size) (hd : decode c.code pc = .ok (.ldc index, 2)) {n : Nat} (hn : 4 * text.toList.length ≤ n) (hbig : n ≤ 536870912) (hc : cells + 2 ≤ R.cells) (hl : slots + (n + 4) ≤ R.slots) (k : ∀ a T' h' k1, Stand p l e R (s.setVm T'.vm) m args below meth c T' locs (cells + 2) (slots + (n + 4)) → T'.heap = h' → Ext h h' → s.Since T'.vm k1 → k1 ≤ h'.size → Z.Warmed39 (s.setVm T'.vm).vm → (s.setVm T'.vm).vm.findClass own = some m.cls → Go p e below F Q T' (mkF m (pc + 2) Ls (.ref a :: S))) : Go p e below F Q T (mkF m pc Ls S) := by
  obtain ⟨a, T', h', k1, X', e', E', hS', hk', hZ', ho', st⟩ := Jvm.RoadKit.ldcS X hx hZ hown w wS eT hS hk (g := mkF m pc Ls S) rfl hd hn hbig hc hl
  exact (k a T' h' k1 X' e' E' hS' hk' hZ' ho').st st
theorem Go.callSS (X : Stand p l e R (s.setVm vm0) m args below meth c T locs cells slots) (hx : p.tables.exec = Jvm.exec) (hZ : Z.Warmed39 (s.setVm vm0).vm) {index : Nat} {y : MethodName} {bytes : ByteArray} {maxL : Nat} {ret : Option FieldType} {rm : Room} {as' : Array Value} {Qy : Option Value → Heap → List Loc → Prop} (hM : MetFree l y (head1 [Jvm.Cond.code y bytes maxL ret] rm) (fun a U => a = as' ∧ Z.Warmed39 U.vm ∧ U.heap = h) (fun _ _ _ _ _ => True) (fun _ U o U' => ∃ v L, o = .returned v ∧ Qy v U'.heap L ∧ ReturnedEndW U o U' L rm.cells rm.slots)) (hown : (s.setVm vm0).vm.findClass own = some m.cls) (wl : (Jvm.Cond.methodLink own index y).before a0 Z = true) (ws : (Jvm.Cond.static y).before a0 Z = true) (wi : (Jvm.Cond.initialized y.cls).before a0 Z = true) (wc : (Jvm.Cond.code y bytes maxL ret).before a0 Z = true) (hy : y.cls ≠ "java/lang/invoke/MethodHandle" ∧ y.cls ≠ "java/lang/invoke/VarHandle") (hS : s.Since vm0 k0) (eT : T.heap = h) (hk : k0 ≤ h.size) {W : Nat} (hsize : Ls.size = c.maxLocals) {argsL : List Value} (hW : (S.map fun v => v.category).sum ≤ W) (hf : rm.frames + 1 ≤ R.frames) (hl : W + (maxL + 11) + rm.locals ≤ R.locals) (hc : cells + rm.cells ≤ R.cells) (hs : slots + rm.slots ≤ R.slots) {ps : List FieldType} {r : Option FieldType} (hds : parseMethodDescriptor y.desc = some ⟨ps, r⟩) (hlen : argsL.length = ps.length) (has : argsL.toArray = as') (hd : decode c.code pc = .ok (.invokestatic index, 3)) (k : ∀ v T' L, Stand p l e R (s.setVm T'.vm) m args below meth c T' (locs ++ L) (cells + rm.cells) (slots + rm.slots) → Qy v T'.heap L → s.Since T'.vm T'.heap.size → h.size ≤ T'.heap.size → Z.Warmed39 (s.setVm T'.vm).vm → (s.setVm T'.vm).vm.findClass own = some m.cls → Go p e below F Q T' (mkF m (pc + 3) Ls (v.toList ++ S))) : Go p e below F Q T (mkF m pc Ls (argsL.reverse ++ S)) := by
  obtain ⟨_, _, ⟨T', L', k', n'⟩, -, X', hS', hg', ⟨L, hq, e1, e2, e3⟩, st⟩ := Jvm.RoadKit.callSS X hx hown (mvT hZ wl) (mvT hZ ws) (mvT hZ wi) (mvT hZ wc) hy (backOfS (W := W) hM hZ wc wi hf hl) (g := mkF m pc Ls (argsL.reverse ++ S)) rfl hsize (argsL := argsL) (rest := S) (lenOf hds hlen) rfl (by show 2 * 0 + _ ≤ _; omega) hd (fun _ _ => ⟨has, eT, hc, hs⟩)
  dsimp only [Pt.U, Pt.locs, Pt.cells, Pt.slots] at X' hS' hg' e1 e2 e3 st hq
  subst e1 e2 e3
  subst eT
  obtain ⟨X2, hS2, hZ2, ho2⟩ := rebS hS hk X' hS' hg' hZ hown
  exact (k _ _ _ X2 hq hS2 hg' hZ2 ho2).tr st
theorem Go.callIS (X : Stand p l e R (s.setVm vm0) m args below meth c T locs cells slots) (hx : p.tables.exec = Jvm.exec) (hZ : Z.Warmed39 (s.setVm vm0).vm) {index : Nat} {y : MethodName} {bytes : ByteArray} {maxL : Nat} {rm : Room} {as' : Array Value} {Qy : Option Value → Heap → List Loc → Prop} (hM : MetFree l y (head1 [Jvm.Cond.code y bytes maxL none] rm) (fun a U => a = as' ∧ Z.Warmed39 U.vm ∧ U.heap = h) (fun _ _ _ _ _ => True) (fun _ U o U' => ∃ v L, o = .returned v ∧ Qy v U'.heap L ∧ ReturnedEndW U o U' L rm.cells rm.slots)) (hy1 : y.name = "<init>") (hown : (s.setVm vm0).vm.findClass own = some m.cls) (wl : (Jvm.Cond.methodLink own index y).before a0 Z = true) (ws : (Jvm.Cond.instanceMethod y).before a0 Z = true) (wi : (Jvm.Cond.initialized y.cls).before a0 Z = true) (wc : (Jvm.Cond.code y bytes maxL none).before a0 Z = true) (hy : y.cls ≠ "java/lang/invoke/MethodHandle" ∧ y.cls ≠ "java/lang/invoke/VarHandle") (hS : s.Since vm0 k0) (eT : T.heap = h) (hk : k0 ≤ h.size) {a : Addr} {W : Nat} (hsize : Ls.size = c.maxLocals) {argsL : List Value} (hW : (S.map fun v => v.category).sum ≤ W) (hf : rm.frames + 1 ≤ R.frames) (hl : W + (maxL + 11) + rm.locals ≤ R.locals) (hc : cells + rm.cells ≤ R.cells) (hs : slots + rm.slots ≤ R.slots) {ps : List FieldType} {r : Option FieldType} (hds : parseMethodDescriptor y.desc = some ⟨ps, r⟩) (hlen : argsL.length = ps.length) (has : (.ref a :: argsL).toArray = as') (hd : decode c.code pc = .ok (.invokespecial index, 3)) (k : ∀ v T' L, Stand p l e R (s.setVm T'.vm) m args below meth c T' (locs ++ L) (cells + rm.cells) (slots + rm.slots) → Qy v T'.heap L → s.Since T'.vm T'.heap.size → h.size ≤ T'.heap.size → Z.Warmed39 (s.setVm T'.vm).vm → (s.setVm T'.vm).vm.findClass own = some m.cls → Go p e below F Q T' (mkF m (pc + 3) Ls (v.toList ++ S))) : Go p e below F Q T (mkF m pc Ls (argsL.reverse ++ .ref a :: S)) := by
  obtain ⟨_, _, ⟨T', L', k', n'⟩, -, X', hS', hg', ⟨L, hq, e1, e2, e3⟩, st⟩ := X.specialBackS hx hy1 hown (mvT hZ wl) (mvT hZ ws) (mvT hZ wc) hy (backOfS (W := W) hM hZ wc wi hf hl) (g := mkF m pc Ls (argsL.reverse ++ .ref a :: S)) rfl hsize (Steps.refl _) (a := a) (argsL := argsL) (rest := S) (lenOf hds hlen) rfl (by show 2 * 0 + _ ≤ _; omega) hd (fun _ _ => ⟨has, eT, hc, hs⟩)
  dsimp only [Pt.U, Pt.locs, Pt.cells, Pt.slots] at X' hS' hg' e1 e2 e3 st hq
  subst e1 e2 e3
  subst eT
  obtain ⟨X2, hS2, hZ2, ho2⟩ := rebS hS hk X' hS' hg' hZ hown
  exact (k _ _ _ X2 hq hS2 hg' hZ2 ho2).tr st
end OwnKitS
theorem own_nar {c : Int32} (h : ¬ c < 0 ∧ ¬ (255 : Int32) < c) : nar .char c = c := by
  show c.toUInt32.toUInt16.toUInt32.toInt32 = c
  have h1 := c_i2c c
  have r := rng32 c
  rw [Int32.lt_iff_toInt_lt, Int32.lt_iff_toInt_lt] at h
  have e0 : (0 : Int32).toInt = 0 := rfl
  have e1 : (255 : Int32).toInt = 255 := rfl
  rw [← Int32.toInt_inj]
  omega
abbrev own_lo (cs : List Int32) : List Int32 := cs.map (fun c => c.toInt8.toInt32)
theorem own_up {cs : List Int32} (h : ∀ c ∈ cs, ¬ c < 0 ∧ ¬ (255 : Int32) < c) : ∀ c ∈ cs, ¬ c < 0 ∧ ¬ (65535 : Int32) < c := fun c hc => ⟨(h c hc).1, fun q => (h c hc).2 (by
  rw [Int32.lt_iff_toInt_lt] at q ⊢
  have e0 : (255 : Int32).toInt = 255 := rfl
  have e1 : (65535 : Int32).toInt = 65535 := rfl
  omega)⟩
def StrAt (Z : State) (h : Heap) (x t : Addr) (kb : ClassId) (cs : List Int32) : Prop := Exa Z h x "java/lang/String" ∧ Fld Z h x "java/lang/String" "coder" "B" (.int 0) ∧ Fld Z h x "java/lang/String" "value" "[B" (.ref t) ∧ Arv Z h t kb .byte (Int32.ofNat cs.length) ((own_lo cs).map Value.int) (.int 0)
section OwnStr
variable {Z : State} {h h' : Heap} {x t a : Addr} {kb : ClassId} {cs ds : List Int32} {ws : List Addr} {sl : Nat} {v : Value}
theorem StrAt.ext (S : StrAt Z h x t kb cs) (E : Ext h h') : StrAt Z h' x t kb cs := ⟨S.1.ext E, S.2.1.ext E, S.2.2.1.ext E, S.2.2.2.ext E⟩
theorem StrAt.keep (S : StrAt Z h x t kb cs) (K : Keep h h' ws) (hx : x ∉ ws) (ht : t ∉ ws) : StrAt Z h' x t kb cs := ⟨S.1.keep K, S.2.1.keep K hx, S.2.2.1.keep K hx, S.2.2.2.keep K ht⟩
theorem StrAt.wr (S : StrAt Z h x t kb cs) (W : Wr h h' a sl v) (hx : x ≠ a) (ht : t ≠ a) : StrAt Z h' x t kb cs := ⟨S.1.wr W, S.2.1.other W (Or.inl hx), S.2.2.1.other W (Or.inl hx), S.2.2.2.other W ht⟩
theorem StrAt.ltx (S : StrAt Z h x t kb cs) : x < h.size := S.1.lt
theorem StrAt.ltt (S : StrAt Z h x t kb cs) : t < h.size := S.2.2.2.lt
theorem own_eqv {w : Option Value} (q : (w = some (.int 1) ∧ cs = ds) ∨ (w = some (.int 0) ∧ ¬ cs = ds)) : w = some (.int (if cs = ds then (1 : Int32) else (0 : Int32))) := by
  rcases q with ⟨q1, q2⟩ | ⟨q1, q2⟩
  · rw [if_pos q2]; exact q1
  · rw [if_neg q2]; exact q1
end OwnStr
theorem own_hwords {Z : State} {a0 : Array Value} (hw : ∀ d ∈ tables_1, d.before a0 Z = true) : ∀ d ∈ StrChars.Road.words, d.before a0 Z = true := fun d hd => hw d ((by decide +kernel : ∀ d ∈ StrChars.Road.words, d ∈ tables_1) d hd)
theorem own_hwordsLen {Z : State} {a0 : Array Value} (hw : ∀ d ∈ tables_1, d.before a0 Z = true) : ∀ d ∈ StrChars.Road.wordsLen, d.before a0 Z = true := fun d hd => hw d ((by decide +kernel : ∀ d ∈ StrChars.Road.wordsLen, d ∈ tables_1) d hd)
theorem own_hwordsChN {Z : State} {a0 : Array Value} (hw : ∀ d ∈ tables_1, d.before a0 Z = true) : ∀ d ∈ StrChars.Road.wordsChN, d.before a0 Z = true := fun d hd => hw d ((by decide +kernel : ∀ d ∈ StrChars.Road.wordsChN, d ∈ tables_1) d hd)
theorem own_hwordsEq {Z : State} {a0 : Array Value} (hw : ∀ d ∈ tables_1, d.before a0 Z = true) : ∀ d ∈ StrChars.Road.wordsEq, d.before a0 Z = true := fun d hd => hw d ((by decide +kernel : ∀ d ∈ StrChars.Road.wordsEq, d ∈ tables_1) d hd)
theorem own_hwordsEmp {Z : State} {a0 : Array Value} (hw : ∀ d ∈ tables_1, d.before a0 Z = true) : ∀ d ∈ StrChars.Road.wordsEmp, d.before a0 Z = true := fun d hd => hw d ((by decide +kernel : ∀ d ∈ StrChars.Road.wordsEmp, d ∈ tables_1) d hd)
theorem own_cod {cs : List Int32} (hp : ∀ c ∈ cs, ¬ c < 0 ∧ ¬ (255 : Int32) < c) : StrChars.Road.CodA cs 0 (Int32.ofNat cs.length) ((own_lo cs).map Value.int) := StrChars.Road.codOf (n := cs.length) rfl (fun c hc => (hp c hc).2)
theorem own_hwS {Z : State} {a0 : Array Value} (hw : ∀ d ∈ tables_1, d.before a0 Z = true) : ∀ a ∈ Bundle.stringAtoms, a.before a0 Z = true := fun d hd => hw d ((by decide +kernel : ∀ d ∈ Bundle.stringAtoms, d ∈ tables_1) d hd)

theorem own_pr {c : Int32} (h : 32 ≤ c.toInt ∧ c.toInt ≤ 126) : (¬ c < 0 ∧ ¬ (255 : Int32) < c) ∧ ¬ c < (32 : Int32) ∧ ¬ (126 : Int32) < c := by
  simp only [Int32.lt_iff_toInt_lt]
  have e0 : (0 : Int32).toInt = 0 := rfl
  have e1 : (32 : Int32).toInt = 32 := rfl
  have e2 : (126 : Int32).toInt = 126 := rfl
  have e3 : (255 : Int32).toInt = 255 := rfl
  omega
theorem own_br {c : Int32} (h : 0 ≤ c.toInt ∧ c.toInt ≤ 255) : ¬ c < 0 ∧ ¬ (255 : Int32) < c := by
  simp only [Int32.lt_iff_toInt_lt]
  have e0 : (0 : Int32).toInt = 0 := rfl
  have e3 : (255 : Int32).toInt = 255 := rfl
  omega
def own_cs (a b n : Int32) : List Int32 := if n = (1 : Int32) then [a] else [a, b]
theorem own_all {P : Int32 → Prop} {n a b : Int32} (ha : P a) (hb : P b) : ∀ x ∈ own_cs a b n, P x := by
  unfold own_cs
  intro x hx
  split at hx
  · simp only [List.mem_cons, List.not_mem_nil, or_false] at hx; subst hx; exact ha
  · simp only [List.mem_cons, List.not_mem_nil, or_false] at hx; rcases hx with rfl | rfl <;> assumption
theorem own_csl (a b n : Int32) : 0 < (own_cs a b n).length ∧ (own_cs a b n).length ≤ 2 := by
  unfold own_cs
  split
  · exact ⟨by simp, by simp⟩
  · exact ⟨by simp, by simp⟩
theorem own_mem1 {P : Int32 → Prop} {a : Int32} (h : P a) : ∀ x ∈ [a], P x := by intro x hx; simp only [List.mem_cons, List.not_mem_nil, or_false] at hx; subst hx; exact h
theorem own_mem2 {P : Int32 → Prop} {a b : Int32} (h : P a) (h2 : P b) : ∀ x ∈ [a, b], P x := by intro x hx; simp only [List.mem_cons, List.not_mem_nil, or_false] at hx; rcases hx with rfl | rfl <;> assumption
theorem own_i2c {x : Int32} (h : 0 ≤ x.toInt ∧ x.toInt ≤ 255) : x.toUInt32.toUInt16.toUInt32.toInt32 = x := by
  have h1 := c_i2c x
  rw [← Int32.toInt_inj]
  omega
theorem own_and8 (y : Int32) : 0 ≤ (y &&& (255 : Int32)).toInt ∧ (y &&& (255 : Int32)).toInt ≤ 255 := by
  have h1 : (y &&& 255).toInt = y.toInt % (2 ^ 8 : Nat) := c_mask y 255 8 (by decide) (by decide)
  omega
theorem own_c8 (y : Int32) : 0 ≤ ((y &&& (255 : Int32)).toUInt32.toUInt16.toUInt32.toInt32).toInt ∧ ((y &&& (255 : Int32)).toUInt32.toUInt16.toUInt32.toInt32).toInt ≤ 255 := by
  rw [own_i2c (own_and8 y)]; exact own_and8 y
theorem own_nat {x : Int32} (h : 0 ≤ x.toInt ∧ x.toInt ≤ 255) : x.toBitVec.toNat < 256 := by
  have h1 : x.toInt = x.toBitVec.toInt := rfl
  rw [h1, BitVec.toInt_eq_toNat_cond] at h
  have := x.toBitVec.isLt
  split at h <;> omega
theorem own_xor {x y : Int32} (hx : 0 ≤ x.toInt ∧ x.toInt ≤ 255) (hy : 0 ≤ y.toInt ∧ y.toInt ≤ 255) : 0 ≤ ((x ^^^ y).toUInt32.toUInt16.toUInt32.toInt32).toInt ∧ ((x ^^^ y).toUInt32.toUInt16.toUInt32.toInt32).toInt ≤ 255 := by
  have h : 0 ≤ (x ^^^ y).toInt ∧ (x ^^^ y).toInt ≤ 255 := by
    have h1 : (x ^^^ y).toBitVec.toNat < 2 ^ 8 := by
      rw [Int32.toBitVec_xor, BitVec.toNat_xor]
      exact Nat.xor_lt_two_pow (own_nat hx) (own_nat hy)
    have h2 : (x ^^^ y).toInt = (x ^^^ y).toBitVec.toInt := rfl
    rw [h2, BitVec.toInt_eq_toNat_cond]
    split <;> omega
  rw [own_i2c h]; exact h
theorem own_95 (y : Int32) : 0 ≤ ((y &&& (127 : Int32)) % (95 : Int32)).toInt ∧ ((y &&& (127 : Int32)) % (95 : Int32)).toInt ≤ 94 := by
  have h1 : (y &&& 127).toInt = y.toInt % (2 ^ 7 : Nat) := c_mask y 127 7 (by decide) (by decide)
  have h2 := c_irem (y &&& 127) 95 95 (by decide)
  omega
theorem own_95b {x y : Int32} (hx : 0 ≤ x.toInt ∧ x.toInt ≤ 94) (hy : 0 ≤ y.toInt ∧ y.toInt ≤ 94) : 0 ≤ ((x + y) % (95 : Int32)).toInt ∧ ((x + y) % (95 : Int32)).toInt ≤ 94 := by
  have h1 := c_iadd x y
  have r := rng32 (x + y)
  have h2 := c_irem (x + y) 95 95 (by decide)
  omega
theorem own_32 {x : Int32} (hx : 0 ≤ x.toInt ∧ x.toInt ≤ 94) : 32 ≤ (((32 : Int32) + x).toUInt32.toUInt16.toUInt32.toInt32).toInt ∧ (((32 : Int32) + x).toUInt32.toUInt16.toUInt32.toInt32).toInt ≤ 126 := by
  have h1 := c_iadd 32 x
  have e1 : (32 : Int32).toInt = 32 := rfl
  have r := rng32 (32 + x)
  rw [own_i2c (by omega)]; omega
theorem own_12 (y : Int32) : ((1 : Int32) + (y &&& (1 : Int32))) = 1 ∨ ((1 : Int32) + (y &&& (1 : Int32))) = 2 := by
  have h1 : (y &&& 1).toInt = y.toInt % (2 ^ 1 : Nat) := c_mask y 1 1 (by decide) (by decide)
  have h2 := c_iadd 1 (y &&& 1)
  have e1 : (1 : Int32).toInt = 1 := rfl
  have e2 : (2 : Int32).toInt = 2 := rfl
  have r := rng32 (1 + (y &&& 1))
  simp only [← Int32.toInt_inj]
  omega
theorem pd_oACcV : parseMethodDescriptor "([C)V" = some ⟨[(.array .char)], none⟩ := by decide +kernel
theorem d1_0 : decode method_2_code 0 = .ok (.iload_n 2, 1) := by decide +kernel
theorem d1_1 : decode method_2_code 1 = .ok (.iconst 1, 1) := by decide +kernel
theorem d1_2 : decode method_2_code 2 = .ok (.if_icmp .ne 13, 3) := by decide +kernel
theorem d1_5 : decode method_2_code 5 = .ok (.iconst 1, 1) := by decide +kernel
theorem d1_6 : decode method_2_code 6 = .ok (.newarray .char, 2) := by decide +kernel
theorem d1_8 : decode method_2_code 8 = .ok (.dup, 1) := by decide +kernel
theorem d1_9 : decode method_2_code 9 = .ok (.iconst 0, 1) := by decide +kernel
theorem d1_10 : decode method_2_code 10 = .ok (.iload_n 0, 1) := by decide +kernel
theorem d1_11 : decode method_2_code 11 = .ok (.castore, 1) := by decide +kernel
theorem d1_12 : decode method_2_code 12 = .ok (.goto 14, 3) := by decide +kernel
theorem d1_15 : decode method_2_code 15 = .ok (.iconst 2, 1) := by decide +kernel
theorem d1_16 : decode method_2_code 16 = .ok (.newarray .char, 2) := by decide +kernel
theorem d1_18 : decode method_2_code 18 = .ok (.dup, 1) := by decide +kernel
theorem d1_19 : decode method_2_code 19 = .ok (.iconst 0, 1) := by decide +kernel
theorem d1_20 : decode method_2_code 20 = .ok (.iload_n 0, 1) := by decide +kernel
theorem d1_21 : decode method_2_code 21 = .ok (.castore, 1) := by decide +kernel
theorem d1_22 : decode method_2_code 22 = .ok (.dup, 1) := by decide +kernel
theorem d1_23 : decode method_2_code 23 = .ok (.iconst 1, 1) := by decide +kernel
theorem d1_24 : decode method_2_code 24 = .ok (.iload_n 1, 1) := by decide +kernel
theorem d1_25 : decode method_2_code 25 = .ok (.castore, 1) := by decide +kernel
theorem d1_26 : decode method_2_code 26 = .ok (.astore_n 3, 1) := by decide +kernel
theorem d1_27 : decode method_2_code 27 = .ok (.new 7, 3) := by decide +kernel
theorem d1_30 : decode method_2_code 30 = .ok (.dup, 1) := by decide +kernel
theorem d1_31 : decode method_2_code 31 = .ok (.aload_n 3, 1) := by decide +kernel
theorem d1_32 : decode method_2_code 32 = .ok (.invokespecial 9, 3) := by decide +kernel
theorem d1_35 : decode method_2_code 35 = .ok (.areturn, 1) := by decide +kernel
theorem pn_1 : plainName "com/example/safe_retries/saferetries/identity/RequestIdentityEqualsPinLaw" = true := by first | (simp [plainName, overriddenIn]; done) | decide +kernel
theorem ef_rm1 (m_ : MethodId) (c1 : Int32) (c2 : Int32) (p2 : Int32) : entryFrame m_ #[(.int c1), (.int c2), (.int p2)] 4 = mkF m_ 0 #[.val (.int c1), .val (.int c2), .val (.int p2), .unset] [] := by first | (simp [entryFrame, mkF, argsToLocals, Value.category]; done) | rfl
def Q1 (Z : State) (c1 : Int32) (c2 : Int32) (p2 : Int32) (zc : Int32) (h0 : Heap) (n0 : Nat) (v : Option Value) (h : Heap) (L : List Loc) : Prop := ∃ x t kb, v = some (.ref x) ∧ Fr n0 L ∧ Keep h0 h [] ∧ n0 ≤ x ∧ n0 ≤ t ∧ h0.size ≤ x ∧ h0.size ≤ t ∧ ¬ t = x ∧ StrAt Z h x t kb (own_cs c1 c2 p2)
set_option maxRecDepth 65536 in
set_option maxHeartbeats 40000000 in
theorem rm1 (l : Launch) (Z : State) (a0 : Array Value) (hw : ∀ d ∈ tables_1, d.before a0 Z = true) (ws : List Jvm.Cond) (c1 : Int32) (c2 : Int32) (p2 : Int32) (zc : Int32) (h0 : Heap) (n0 : Nat) (Z0 : n0 ≤ h0.size) (O : Old Z n0 h0) (Sco : Sta Z Z.heap "java/lang/String" "COMPACT_STRINGS" "Z" (.int zc)) (hzc : ¬ zc = 0) (r1 : ¬ c1 < 0 ∧ ¬ (255 : Int32) < c1) (r2 : ¬ c2 < 0 ∧ ¬ (255 : Int32) < c2) :
    MetFree l (⟨"com/example/safe_retries/saferetries/identity/RequestIdentityEqualsPinLaw", "str", "(CCI)Ljava/lang/String;"⟩ : MethodName) (head1 (Jvm.Cond.code (⟨"com/example/safe_retries/saferetries/identity/RequestIdentityEqualsPinLaw", "str", "(CCI)Ljava/lang/String;"⟩ : MethodName) method_2_code 4 (some (.object "java/lang/String")) :: ws) ({ frames := 4, cells := 3, slots := 8, locals := 66 } : Room)) (fun a_ U_ => a_ = #[(.int c1), (.int c2), (.int p2)] ∧ Z.Warmed39 U_.vm ∧ U_.heap = h0) (fun _ _ _ _ _ => True) (fun _ U_ o_ V_ => ∃ v_ L_, o_ = .returned v_ ∧ Q1 Z c1 c2 p2 zc h0 n0 v_ V_.heap L_ ∧ FrameEnd U_ o_ V_ L_ ({ frames := 4, cells := 3, slots := 8, locals := 66 } : Room).cells ({ frames := 4, cells := 3, slots := 8, locals := 66 } : Room).slots) := by
  refine metOf (Q := Q1 Z c1 c2 p2 zc h0 n0) (plainFor_of_name pn_1) ?_
  intro p_ e_ s_ m_ below meth c_ s₁ X0 hx hby hml hret hlk hZ hown hnm e0
  rw [ef_rm1]
  have N0 := Fr.nil n0
  show Go p_ e_ below _ _ s₁ (mkF m_ 0 #[.val (.int c1), .val (.int c2), .val (.int p2), .unset] [])
  refine Go.iloadN X0 hx (hb hby d1_0) rfl ?_
  refine Go.iconst X0 hx (1 : Int32) (hb hby d1_1) rfl ?_
  by_cases hc2_1 : p2 = (1 : Int32)
  · skip
    refine Go.icmpNo X0 hx (hb hby d1_2) (teq hc2_1).2 ?_
    show Go p_ e_ below _ _ s₁ (mkF m_ 5 #[.val (.int c1), .val (.int c2), .val (.int p2), .unset] [])
    refine Go.iconst X0 hx (1 : Int32) (hb hby d1_5) rfl ?_
    refine Go.newP X0 hx hZ (hw _ (List.mem_of_getElem? (i := 7) rfl)) e0 (hb hby d1_6) (by decide) (cap := 1) (by decide) (by decide) (by decide) (by decide) ?_
    intro T2 h2 kc2 b2 zq2 X2 e2 E2 A2
    have g_b2 : n0 ≤ b2 := Nat.le_trans Z0 (Nat.le_of_eq zq2.symm)
    have Z2 : n0 ≤ h2.size := Nat.le_trans Z0 E2.1
    have sz_b2 : h0.size ≤ b2 := Nat.le_trans (Keep.refl h0 []).1 (Nat.le_of_eq zq2.symm)
    have K2 : Keep h0 h2 [] := (Keep.refl h0 []).ext E2
    have O_2_ := O.ext E2
    have V2 : Arv Z h2 b2 kc2 .char (1 : Int32) [(.int (0 : Int32))] (.int (0 : Int32)) := (Arv.new A2 (by decide)).pad (pad_rep [] (.int (0 : Int32)) 1)
    show Go p_ e_ below _ _ T2 (mkF m_ 8 #[.val (.int c1), .val (.int c2), .val (.int p2), .unset] [(.ref b2)])
    refine Go.dup X2 hx (hb hby d1_8) rfl ?_
    refine Go.iconst X2 hx (0 : Int32) (hb hby d1_9) rfl ?_
    refine Go.iloadN X2 hx (hb hby d1_10) rfl ?_
    obtain ⟨cl3, Ar3, q3, S3, M3, H3, G3⟩ := V2
    refine Go.stC X2 hx hZ e2 Ar3 (inb_of S3 ⟨by decide, by decide⟩) (hb hby d1_11) ?_
    intro T3 h3 X3 e3 W3
    have N3 := Fr.snoc X3 N0 g_b2
    have V3 : Arv Z h3 b2 kc2 .char (1 : Int32) [(.int (nar .char c1))] (.int (0 : Int32)) := Arv.set Ar3 q3 S3 M3 H3 G3 (fits_nar_char _) W3 0 rfl (Nat.le_of_ble_eq_true rfl)
    rw [own_nar r1] at V3
    have O_3_ := O_2_.wr W3 g_b2
    have Z3 : n0 ≤ h3.size := (by rw [W3.size]; exact Z2)
    have K3 : Keep h0 h3 [] := K2.wr W3 (Or.inr sz_b2)
    show Go p_ e_ below _ _ T3 (mkF m_ 12 #[.val (.int c1), .val (.int c2), .val (.int p2), .unset] [(.ref b2)])
    refine Go.goto X3 hx (pc' := 26) (hb hby d1_12) (by decide) (by decide) ?_
    refine Go.astoreN X3 hx (l' := #[.val (.int c1), .val (.int c2), .val (.int p2), .val (.ref b2)]) (hb hby d1_26) rfl rfl ?_
    refine Go.newO X3 hx hZ hown (hw _ (List.mem_of_getElem? (i := 8) rfl)) (hw _ (List.mem_of_getElem? (i := 9) rfl)) (hw _ (List.mem_of_getElem? (i := 10) rfl)) e3 (hb hby d1_27) (by decide) (by decide) ?_
    intro T4 h4 b4 zq4 X4 e4 E4 A4 D4
    have ne_b2_b4 : b2 ≠ b4 := Nat.ne_of_lt (Nat.lt_of_lt_of_le V3.lt (Nat.le_of_eq zq4.symm))
    have g_b4 : n0 ≤ b4 := Nat.le_trans Z3 (Nat.le_of_eq zq4.symm)
    have Z4 : n0 ≤ h4.size := Nat.le_trans Z3 E4.1
    have sz_b4 : h0.size ≤ b4 := Nat.le_trans K3.1 (Nat.le_of_eq zq4.symm)
    have K4 : Keep h0 h4 [] := K3.ext E4
    have O_4_ := O_3_.ext E4
    have V_4_b2 := V3.ext E4
    have F_b4_coder : Fld Z h4 b4 "java/lang/String" "coder" "B" (.int (0 : Int32)) := D4 (Or.inr (hw _ (List.mem_of_getElem? (i := 34) rfl))) (ty := .byte) (by decide)
    have F_b4_value : Fld Z h4 b4 "java/lang/String" "value" "[B" .null := D4 (Or.inr (hw _ (List.mem_of_getElem? (i := 36) rfl))) (ty := (.array .byte)) (by decide)
    show Go p_ e_ below _ _ T4 (mkF m_ 30 #[.val (.int c1), .val (.int c2), .val (.int p2), .val (.ref b2)] [(.ref b4)])
    refine Go.dup X4 hx (hb hby d1_30) rfl ?_
    refine Go.aloadN X4 hx (hb hby d1_31) rfl rfl ?_
    refine Go.callIB X4 hx hZ (StrChars.Road.backV (W := 1) hZ (own_hwords hw) (kI := 4) (hw _ (List.mem_of_getElem? (i := 9) rfl)) (cs := [c1]) (bs := own_lo [c1]) (n := 1) g_b4 Z4 A4 F_b4_value F_b4_coder V_4_b2 (Sco.ext O_4_.2) hzc rfl rfl (by decide) (by decide) (own_mem1 (P := fun c => ¬ c < 0 ∧ ¬ (255 : Int32) < c) r1) rfl (by decide) (by decide)) rfl hown (hw _ (List.mem_of_getElem? (i := 11) rfl)) (hw _ (List.mem_of_getElem? (i := 12) rfl)) (hw _ (List.mem_of_getElem? (i := 13) rfl)) (by decide) e4 (a := b4) (by rw [hml]; rfl) (argsL := [(.ref b2)]) (S := [(.ref b4)]) (Nat.le_of_ble_eq_true rfl) (by decide) (by decide) pd_oACcV rfl rfl (hb hby d1_32) ?_
    rintro _ T5 L5 X5 ⟨rfl, N5q, K5, E5, C5, t5, kb5, g_t5, zs5, ne5, Fv5, V5⟩
    have N5 := Fr.app N3 N5q
    have ne_b2_t5 : b2 ≠ t5 := Nat.ne_of_lt (Nat.lt_of_lt_of_le V_4_b2.lt zs5)
    have ne_b4_t5 : b4 ≠ t5 := Nat.ne_of_lt (Nat.lt_of_lt_of_le A4.lt zs5)
    have sz_t5 : h0.size ≤ t5 := Nat.le_trans K4.1 zs5
    have O_5_ := O_4_.keep K5 (allS g_b4 all0)
    have V_5_b2 := V_4_b2.keep K5 (ninS ne_b2_b4 nin0)
    have Z5 : n0 ≤ T5.heap.size := Nat.le_trans Z4 K5.1
    have KK5 : Keep h0 T5.heap [] := K4.trans K5 (allS (Or.inr sz_b4) all0)
    have S_b4 : StrAt Z T5.heap b4 t5 kb5 [c1] := ⟨E5, C5, Fv5, V5⟩
    show Go p_ e_ below _ _ T5 (mkF m_ 35 #[.val (.int c1), .val (.int c2), .val (.int p2), .val (.ref b2)] [(.ref b4)])
    refine Go.retA X5 hx hret hlk rfl rfl rfl (hb hby d1_35) (by decide) (by decide) ?_
    exact ⟨_, _, _, rfl, N5, KK5, g_b4, g_t5, sz_b4, sz_t5, ne5, by unfold own_cs; rw [if_pos hc2_1]; exact S_b4⟩
  · skip
    refine Go.icmpYes X0 hx (pc' := 15) (hb hby d1_2) (feq hc2_1).2 (by decide) (by decide) ?_
    show Go p_ e_ below _ _ s₁ (mkF m_ 15 #[.val (.int c1), .val (.int c2), .val (.int p2), .unset] [])
    refine Go.iconst X0 hx (2 : Int32) (hb hby d1_15) rfl ?_
    refine Go.newP X0 hx hZ (hw _ (List.mem_of_getElem? (i := 7) rfl)) e0 (hb hby d1_16) (by decide) (cap := 2) (by decide) (by decide) (by decide) (by decide) ?_
    intro T6 h6 kc6 b6 zq6 X6 e6 E6 A6
    have g_b6 : n0 ≤ b6 := Nat.le_trans Z0 (Nat.le_of_eq zq6.symm)
    have Z6 : n0 ≤ h6.size := Nat.le_trans Z0 E6.1
    have sz_b6 : h0.size ≤ b6 := Nat.le_trans (Keep.refl h0 []).1 (Nat.le_of_eq zq6.symm)
    have K6 : Keep h0 h6 [] := (Keep.refl h0 []).ext E6
    have O_6_ := O.ext E6
    have V6 : Arv Z h6 b6 kc6 .char (2 : Int32) [(.int (0 : Int32)), (.int (0 : Int32))] (.int (0 : Int32)) := (Arv.new A6 (by decide)).pad (pad_rep [] (.int (0 : Int32)) 2)
    show Go p_ e_ below _ _ T6 (mkF m_ 18 #[.val (.int c1), .val (.int c2), .val (.int p2), .unset] [(.ref b6)])
    refine Go.dup X6 hx (hb hby d1_18) rfl ?_
    refine Go.iconst X6 hx (0 : Int32) (hb hby d1_19) rfl ?_
    refine Go.iloadN X6 hx (hb hby d1_20) rfl ?_
    obtain ⟨cl7, Ar7, q7, S7, M7, H7, G7⟩ := V6
    refine Go.stC X6 hx hZ e6 Ar7 (inb_of S7 ⟨by decide, by decide⟩) (hb hby d1_21) ?_
    intro T7 h7 X7 e7 W7
    have N7 := Fr.snoc X7 N0 g_b6
    have V7 : Arv Z h7 b6 kc6 .char (2 : Int32) [(.int (nar .char c1)), (.int (0 : Int32))] (.int (0 : Int32)) := Arv.set Ar7 q7 S7 M7 H7 G7 (fits_nar_char _) W7 0 rfl (Nat.le_of_ble_eq_true rfl)
    rw [own_nar r1] at V7
    have O_7_ := O_6_.wr W7 g_b6
    have Z7 : n0 ≤ h7.size := (by rw [W7.size]; exact Z6)
    have K7 : Keep h0 h7 [] := K6.wr W7 (Or.inr sz_b6)
    show Go p_ e_ below _ _ T7 (mkF m_ 22 #[.val (.int c1), .val (.int c2), .val (.int p2), .unset] [(.ref b6)])
    refine Go.dup X7 hx (hb hby d1_22) rfl ?_
    refine Go.iconst X7 hx (1 : Int32) (hb hby d1_23) rfl ?_
    refine Go.iloadN X7 hx (hb hby d1_24) rfl ?_
    obtain ⟨cl8, Ar8, q8, S8, M8, H8, G8⟩ := V7
    refine Go.stC X7 hx hZ e7 Ar8 (inb_of S8 ⟨by decide, by decide⟩) (hb hby d1_25) ?_
    intro T8 h8 X8 e8 W8
    have N8 := Fr.snoc X8 N7 g_b6
    have V8 : Arv Z h8 b6 kc6 .char (2 : Int32) [(.int c1), (.int (nar .char c2))] (.int (0 : Int32)) := Arv.set Ar8 q8 S8 M8 H8 G8 (fits_nar_char _) W8 1 rfl (Nat.le_of_ble_eq_true rfl)
    rw [own_nar r2] at V8
    have O_8_ := O_7_.wr W8 g_b6
    have Z8 : n0 ≤ h8.size := (by rw [W8.size]; exact Z7)
    have K8 : Keep h0 h8 [] := K7.wr W8 (Or.inr sz_b6)
    show Go p_ e_ below _ _ T8 (mkF m_ 26 #[.val (.int c1), .val (.int c2), .val (.int p2), .unset] [(.ref b6)])
    refine Go.astoreN X8 hx (l' := #[.val (.int c1), .val (.int c2), .val (.int p2), .val (.ref b6)]) (hb hby d1_26) rfl rfl ?_
    refine Go.newO X8 hx hZ hown (hw _ (List.mem_of_getElem? (i := 8) rfl)) (hw _ (List.mem_of_getElem? (i := 9) rfl)) (hw _ (List.mem_of_getElem? (i := 10) rfl)) e8 (hb hby d1_27) (by decide) (by decide) ?_
    intro T9 h9 b9 zq9 X9 e9 E9 A9 D9
    have ne_b6_b9 : b6 ≠ b9 := Nat.ne_of_lt (Nat.lt_of_lt_of_le V8.lt (Nat.le_of_eq zq9.symm))
    have g_b9 : n0 ≤ b9 := Nat.le_trans Z8 (Nat.le_of_eq zq9.symm)
    have Z9 : n0 ≤ h9.size := Nat.le_trans Z8 E9.1
    have sz_b9 : h0.size ≤ b9 := Nat.le_trans K8.1 (Nat.le_of_eq zq9.symm)
    have K9 : Keep h0 h9 [] := K8.ext E9
    have O_9_ := O_8_.ext E9
    have V_9_b6 := V8.ext E9
    have F_b9_coder : Fld Z h9 b9 "java/lang/String" "coder" "B" (.int (0 : Int32)) := D9 (Or.inr (hw _ (List.mem_of_getElem? (i := 34) rfl))) (ty := .byte) (by decide)
    have F_b9_value : Fld Z h9 b9 "java/lang/String" "value" "[B" .null := D9 (Or.inr (hw _ (List.mem_of_getElem? (i := 36) rfl))) (ty := (.array .byte)) (by decide)
    show Go p_ e_ below _ _ T9 (mkF m_ 30 #[.val (.int c1), .val (.int c2), .val (.int p2), .val (.ref b6)] [(.ref b9)])
    refine Go.dup X9 hx (hb hby d1_30) rfl ?_
    refine Go.aloadN X9 hx (hb hby d1_31) rfl rfl ?_
    refine Go.callIB X9 hx hZ (StrChars.Road.backV (W := 1) hZ (own_hwords hw) (kI := 4) (hw _ (List.mem_of_getElem? (i := 9) rfl)) (cs := [c1, c2]) (bs := own_lo [c1, c2]) (n := 2) g_b9 Z9 A9 F_b9_value F_b9_coder V_9_b6 (Sco.ext O_9_.2) hzc rfl rfl (by decide) (by decide) (own_mem2 (P := fun c => ¬ c < 0 ∧ ¬ (255 : Int32) < c) r1 r2) rfl (by decide) (by decide)) rfl hown (hw _ (List.mem_of_getElem? (i := 11) rfl)) (hw _ (List.mem_of_getElem? (i := 12) rfl)) (hw _ (List.mem_of_getElem? (i := 13) rfl)) (by decide) e9 (a := b9) (by rw [hml]; rfl) (argsL := [(.ref b6)]) (S := [(.ref b9)]) (Nat.le_of_ble_eq_true rfl) (by decide) (by decide) pd_oACcV rfl rfl (hb hby d1_32) ?_
    rintro _ T10 L10 X10 ⟨rfl, N10q, K10, E10, C10, t10, kb10, g_t10, zs10, ne10, Fv10, V10⟩
    have N10 := Fr.app N8 N10q
    have ne_b6_t10 : b6 ≠ t10 := Nat.ne_of_lt (Nat.lt_of_lt_of_le V_9_b6.lt zs10)
    have ne_b9_t10 : b9 ≠ t10 := Nat.ne_of_lt (Nat.lt_of_lt_of_le A9.lt zs10)
    have sz_t10 : h0.size ≤ t10 := Nat.le_trans K9.1 zs10
    have O_10_ := O_9_.keep K10 (allS g_b9 all0)
    have V_10_b6 := V_9_b6.keep K10 (ninS ne_b6_b9 nin0)
    have Z10 : n0 ≤ T10.heap.size := Nat.le_trans Z9 K10.1
    have KK10 : Keep h0 T10.heap [] := K9.trans K10 (allS (Or.inr sz_b9) all0)
    have S_b9 : StrAt Z T10.heap b9 t10 kb10 [c1, c2] := ⟨E10, C10, Fv10, V10⟩
    show Go p_ e_ below _ _ T10 (mkF m_ 35 #[.val (.int c1), .val (.int c2), .val (.int p2), .val (.ref b6)] [(.ref b9)])
    refine Go.retA X10 hx hret hlk rfl rfl rfl (hb hby d1_35) (by decide) (by decide) ?_
    exact ⟨_, _, _, rfl, N10, KK10, g_b9, g_t10, sz_b9, sz_t10, ne10, by unfold own_cs; rw [if_neg hc2_1]; exact S_b9⟩
theorem d9_0 : decode jdk_31_method_11_code 0 = .ok (.aload_n 0, 1) := by decide +kernel
theorem d9_1 : decode jdk_31_method_11_code 1 = .ok (.ifnonnull 12, 3) := by decide +kernel
theorem d9_13 : decode jdk_31_method_11_code 13 = .ok (.aload_n 0, 1) := by decide +kernel
theorem d9_14 : decode jdk_31_method_11_code 14 = .ok (.areturn, 1) := by decide +kernel
theorem pn_9 : plainName "java/util/Objects" = true := by first | (simp [plainName, overriddenIn]; done) | decide +kernel
theorem ef_rm9 (m_ : MethodId) (x : Addr) (y : Addr) : entryFrame m_ #[(.ref x), (.ref y)] 2 = mkF m_ 0 #[.val (.ref x), .val (.ref y)] [] := by first | (simp [entryFrame, mkF, argsToLocals, Value.category]; done) | rfl
def Q9 (Z : State) (x : Addr) (y : Addr)  (h0 : Heap) (n0 : Nat) (v : Option Value) (h : Heap) (L : List Loc) : Prop := v = some (.ref x) ∧ Fr n0 L ∧ h = h0
set_option maxRecDepth 65536 in
set_option maxHeartbeats 40000000 in
theorem rm9 (l : Launch) (Z : State) (a0 : Array Value) (hw : ∀ d ∈ tables_1, d.before a0 Z = true) (ws : List Jvm.Cond) (x : Addr) (y : Addr)  (h0 : Heap) (n0 : Nat) (Z0 : n0 ≤ h0.size)  :
    MetFree l (⟨"java/util/Objects", "requireNonNull", "(Ljava/lang/Object;Ljava/lang/String;)Ljava/lang/Object;"⟩ : MethodName) (head1 (Jvm.Cond.code (⟨"java/util/Objects", "requireNonNull", "(Ljava/lang/Object;Ljava/lang/String;)Ljava/lang/Object;"⟩ : MethodName) jdk_31_method_11_code 2 (some (.object "java/lang/Object")) :: ws) ({ frames := 0, cells := 0, slots := 0, locals := 0 } : Room)) (fun a_ U_ => a_ = #[(.ref x), (.ref y)] ∧ Z.Warmed39 U_.vm ∧ U_.heap = h0) (fun _ _ _ _ _ => True) (fun _ U_ o_ V_ => ∃ v_ L_, o_ = .returned v_ ∧ Q9 Z x y h0 n0 v_ V_.heap L_ ∧ FrameEnd U_ o_ V_ L_ ({ frames := 0, cells := 0, slots := 0, locals := 0 } : Room).cells ({ frames := 0, cells := 0, slots := 0, locals := 0 } : Room).slots) := by
  refine metOf (Q := Q9 Z x y h0 n0) (plainFor_of_name pn_9) ?_
  intro p_ e_ s_ m_ below meth c_ s₁ X0 hx hby hml hret hlk hZ hown hnm e0
  rw [ef_rm9]
  have N0 := Fr.nil n0
  show Go p_ e_ below _ _ s₁ (mkF m_ 0 #[.val (.ref x), .val (.ref y)] [])
  refine Go.aloadN X0 hx (hb hby d9_0) rfl rfl ?_
  refine Go.ifnonnullYes X0 hx (pc' := 13) (hb hby d9_1) (by decide) (by decide) ?_
  refine Go.aloadN X0 hx (hb hby d9_13) rfl rfl ?_
  refine Go.retA X0 hx hret hlk rfl rfl rfl (hb hby d9_14) (by decide) (by decide) ?_
  exact ⟨rfl, N0, e0⟩
theorem own_ofl {i n : Nat} (h : n ≤ 255) (hi : i ≤ n) : Int32.ofNat i < Int32.ofNat n ↔ i < n := by
  rw [Int32.lt_iff_toInt_lt, Int32.toInt_ofNat_small (by show i < 2147483648; omega), Int32.toInt_ofNat_small (by show n < 2147483648; omega)]
  omega
theorem own_inc (i : Nat) : Int32.ofNat i + (1 : Int32) = Int32.ofNat (i + 1) := by
  apply Int32.toBitVec_inj.mp
  simp
theorem own_255 {n : Nat} (h : n ≤ 255) : ¬ (255 : Int32) < Int32.ofNat n := by
  rw [Int32.lt_iff_toInt_lt, Int32.toInt_ofNat_small (by show n < 2147483648; omega)]
  have : (255 : Int32).toInt = 255 := rfl
  omega
theorem own_getp {P : Int32 → Prop} {cs : List Int32} (h : ∀ c ∈ cs, P c) {i : Nat} (hi : i < cs.length) : P (cs.getD i 0) := by
  have : cs.getD i 0 = cs[i] := by simp [List.getD_eq_getElem?_getD, hi]
  rw [this]; exact h _ (List.getElem_mem hi)
theorem pd_oLjava_lang_ObjectLjava_lang_StringcLjava_lang_Object : parseMethodDescriptor "(Ljava/lang/Object;Ljava/lang/String;)Ljava/lang/Object;" = some ⟨[(.object "java/lang/Object"), (.object "java/lang/String")], some (.object "java/lang/Object")⟩ := by decide +kernel
theorem pd_ocZ : parseMethodDescriptor "()Z" = some ⟨[], some .boolean⟩ := by decide +kernel
theorem pd_ocI : parseMethodDescriptor "()I" = some ⟨[], some .int⟩ := by decide +kernel
theorem pd_oIcC : parseMethodDescriptor "(I)C" = some ⟨[.int], some .char⟩ := by decide +kernel
theorem d8_0 : decode prog_16_method_1_code 0 = .ok (.aload_n 0, 1) := by decide +kernel
theorem d8_1 : decode prog_16_method_1_code 1 = .ok (.invokespecial 1, 3) := by decide +kernel
theorem d8_4 : decode prog_16_method_1_code 4 = .ok (.aload_n 1, 1) := by decide +kernel
theorem d8_5 : decode prog_16_method_1_code 5 = .ok (.ldc 7, 2) := by decide +kernel
theorem d8_7 : decode prog_16_method_1_code 7 = .ok (.invokestatic 9, 3) := by decide +kernel
theorem d8_10 : decode prog_16_method_1_code 10 = .ok (.pop, 1) := by decide +kernel
theorem d8_11 : decode prog_16_method_1_code 11 = .ok (.aload_n 1, 1) := by decide +kernel
theorem d8_12 : decode prog_16_method_1_code 12 = .ok (.invokevirtual 15, 3) := by decide +kernel
theorem d8_15 : decode prog_16_method_1_code 15 = .ok (.ifCond .eq 13, 3) := by decide +kernel
theorem d8_28 : decode prog_16_method_1_code 28 = .ok (.aload_n 1, 1) := by decide +kernel
theorem d8_29 : decode prog_16_method_1_code 29 = .ok (.invokevirtual 28, 3) := by decide +kernel
theorem d8_32 : decode prog_16_method_1_code 32 = .ok (.sipush 255, 3) := by decide +kernel
theorem d8_35 : decode prog_16_method_1_code 35 = .ok (.if_icmp .le 20, 3) := by decide +kernel
theorem d8_55 : decode prog_16_method_1_code 55 = .ok (.iconst 0, 1) := by decide +kernel
theorem d8_56 : decode prog_16_method_1_code 56 = .ok (.istore_n 2, 1) := by decide +kernel
theorem d8_57 : decode prog_16_method_1_code 57 = .ok (.iload_n 2, 1) := by decide +kernel
theorem d8_58 : decode prog_16_method_1_code 58 = .ok (.aload_n 1, 1) := by decide +kernel
theorem d8_59 : decode prog_16_method_1_code 59 = .ok (.invokevirtual 28, 3) := by decide +kernel
theorem d8_62 : decode prog_16_method_1_code 62 = .ok (.if_icmp .ge 58, 3) := by decide +kernel
theorem d8_65 : decode prog_16_method_1_code 65 = .ok (.aload_n 1, 1) := by decide +kernel
theorem d8_66 : decode prog_16_method_1_code 66 = .ok (.iload_n 2, 1) := by decide +kernel
theorem d8_67 : decode prog_16_method_1_code 67 = .ok (.invokevirtual 38, 3) := by decide +kernel
theorem d8_70 : decode prog_16_method_1_code 70 = .ok (.istore_n 3, 1) := by decide +kernel
theorem d8_71 : decode prog_16_method_1_code 71 = .ok (.iload_n 3, 1) := by decide +kernel
theorem d8_72 : decode prog_16_method_1_code 72 = .ok (.bipush 32, 2) := by decide +kernel
theorem d8_74 : decode prog_16_method_1_code 74 = .ok (.if_icmp .lt 9, 3) := by decide +kernel
theorem d8_77 : decode prog_16_method_1_code 77 = .ok (.iload_n 3, 1) := by decide +kernel
theorem d8_78 : decode prog_16_method_1_code 78 = .ok (.bipush 126, 2) := by decide +kernel
theorem d8_80 : decode prog_16_method_1_code 80 = .ok (.if_icmp .le 34, 3) := by decide +kernel
theorem d8_114 : decode prog_16_method_1_code 114 = .ok (.iinc 2 1, 3) := by decide +kernel
theorem d8_117 : decode prog_16_method_1_code 117 = .ok (.goto (-60), 3) := by decide +kernel
theorem d8_120 : decode prog_16_method_1_code 120 = .ok (.aload_n 0, 1) := by decide +kernel
theorem d8_121 : decode prog_16_method_1_code 121 = .ok (.aload_n 1, 1) := by decide +kernel
theorem d8_122 : decode prog_16_method_1_code 122 = .ok (.putfield 54, 3) := by decide +kernel
theorem d8_125 : decode prog_16_method_1_code 125 = .ok (.return_, 1) := by decide +kernel
theorem pn_8 : plainName "com/example/safe_retries/saferetries/identity/IdempotencyKey" = true := by first | (simp [plainName, overriddenIn]; done) | decide +kernel
theorem ef_rm8 (m_ : MethodId) (a : Addr) (x : Addr) : entryFrame m_ #[(.ref a), (.ref x)] 4 = mkF m_ 0 #[.val (.ref a), .val (.ref x), .unset, .unset] [] := by first | (simp [entryFrame, mkF, argsToLocals, Value.category]; done) | rfl
def Q8 (Z : State) (a : Addr) (x : Addr) (t : Addr) (kb : ClassId) (cs : List Int32) (zc : Int32) (fm : Value) (h0 : Heap) (n0 : Nat) (v : Option Value) (h : Heap) (L : List Loc) : Prop := v = none ∧ Fr n0 L ∧ Keep h0 h [a] ∧ Exa Z h a "com/example/safe_retries/saferetries/identity/IdempotencyKey" ∧ Fld Z h a "com/example/safe_retries/saferetries/identity/IdempotencyKey" "value" "Ljava/lang/String;" (.ref x)
set_option maxRecDepth 65536 in
set_option maxHeartbeats 40000000 in
theorem rm8 (l : Launch) (Z : State) (a0 : Array Value) (hw : ∀ d ∈ tables_1, d.before a0 Z = true) (ws : List Jvm.Cond) (a : Addr) (x : Addr) (t : Addr) (kb : ClassId) (cs : List Int32) (zc : Int32) (fm : Value) (h0 : Heap) (n0 : Nat) (Z0 : n0 ≤ h0.size) (O : Old Z n0 h0) (Sco : Sta Z Z.heap "java/lang/String" "COMPACT_STRINGS" "Z" (.int zc)) (hzc : ¬ zc = 0) (Sfm : Sta Z Z.heap "jdk/internal/util/Preconditions" "SIOOBE_FORMATTER" "Ljava/util/function/BiFunction;" fm) (rfm : fm.isRef = true) (E_a : Exa Z h0 a "com/example/safe_retries/saferetries/identity/IdempotencyKey") (F_v : Fld Z h0 a "com/example/safe_retries/saferetries/identity/IdempotencyKey" "value" "Ljava/lang/String;" .null) (g_a : n0 ≤ a) (S_x : StrAt Z h0 x t kb cs) (hp : ∀ c ∈ cs, ¬ c < 0 ∧ ¬ (255 : Int32) < c) (hpr : ∀ c ∈ cs, ¬ c < (32 : Int32) ∧ ¬ (126 : Int32) < c) (hlen : 0 < cs.length ∧ cs.length ≤ 255) (nex : x ≠ a) (net : t ≠ a) :
    MetFree l (⟨"com/example/safe_retries/saferetries/identity/IdempotencyKey", "<init>", "(Ljava/lang/String;)V"⟩ : MethodName) (head1 (Jvm.Cond.code (⟨"com/example/safe_retries/saferetries/identity/IdempotencyKey", "<init>", "(Ljava/lang/String;)V"⟩ : MethodName) prog_16_method_1_code 4 none :: ws) ({ frames := 4, cells := 2, slots := 24, locals := 53 } : Room)) (fun a_ U_ => a_ = #[(.ref a), (.ref x)] ∧ Z.Warmed39 U_.vm ∧ U_.heap = h0) (fun _ _ _ _ _ => True) (fun _ U_ o_ V_ => ∃ v_ L_, o_ = .returned v_ ∧ Q8 Z a x t kb cs zc fm h0 n0 v_ V_.heap L_ ∧ ReturnedEndW U_ o_ V_ L_ ({ frames := 4, cells := 2, slots := 24, locals := 53 } : Room).cells ({ frames := 4, cells := 2, slots := 24, locals := 53 } : Room).slots) := by
  refine metOfW (Q := Q8 Z a x t kb cs zc fm h0 n0) (plainFor_of_name pn_8) ?_
  intro p_ e_ s_ m_ below meth c_ s₁ X0 hx hby hml hret hlk hZ hown hnm e0 hS
  have hk : 0 ≤ h0.size := Nat.zero_le _
  rw [ef_rm8]
  have N0 := Fr.nil n0
  have hwS := own_hwS hw
  show Go p_ e_ below _ _ s₁ (mkF m_ 0 #[.val (.ref a), .val (.ref x), .unset, .unset] [])
  refine Go.aloadN X0 hx (hb hby d8_0) rfl rfl ?_
  refine Go.initO X0 hx hZ hown (hw _ (List.mem_of_getElem? (i := 40) rfl)) (hw _ (List.mem_of_getElem? (i := 19) rfl)) (hw _ (List.mem_of_getElem? (i := 20) rfl)) e0 (by rw [hml]; rfl) (hb hby d8_1) (by decide) (W := 0) (Nat.le_of_ble_eq_true rfl) (by decide) ?_
  intro T1 X1 e1
  show Go p_ e_ below _ _ T1 (mkF m_ 4 #[.val (.ref a), .val (.ref x), .unset, .unset] [])
  refine Go.aloadN X1 hx (hb hby d8_4) rfl rfl ?_
  refine Go.ldcS X1 hx hZ hown (hw _ (List.mem_of_getElem? (i := 41) rfl)) hwS hS e1 hk (hb hby d8_5) (n := 20) (by decide) (by decide) (by decide) (by decide) ?_
  intro lit2 T2 h2 k2 X2 e2 E2 hS2 hk2 hZ hown
  have Z2 : n0 ≤ h2.size := Nat.le_trans Z0 E2.1
  have K2 : Keep h0 h2 [a] := (Keep.refl h0 [a]).ext E2
  have O_2_ := O.ext E2
  have E_2_a := E_a.ext E2
  have F_2_a_value := F_v.ext E2
  have S2_x := S_x.ext E2
  show Go p_ e_ below _ _ T2 (mkF m_ 7 #[.val (.ref a), .val (.ref x), .unset, .unset] [(.ref lit2), (.ref x)])
  refine Go.callS X2 hx hZ (rm9 l Z a0 hw [] x lit2 h2 n0 Z2) hown (hw _ (List.mem_of_getElem? (i := 44) rfl)) (hw _ (List.mem_of_getElem? (i := 45) rfl)) (hw _ (List.mem_of_getElem? (i := 46) rfl)) (hw _ (List.mem_of_getElem? (i := 47) rfl)) (by decide) e2 (W := 0) (by rw [hml]; rfl) (argsL := [(.ref x), (.ref lit2)]) (S := []) (Nat.le_of_ble_eq_true rfl) (by decide) (by decide) (by decide) (by decide) pd_oLjava_lang_ObjectLjava_lang_StringcLjava_lang_Object rfl rfl (hb hby d8_7) ?_
  rintro _ T3 L3 X3 ⟨rfl, N3q, e3⟩
  have N3 := Fr.app N0 N3q
  show Go p_ e_ below _ _ T3 (mkF m_ 10 #[.val (.ref a), .val (.ref x), .unset, .unset] [(.ref x)])
  refine Go.pop X3 hx (hb hby d8_10) rfl ?_
  refine Go.aloadN X3 hx (hb hby d8_11) rfl rfl ?_
  refine Go.callVB X3 hx hZ (y0 := (⟨"java/lang/String", "isEmpty", "()Z"⟩ : MethodName)) (K := "java/lang/String") (C1 := 0) (N1 := 0) (Qy := fun v_ h_ L_ => (v_ = some (.int (if (cs).length = 0 then (1 : Int32) else (0 : Int32)))) ∧ L_ = [] ∧ h_ = h2) (StrChars.Road.empW (W := 0) hZ (own_hwordsEmp hw) (kI := 4) (hw _ (List.mem_of_getElem? (i := 9) rfl)) S2_x.1 S2_x.2.2.1 S2_x.2.1 S2_x.2.2.2 (own_cod hp) (own_up hp) (by omega) (by decide) (by decide)) (by decide) hown (hw _ (List.mem_of_getElem? (i := 48) rfl)) (hw _ (List.mem_of_getElem? (i := 49) rfl)) (notFace_of_selects (args := #[]) (mvT hZ (hw _ (List.mem_of_getElem? (i := 51) rfl)))) (hw _ (List.mem_of_getElem? (i := 51) rfl)) (hw _ (List.mem_of_getElem? (i := 50) rfl)) e3 S2_x.1 (by rw [hml]; rfl) (argsL := []) (S := []) (Nat.le_of_ble_eq_true rfl) (by decide) (by decide) pd_ocZ rfl rfl (hb hby d8_12) ?_
  rintro _ T4 L4 X4 ⟨rfl, rfl, e4⟩
  have N4 := Fr.app N3 (Fr.nil n0)
  show Go p_ e_ below _ _ T4 (mkF m_ 15 #[.val (.ref a), .val (.ref x), .unset, .unset] [(.int (if (cs).length = 0 then (1 : Int32) else (0 : Int32)))])
  refine Go.ifYes X4 hx (pc' := 28) (hb hby d8_15) ((if0 _ _).trans (teq (by rw [if_neg (by omega)])).1) (by decide) (by decide) ?_
  show Go p_ e_ below _ _ T4 (mkF m_ 28 #[.val (.ref a), .val (.ref x), .unset, .unset] [])
  refine Go.aloadN X4 hx (hb hby d8_28) rfl rfl ?_
  refine Go.callVB X4 hx hZ (y0 := (⟨"java/lang/String", "length", "()I"⟩ : MethodName)) (K := "java/lang/String") (C1 := 0) (N1 := 0) (Qy := fun v_ h_ L_ => (v_ = some (.int (Int32.ofNat (cs).length))) ∧ L_ = [] ∧ h_ = h2) (StrChars.Road.lenW (W := 0) hZ (own_hwordsLen hw) (kI := 4) (hw _ (List.mem_of_getElem? (i := 9) rfl)) S2_x.1 S2_x.2.2.1 S2_x.2.1 S2_x.2.2.2 (own_cod hp) (own_up hp) (Sco.ext O_2_.2) hzc (by omega) (by decide) (by decide)) (by decide) hown (hw _ (List.mem_of_getElem? (i := 53) rfl)) (hw _ (List.mem_of_getElem? (i := 54) rfl)) (notFace_of_selects (args := #[]) (mvT hZ (hw _ (List.mem_of_getElem? (i := 56) rfl)))) (hw _ (List.mem_of_getElem? (i := 56) rfl)) (hw _ (List.mem_of_getElem? (i := 55) rfl)) e4 S2_x.1 (by rw [hml]; rfl) (argsL := []) (S := []) (Nat.le_of_ble_eq_true rfl) (by decide) (by decide) pd_ocI rfl rfl (hb hby d8_29) ?_
  rintro _ T5 L5 X5 ⟨rfl, rfl, e5⟩
  have N5 := Fr.app N4 (Fr.nil n0)
  show Go p_ e_ below _ _ T5 (mkF m_ 32 #[.val (.ref a), .val (.ref x), .unset, .unset] [(.int (Int32.ofNat (cs).length))])
  refine Go.sipush X5 hx (255 : Int32) (hb hby d8_32) rfl ?_
  refine Go.icmpYes X5 hx (pc' := 55) (hb hby d8_35) (flt (own_255 hlen.2)).2.2.2 (by decide) (by decide) ?_
  show Go p_ e_ below _ _ T5 (mkF m_ 55 #[.val (.ref a), .val (.ref x), .unset, .unset] [])
  refine Go.iconst X5 hx (0 : Int32) (hb hby d8_55) rfl ?_
  refine Go.istoreN X5 hx (l' := #[.val (.ref a), .val (.ref x), .val (.int (0 : Int32)), .unset]) (hb hby d8_56) rfl ?_
  have loop : ∀ (k i : Nat) (T1 : State) (l1 : List Loc) (s3 : Slot), i + k = cs.length → Stand p_ l e_ ({ frames := 4, cells := 2, slots := 24, locals := 53 } : Room) (s_.setVm T2.vm) m_ #[(.ref a), (.ref x)] below meth c_ T1 l1 2 24 → Fr n0 l1 → T1.heap = h2 → One s3 → Go p_ e_ below (WE s_ ({ frames := 4, cells := 2, slots := 24, locals := 53 } : Room).cells ({ frames := 4, cells := 2, slots := 24, locals := 53 } : Room).slots) (Q8 Z a x t kb cs zc fm h0 n0) T1 (mkF m_ 57 #[.val (.ref a), .val (.ref x), .val (.int (Int32.ofNat i)), s3] []) := by
    intro k
    induction k with
    | zero =>
      intro i T1 l1 s3 hik X1 N1 e1 o3
      show Go p_ e_ below _ _ T1 (mkF m_ 57 #[.val (.ref a), .val (.ref x), .val (.int (Int32.ofNat i)), s3] [])
      refine Go.iloadN X1 hx (hb hby d8_57) rfl ?_
      refine Go.aloadN X1 hx (hb hby d8_58) rfl rfl ?_
      refine Go.callVB X1 hx hZ (y0 := (⟨"java/lang/String", "length", "()I"⟩ : MethodName)) (K := "java/lang/String") (C1 := 0) (N1 := 0) (Qy := fun v_ h_ L_ => (v_ = some (.int (Int32.ofNat (cs).length))) ∧ L_ = [] ∧ h_ = h2) (StrChars.Road.lenW (W := 1) hZ (own_hwordsLen hw) (kI := 4) (hw _ (List.mem_of_getElem? (i := 9) rfl)) S2_x.1 S2_x.2.2.1 S2_x.2.1 S2_x.2.2.2 (own_cod hp) (own_up hp) (Sco.ext O_2_.2) hzc (by omega) (by decide) (by decide)) (by decide) hown (hw _ (List.mem_of_getElem? (i := 53) rfl)) (hw _ (List.mem_of_getElem? (i := 54) rfl)) (notFace_of_selects (args := #[]) (mvT hZ (hw _ (List.mem_of_getElem? (i := 56) rfl)))) (hw _ (List.mem_of_getElem? (i := 56) rfl)) (hw _ (List.mem_of_getElem? (i := 55) rfl)) e1 S2_x.1 (by rw [hml]; rfl) (argsL := []) (S := [(.int (Int32.ofNat i))]) (Nat.le_of_ble_eq_true rfl) (by decide) (by decide) pd_ocI rfl rfl (hb hby d8_59) ?_
      rintro _ T7 L7 X7 ⟨rfl, rfl, e7⟩
      have N7 := Fr.app N1 (Fr.nil n0)
      show Go p_ e_ below _ _ T7 (mkF m_ 62 #[.val (.ref a), .val (.ref x), .val (.int (Int32.ofNat i)), s3] [(.int (Int32.ofNat (cs).length)), (.int (Int32.ofNat i))])
      refine Go.icmpYes X7 hx (pc' := 120) (hb hby d8_62) (flt (by rw [own_ofl (by omega) (by omega)]; omega)).2.1 (by decide) (by decide) ?_
      show Go p_ e_ below _ _ T7 (mkF m_ 120 #[.val (.ref a), .val (.ref x), .val (.int (Int32.ofNat i)), s3] [])
      refine Go.aloadN X7 hx (hb hby d8_120) rfl rfl ?_
      refine Go.aloadN X7 hx (hb hby d8_121) rfl rfl ?_
      refine Go.putF X7 hx hZ hown (host := "") (Or.inl (hw _ (List.mem_of_getElem? (i := 85) rfl))) Via.refl e7 F_2_a_value E_2_a (Or.inr ⟨(hw _ (List.mem_of_getElem? (i := 86) rfl)), rfl, hnm⟩) (hw _ (List.mem_of_getElem? (i := 1) rfl)) (ty := (.object "java/lang/String")) (by decide) rfl rfl (hb hby d8_122) ?_
      intro T8 h8 X8 e8 W8
      have N8 := Fr.snoc X8 N7 g_a
      have O_8_ := O_2_.wr W8 g_a
      have E_8_a := E_2_a.wr W8
      have F_8_a_value := F_2_a_value.same W8
      have S8_x := S2_x.wr W8 nex net
      have K8 : Keep h0 h8 [a] := K2.wr W8 (Or.inl (List.mem_of_getElem? (i := 0) rfl))
      have Z8 : n0 ≤ h8.size := (by rw [W8.size]; exact Z2)
      have hk8 : _ ≤ h8.size := (by rw [W8.size]; exact hk2)
      show Go p_ e_ below _ _ T8 (mkF m_ 125 #[.val (.ref a), .val (.ref x), .val (.int (Int32.ofNat i)), s3] [])
      refine Go.retVW X8 hx hS2 e8 hk8 hret hlk (hb hby d8_125) (by decide) (by decide) ?_
      rw [e8]
      exact ⟨rfl, N8, K8, E_8_a, F_8_a_value⟩
    | succ k ih =>
      intro i T1 l1 s3 hik X1 N1 e1 o3
      have hi : i < cs.length := by omega
      show Go p_ e_ below _ _ T1 (mkF m_ 57 #[.val (.ref a), .val (.ref x), .val (.int (Int32.ofNat i)), s3] [])
      refine Go.iloadN X1 hx (hb hby d8_57) rfl ?_
      refine Go.aloadN X1 hx (hb hby d8_58) rfl rfl ?_
      refine Go.callVB X1 hx hZ (y0 := (⟨"java/lang/String", "length", "()I"⟩ : MethodName)) (K := "java/lang/String") (C1 := 0) (N1 := 0) (Qy := fun v_ h_ L_ => (v_ = some (.int (Int32.ofNat (cs).length))) ∧ L_ = [] ∧ h_ = h2) (StrChars.Road.lenW (W := 1) hZ (own_hwordsLen hw) (kI := 4) (hw _ (List.mem_of_getElem? (i := 9) rfl)) S2_x.1 S2_x.2.2.1 S2_x.2.1 S2_x.2.2.2 (own_cod hp) (own_up hp) (Sco.ext O_2_.2) hzc (by omega) (by decide) (by decide)) (by decide) hown (hw _ (List.mem_of_getElem? (i := 53) rfl)) (hw _ (List.mem_of_getElem? (i := 54) rfl)) (notFace_of_selects (args := #[]) (mvT hZ (hw _ (List.mem_of_getElem? (i := 56) rfl)))) (hw _ (List.mem_of_getElem? (i := 56) rfl)) (hw _ (List.mem_of_getElem? (i := 55) rfl)) e1 S2_x.1 (by rw [hml]; rfl) (argsL := []) (S := [(.int (Int32.ofNat i))]) (Nat.le_of_ble_eq_true rfl) (by decide) (by decide) pd_ocI rfl rfl (hb hby d8_59) ?_
      rintro _ T9 L9 X9 ⟨rfl, rfl, e9⟩
      have N9 := Fr.app N1 (Fr.nil n0)
      show Go p_ e_ below _ _ T9 (mkF m_ 62 #[.val (.ref a), .val (.ref x), .val (.int (Int32.ofNat i)), s3] [(.int (Int32.ofNat (cs).length)), (.int (Int32.ofNat i))])
      refine Go.icmpNo X9 hx (hb hby d8_62) (tlt (by rw [own_ofl (by omega) (by omega)]; exact hi)).2.1 ?_
      show Go p_ e_ below _ _ T9 (mkF m_ 65 #[.val (.ref a), .val (.ref x), .val (.int (Int32.ofNat i)), s3] [])
      refine Go.aloadN X9 hx (hb hby d8_65) rfl rfl ?_
      refine Go.iloadN X9 hx (hb hby d8_66) rfl ?_
      refine Go.callVB X9 hx hZ (y0 := (⟨"java/lang/String", "charAt", "(I)C"⟩ : MethodName)) (K := "java/lang/String") (C1 := 0) (N1 := 0) (Qy := fun v_ h_ L_ => (v_ = some (.int ((cs).getD i 0))) ∧ L_ = [] ∧ h_ = h2) (StrChars.Road.chN (W := 0) hZ (own_hwordsChN hw) (kI := 4) (hw _ (List.mem_of_getElem? (i := 9) rfl)) S2_x.1 S2_x.2.2.1 S2_x.2.1 S2_x.2.2.2 (own_cod hp) (own_up hp) (Sco.ext O_2_.2) hzc (Sfm.ext O_2_.2) rfm (by omega) (i := i) hi (j := (Int32.ofNat i)) rfl (by decide) (by decide)) (by decide) hown (hw _ (List.mem_of_getElem? (i := 63) rfl)) (hw _ (List.mem_of_getElem? (i := 64) rfl)) (notFace_of_selects (args := #[]) (mvT hZ (hw _ (List.mem_of_getElem? (i := 66) rfl)))) (hw _ (List.mem_of_getElem? (i := 66) rfl)) (hw _ (List.mem_of_getElem? (i := 65) rfl)) e9 S2_x.1 (by rw [hml]; rfl) (argsL := [(.int (Int32.ofNat i))]) (S := []) (Nat.le_of_ble_eq_true rfl) (by decide) (by decide) pd_oIcC rfl rfl (hb hby d8_67) ?_
      rintro _ T10 L10 X10 ⟨rfl, rfl, e10⟩
      have N10 := Fr.app N9 (Fr.nil n0)
      show Go p_ e_ below _ _ T10 (mkF m_ 70 #[.val (.ref a), .val (.ref x), .val (.int (Int32.ofNat i)), s3] [(.int ((cs).getD i 0))])
      refine Go.istoreNS X10 hx (hb hby d8_70) rfl o3 ?_
      refine Go.iloadN X10 hx (hb hby d8_71) rfl ?_
      refine Go.bipush X10 hx (32 : Int32) (hb hby d8_72) rfl ?_
      refine Go.icmpNo X10 hx (hb hby d8_74) (flt (own_getp hpr hi).1).1 ?_
      show Go p_ e_ below _ _ T10 (mkF m_ 77 #[.val (.ref a), .val (.ref x), .val (.int (Int32.ofNat i)), .val (.int ((cs).getD i 0))] [])
      refine Go.iloadN X10 hx (hb hby d8_77) rfl ?_
      refine Go.bipush X10 hx (126 : Int32) (hb hby d8_78) rfl ?_
      refine Go.icmpYes X10 hx (pc' := 114) (hb hby d8_80) (flt (own_getp hpr hi).2).2.2.2 (by decide) (by decide) ?_
      show Go p_ e_ below _ _ T10 (mkF m_ 114 #[.val (.ref a), .val (.ref x), .val (.int (Int32.ofNat i)), .val (.int ((cs).getD i 0))] [])
      refine Go.iinc X10 hx (l' := #[.val (.ref a), .val (.ref x), .val (.int ((Int32.ofNat i) + (1 : Int32))), .val (.int ((cs).getD i 0))]) (1 : Int32) (hb hby d8_114) rfl rfl rfl ?_
      refine Go.goto X10 hx (pc' := 57) (hb hby d8_117) (by decide) (by decide) ?_
      show Go p_ e_ below _ _ T10 (mkF m_ 57 #[.val (.ref a), .val (.ref x), .val (.int ((Int32.ofNat i) + (1 : Int32))), .val (.int ((cs).getD i 0))] [])
      rw [own_inc]
      exact ih (i + 1) _ _ (.val (.int ((cs).getD i 0))) (by omega) X10 N10 e10 (One.val rfl)
  exact loop cs.length 0 _ _ (.unset) (by omega) X5 N5 e5 One.u
def own_ke (cs ds : List Int32) : Int32 := if (if cs = ds then (1 : Int32) else (0 : Int32)) = (0 : Int32) then (0 : Int32) else (1 : Int32)
theorem own_ke_eq (cs ds : List Int32) : own_ke cs ds = if cs = ds then 1 else 0 := by
  unfold own_ke
  by_cases h : cs = ds
  · simp [h]
  · simp [h]
theorem pd_oLjava_lang_ObjectcZ : parseMethodDescriptor "(Ljava/lang/Object;)Z" = some ⟨[(.object "java/lang/Object")], some .boolean⟩ := by decide +kernel
theorem d23_0 : decode prog_16_method_4_code 0 = .ok (.aload_n 1, 1) := by decide +kernel
theorem d23_1 : decode prog_16_method_4_code 1 = .ok (.instanceof 32, 3) := by decide +kernel
theorem d23_4 : decode prog_16_method_4_code 4 = .ok (.ifCond .eq 26, 3) := by decide +kernel
theorem d23_7 : decode prog_16_method_4_code 7 = .ok (.aload_n 1, 1) := by decide +kernel
theorem d23_8 : decode prog_16_method_4_code 8 = .ok (.checkcast 32, 3) := by decide +kernel
theorem d23_11 : decode prog_16_method_4_code 11 = .ok (.astore_n 2, 1) := by decide +kernel
theorem d23_12 : decode prog_16_method_4_code 12 = .ok (.aload_n 0, 1) := by decide +kernel
theorem d23_13 : decode prog_16_method_4_code 13 = .ok (.getfield 54, 3) := by decide +kernel
theorem d23_16 : decode prog_16_method_4_code 16 = .ok (.aload_n 2, 1) := by decide +kernel
theorem d23_17 : decode prog_16_method_4_code 17 = .ok (.getfield 54, 3) := by decide +kernel
theorem d23_20 : decode prog_16_method_4_code 20 = .ok (.invokevirtual 68, 3) := by decide +kernel
theorem d23_23 : decode prog_16_method_4_code 23 = .ok (.ifCond .eq 7, 3) := by decide +kernel
theorem d23_26 : decode prog_16_method_4_code 26 = .ok (.iconst 1, 1) := by decide +kernel
theorem d23_27 : decode prog_16_method_4_code 27 = .ok (.goto 4, 3) := by decide +kernel
theorem d23_30 : decode prog_16_method_4_code 30 = .ok (.iconst 0, 1) := by decide +kernel
theorem d23_31 : decode prog_16_method_4_code 31 = .ok (.ireturn, 1) := by decide +kernel
theorem pn_23 : plainName "com/example/safe_retries/saferetries/identity/IdempotencyKey" = true := by first | (simp [plainName, overriddenIn]; done) | decide +kernel
theorem ef_rm23 (m_ : MethodId) (a : Addr) (b : Addr) : entryFrame m_ #[(.ref a), (.ref b)] 3 = mkF m_ 0 #[.val (.ref a), .val (.ref b), .unset] [] := by first | (simp [entryFrame, mkF, argsToLocals, Value.category]; done) | rfl
def Q23 (Z : State) (a : Addr) (b : Addr) (x : Addr) (t : Addr) (kb : ClassId) (cs : List Int32) (y : Addr) (u : Addr) (kd : ClassId) (ds : List Int32) (zc : Int32) (h0 : Heap) (n0 : Nat) (v : Option Value) (h : Heap) (L : List Loc) : Prop := v = some (.int (own_ke cs ds)) ∧ Fr n0 L ∧ h = h0
set_option maxRecDepth 65536 in
set_option maxHeartbeats 40000000 in
theorem rm23 (l : Launch) (Z : State) (a0 : Array Value) (hw : ∀ d ∈ tables_1, d.before a0 Z = true) (ws : List Jvm.Cond) (a : Addr) (b : Addr) (x : Addr) (t : Addr) (kb : ClassId) (cs : List Int32) (y : Addr) (u : Addr) (kd : ClassId) (ds : List Int32) (zc : Int32) (h0 : Heap) (n0 : Nat) (Z0 : n0 ≤ h0.size) (O : Old Z n0 h0) (Sco : Sta Z Z.heap "java/lang/String" "COMPACT_STRINGS" "Z" (.int zc)) (hzc : ¬ zc = 0) (E_b : Exa Z h0 b "com/example/safe_retries/saferetries/identity/IdempotencyKey") (F_x : Fld Z h0 a "com/example/safe_retries/saferetries/identity/IdempotencyKey" "value" "Ljava/lang/String;" (.ref x)) (F_y : Fld Z h0 b "com/example/safe_retries/saferetries/identity/IdempotencyKey" "value" "Ljava/lang/String;" (.ref y)) (S_x : StrAt Z h0 x t kb cs) (hp : ∀ c ∈ cs, ¬ c < 0 ∧ ¬ (255 : Int32) < c) (lx : cs.length ≤ 4000) (S_y : StrAt Z h0 y u kd ds) (hq : ∀ c ∈ ds, ¬ c < 0 ∧ ¬ (255 : Int32) < c) (ly : ds.length ≤ 4000) :
    MetFree l (⟨"com/example/safe_retries/saferetries/identity/IdempotencyKey", "equals", "(Ljava/lang/Object;)Z"⟩ : MethodName) (head1 (Jvm.Cond.code (⟨"com/example/safe_retries/saferetries/identity/IdempotencyKey", "equals", "(Ljava/lang/Object;)Z"⟩ : MethodName) prog_16_method_4_code 3 (some .boolean) :: ws) ({ frames := 2, cells := 0, slots := 0, locals := 28 } : Room)) (fun a_ U_ => a_ = #[(.ref a), (.ref b)] ∧ Z.Warmed39 U_.vm ∧ U_.heap = h0) (fun _ _ _ _ _ => True) (fun _ U_ o_ V_ => ∃ v_ L_, o_ = .returned v_ ∧ Q23 Z a b x t kb cs y u kd ds zc h0 n0 v_ V_.heap L_ ∧ FrameEnd U_ o_ V_ L_ ({ frames := 2, cells := 0, slots := 0, locals := 28 } : Room).cells ({ frames := 2, cells := 0, slots := 0, locals := 28 } : Room).slots) := by
  refine metOf (Q := Q23 Z a b x t kb cs y u kd ds zc h0 n0) (plainFor_of_name pn_23) ?_
  intro p_ e_ s_ m_ below meth c_ s₁ X0 hx hby hml hret hlk hZ hown hnm e0
  rw [ef_rm23]
  have N0 := Fr.nil n0
  show Go p_ e_ below _ _ s₁ (mkF m_ 0 #[.val (.ref a), .val (.ref b), .unset] [])
  refine Go.aloadN X0 hx (hb hby d23_0) rfl rfl ?_
  refine Go.instY X0 hx hZ hown (hw _ (List.mem_of_getElem? (i := 129) rfl)) e0 (Ins.self E_b) (hb hby d23_1) ?_
  intro T1 X1 e1
  show Go p_ e_ below _ _ T1 (mkF m_ 4 #[.val (.ref a), .val (.ref b), .unset] [(.int (1 : Int32))])
  refine Go.ifNo X1 hx (hb hby d23_4) ((if0 _ _).trans (feq (by decide)).1) ?_
  show Go p_ e_ below _ _ T1 (mkF m_ 7 #[.val (.ref a), .val (.ref b), .unset] [])
  refine Go.aloadN X1 hx (hb hby d23_7) rfl rfl ?_
  refine Go.castY X1 hx hZ hown (hw _ (List.mem_of_getElem? (i := 129) rfl)) e1 (Ins.self E_b) (hb hby d23_8) ?_
  intro T2 X2 e2
  show Go p_ e_ below _ _ T2 (mkF m_ 11 #[.val (.ref a), .val (.ref b), .unset] [(.ref b)])
  refine Go.astoreN X2 hx (l' := #[.val (.ref a), .val (.ref b), .val (.ref b)]) (hb hby d23_11) rfl rfl ?_
  refine Go.aloadN X2 hx (hb hby d23_12) rfl rfl ?_
  refine Go.getF X2 hx hZ hown (host := "") (Or.inl (hw _ (List.mem_of_getElem? (i := 85) rfl))) Via.refl e2 F_x (hb hby d23_13) ?_
  intro T3 X3 e3
  show Go p_ e_ below _ _ T3 (mkF m_ 16 #[.val (.ref a), .val (.ref b), .val (.ref b)] [(.ref x)])
  refine Go.aloadN X3 hx (hb hby d23_16) rfl rfl ?_
  refine Go.getF X3 hx hZ hown (host := "") (Or.inl (hw _ (List.mem_of_getElem? (i := 85) rfl))) Via.refl e3 F_y (hb hby d23_17) ?_
  intro T4 X4 e4
  show Go p_ e_ below _ _ T4 (mkF m_ 20 #[.val (.ref a), .val (.ref b), .val (.ref b)] [(.ref y), (.ref x)])
  refine Go.callVB X4 hx hZ (y0 := (⟨"java/lang/String", "equals", "(Ljava/lang/Object;)Z"⟩ : MethodName)) (K := "java/lang/String") (C1 := 0) (N1 := 0) (Qy := fun v_ h_ L_ => ((v_ = some (.int 1) ∧ cs = ds) ∨ (v_ = some (.int 0) ∧ ¬ cs = ds)) ∧ L_ = [] ∧ h_ = h0) (StrChars.Road.eqW (W := 0) hZ (own_hwordsEq hw) (kI := 4) (hw _ (List.mem_of_getElem? (i := 9) rfl)) S_x.1 S_x.2.2.1 S_x.2.1 S_x.2.2.2 (own_cod hp) (own_up hp) lx S_y.1 S_y.2.2.1 S_y.2.1 S_y.2.2.2 (own_cod hq) (own_up hq) ly (Sco.ext O.2) hzc (by decide) (by decide)) (by decide) hown (hw _ (List.mem_of_getElem? (i := 131) rfl)) (hw _ (List.mem_of_getElem? (i := 116) rfl)) (notFace_of_selects (args := #[]) (mvT hZ (hw _ (List.mem_of_getElem? (i := 118) rfl)))) (hw _ (List.mem_of_getElem? (i := 118) rfl)) (hw _ (List.mem_of_getElem? (i := 117) rfl)) e4 S_x.1 (by rw [hml]; rfl) (argsL := [(.ref y)]) (S := []) (Nat.le_of_ble_eq_true rfl) (by decide) (by decide) pd_oLjava_lang_ObjectcZ rfl rfl (hb hby d23_20) ?_
  rintro vv5 T5 L5 X5 ⟨hv5, rfl, e5⟩
  obtain rfl := own_eqv hv5
  have N5 := Fr.app N0 (Fr.nil n0)
  show Go p_ e_ below _ _ T5 (mkF m_ 23 #[.val (.ref a), .val (.ref b), .val (.ref b)] [(.int (if cs = ds then (1 : Int32) else (0 : Int32)))])
  by_cases hc23_6 : (if cs = ds then (1 : Int32) else (0 : Int32)) = (0 : Int32)
  · skip
    refine Go.ifYes X5 hx (pc' := 30) (hb hby d23_23) ((if0 _ _).trans (teq hc23_6).1) (by decide) (by decide) ?_
    show Go p_ e_ below _ _ T5 (mkF m_ 30 #[.val (.ref a), .val (.ref b), .val (.ref b)] [])
    refine Go.iconst X5 hx (0 : Int32) (hb hby d23_30) rfl ?_
    refine Go.retN X5 hx hret hlk (by simp) (hb hby d23_31) (by decide) (by decide) ?_
    exact ⟨by unfold own_ke; rw [if_pos hc23_6] <;> rfl, N5, e5⟩
  · skip
    refine Go.ifNo X5 hx (hb hby d23_23) ((if0 _ _).trans (feq hc23_6).1) ?_
    show Go p_ e_ below _ _ T5 (mkF m_ 26 #[.val (.ref a), .val (.ref b), .val (.ref b)] [])
    refine Go.iconst X5 hx (1 : Int32) (hb hby d23_26) rfl ?_
    refine Go.goto X5 hx (pc' := 31) (hb hby d23_27) (by decide) (by decide) ?_
    refine Go.retN X5 hx hret hlk (by simp) (hb hby d23_31) (by decide) (by decide) ?_
    exact ⟨by unfold own_ke; rw [if_neg hc23_6] <;> rfl, N5, e5⟩
theorem d18_0 : decode prog_20_method_1_code 0 = .ok (.aload_n 0, 1) := by decide +kernel
theorem d18_1 : decode prog_20_method_1_code 1 = .ok (.invokespecial 1, 3) := by decide +kernel
theorem d18_4 : decode prog_20_method_1_code 4 = .ok (.aload_n 1, 1) := by decide +kernel
theorem d18_5 : decode prog_20_method_1_code 5 = .ok (.ldc 7, 2) := by decide +kernel
theorem d18_7 : decode prog_20_method_1_code 7 = .ok (.invokestatic 9, 3) := by decide +kernel
theorem d18_10 : decode prog_20_method_1_code 10 = .ok (.pop, 1) := by decide +kernel
theorem d18_11 : decode prog_20_method_1_code 11 = .ok (.aload_n 2, 1) := by decide +kernel
theorem d18_12 : decode prog_20_method_1_code 12 = .ok (.ldc 15, 2) := by decide +kernel
theorem d18_14 : decode prog_20_method_1_code 14 = .ok (.invokestatic 9, 3) := by decide +kernel
theorem d18_17 : decode prog_20_method_1_code 17 = .ok (.pop, 1) := by decide +kernel
theorem d18_18 : decode prog_20_method_1_code 18 = .ok (.aload_n 3, 1) := by decide +kernel
theorem d18_19 : decode prog_20_method_1_code 19 = .ok (.ldc 17, 2) := by decide +kernel
theorem d18_21 : decode prog_20_method_1_code 21 = .ok (.invokestatic 9, 3) := by decide +kernel
theorem d18_24 : decode prog_20_method_1_code 24 = .ok (.pop, 1) := by decide +kernel
theorem d18_25 : decode prog_20_method_1_code 25 = .ok (.aload_n 1, 1) := by decide +kernel
theorem d18_26 : decode prog_20_method_1_code 26 = .ok (.invokevirtual 19, 3) := by decide +kernel
theorem d18_29 : decode prog_20_method_1_code 29 = .ok (.ifCond .eq 13, 3) := by decide +kernel
theorem d18_42 : decode prog_20_method_1_code 42 = .ok (.aload_n 2, 1) := by decide +kernel
theorem d18_43 : decode prog_20_method_1_code 43 = .ok (.invokevirtual 19, 3) := by decide +kernel
theorem d18_46 : decode prog_20_method_1_code 46 = .ok (.ifCond .eq 13, 3) := by decide +kernel
theorem d18_59 : decode prog_20_method_1_code 59 = .ok (.aload_n 0, 1) := by decide +kernel
theorem d18_60 : decode prog_20_method_1_code 60 = .ok (.aload_n 1, 1) := by decide +kernel
theorem d18_61 : decode prog_20_method_1_code 61 = .ok (.putfield 34, 3) := by decide +kernel
theorem d18_64 : decode prog_20_method_1_code 64 = .ok (.aload_n 0, 1) := by decide +kernel
theorem d18_65 : decode prog_20_method_1_code 65 = .ok (.aload_n 2, 1) := by decide +kernel
theorem d18_66 : decode prog_20_method_1_code 66 = .ok (.putfield 39, 3) := by decide +kernel
theorem d18_69 : decode prog_20_method_1_code 69 = .ok (.aload_n 0, 1) := by decide +kernel
theorem d18_70 : decode prog_20_method_1_code 70 = .ok (.aload_n 3, 1) := by decide +kernel
theorem d18_71 : decode prog_20_method_1_code 71 = .ok (.putfield 41, 3) := by decide +kernel
theorem d18_74 : decode prog_20_method_1_code 74 = .ok (.return_, 1) := by decide +kernel
theorem pn_18 : plainName "com/example/safe_retries/saferetries/identity/RequestIdentity" = true := by first | (simp [plainName, overriddenIn]; done) | decide +kernel
theorem ef_rm18 (m_ : MethodId) (a : Addr) (x : Addr) (y : Addr) (b : Addr) : entryFrame m_ #[(.ref a), (.ref x), (.ref y), (.ref b)] 4 = mkF m_ 0 #[.val (.ref a), .val (.ref x), .val (.ref y), .val (.ref b)] [] := by first | (simp [entryFrame, mkF, argsToLocals, Value.category]; done) | rfl
def Q18 (Z : State) (a : Addr) (x : Addr) (y : Addr) (b : Addr) (t : Addr) (kb : ClassId) (cs : List Int32) (u : Addr) (kd : ClassId) (ds : List Int32) (zc : Int32) (h0 : Heap) (n0 : Nat) (v : Option Value) (h : Heap) (L : List Loc) : Prop := v = none ∧ Fr n0 L ∧ Keep h0 h [a] ∧ Exa Z h a "com/example/safe_retries/saferetries/identity/RequestIdentity" ∧ Fld Z h a "com/example/safe_retries/saferetries/identity/RequestIdentity" "scope" "Ljava/lang/String;" (.ref x) ∧ Fld Z h a "com/example/safe_retries/saferetries/identity/RequestIdentity" "operation" "Ljava/lang/String;" (.ref y) ∧ Fld Z h a "com/example/safe_retries/saferetries/identity/RequestIdentity" "key" "Lcom/example/safe_retries/saferetries/identity/IdempotencyKey;" (.ref b)
set_option maxRecDepth 65536 in
set_option maxHeartbeats 40000000 in
theorem rm18 (l : Launch) (Z : State) (a0 : Array Value) (hw : ∀ d ∈ tables_1, d.before a0 Z = true) (ws : List Jvm.Cond) (a : Addr) (x : Addr) (y : Addr) (b : Addr) (t : Addr) (kb : ClassId) (cs : List Int32) (u : Addr) (kd : ClassId) (ds : List Int32) (zc : Int32) (h0 : Heap) (n0 : Nat) (Z0 : n0 ≤ h0.size) (O : Old Z n0 h0) (Sco : Sta Z Z.heap "java/lang/String" "COMPACT_STRINGS" "Z" (.int zc)) (hzc : ¬ zc = 0) (E_a : Exa Z h0 a "com/example/safe_retries/saferetries/identity/RequestIdentity") (F_scope : Fld Z h0 a "com/example/safe_retries/saferetries/identity/RequestIdentity" "scope" "Ljava/lang/String;" .null) (F_operation : Fld Z h0 a "com/example/safe_retries/saferetries/identity/RequestIdentity" "operation" "Ljava/lang/String;" .null) (F_key : Fld Z h0 a "com/example/safe_retries/saferetries/identity/RequestIdentity" "key" "Lcom/example/safe_retries/saferetries/identity/IdempotencyKey;" .null) (g_a : n0 ≤ a) (S_x : StrAt Z h0 x t kb cs) (hp : ∀ c ∈ cs, ¬ c < 0 ∧ ¬ (255 : Int32) < c) (lx : 0 < cs.length ∧ cs.length ≤ 255) (S_y : StrAt Z h0 y u kd ds) (hq : ∀ c ∈ ds, ¬ c < 0 ∧ ¬ (255 : Int32) < c) (ly : 0 < ds.length ∧ ds.length ≤ 255) (nex : x ≠ a) (net : t ≠ a) (ney : y ≠ a) (neu : u ≠ a) :
    MetFree l (⟨"com/example/safe_retries/saferetries/identity/RequestIdentity", "<init>", "(Ljava/lang/String;Ljava/lang/String;Lcom/example/safe_retries/saferetries/identity/IdempotencyKey;)V"⟩ : MethodName) (head1 (Jvm.Cond.code (⟨"com/example/safe_retries/saferetries/identity/RequestIdentity", "<init>", "(Ljava/lang/String;Ljava/lang/String;Lcom/example/safe_retries/saferetries/identity/IdempotencyKey;)V"⟩ : MethodName) prog_20_method_1_code 4 none :: ws) ({ frames := 1, cells := 6, slots := 80, locals := 13 } : Room)) (fun a_ U_ => a_ = #[(.ref a), (.ref x), (.ref y), (.ref b)] ∧ Z.Warmed39 U_.vm ∧ U_.heap = h0) (fun _ _ _ _ _ => True) (fun _ U_ o_ V_ => ∃ v_ L_, o_ = .returned v_ ∧ Q18 Z a x y b t kb cs u kd ds zc h0 n0 v_ V_.heap L_ ∧ ReturnedEndW U_ o_ V_ L_ ({ frames := 1, cells := 6, slots := 80, locals := 13 } : Room).cells ({ frames := 1, cells := 6, slots := 80, locals := 13 } : Room).slots) := by
  refine metOfW (Q := Q18 Z a x y b t kb cs u kd ds zc h0 n0) (plainFor_of_name pn_18) ?_
  intro p_ e_ s_ m_ below meth c_ s₁ X0 hx hby hml hret hlk hZ hown hnm e0 hS
  have hk : 0 ≤ h0.size := Nat.zero_le _
  rw [ef_rm18]
  have N0 := Fr.nil n0
  have hwS := own_hwS hw
  show Go p_ e_ below _ _ s₁ (mkF m_ 0 #[.val (.ref a), .val (.ref x), .val (.ref y), .val (.ref b)] [])
  refine Go.aloadN X0 hx (hb hby d18_0) rfl rfl ?_
  refine Go.initO X0 hx hZ hown (hw _ (List.mem_of_getElem? (i := 93) rfl)) (hw _ (List.mem_of_getElem? (i := 19) rfl)) (hw _ (List.mem_of_getElem? (i := 20) rfl)) e0 (by rw [hml]; rfl) (hb hby d18_1) (by decide) (W := 0) (Nat.le_of_ble_eq_true rfl) (by decide) ?_
  intro T1 X1 e1
  show Go p_ e_ below _ _ T1 (mkF m_ 4 #[.val (.ref a), .val (.ref x), .val (.ref y), .val (.ref b)] [])
  refine Go.aloadN X1 hx (hb hby d18_4) rfl rfl ?_
  refine Go.ldcS X1 hx hZ hown (hw _ (List.mem_of_getElem? (i := 94) rfl)) hwS hS e1 hk (hb hby d18_5) (n := 20) (by decide) (by decide) (by decide) (by decide) ?_
  intro lit2 T2 h2 k2 X2 e2 E2 hS2 hk2 hZ hown
  have Z2 : n0 ≤ h2.size := Nat.le_trans Z0 E2.1
  have K2 : Keep h0 h2 [a] := (Keep.refl h0 [a]).ext E2
  have O_2_ := O.ext E2
  have E_2_a := E_a.ext E2
  have F_2_a_scope := F_scope.ext E2
  have F_2_a_operation := F_operation.ext E2
  have F_2_a_key := F_key.ext E2
  have S2_x := S_x.ext E2
  have S2_y := S_y.ext E2
  show Go p_ e_ below _ _ T2 (mkF m_ 7 #[.val (.ref a), .val (.ref x), .val (.ref y), .val (.ref b)] [(.ref lit2), (.ref x)])
  refine Go.callS X2 hx hZ (rm9 l Z a0 hw [] x lit2 h2 n0 Z2) hown (hw _ (List.mem_of_getElem? (i := 95) rfl)) (hw _ (List.mem_of_getElem? (i := 45) rfl)) (hw _ (List.mem_of_getElem? (i := 46) rfl)) (hw _ (List.mem_of_getElem? (i := 47) rfl)) (by decide) e2 (W := 0) (by rw [hml]; rfl) (argsL := [(.ref x), (.ref lit2)]) (S := []) (Nat.le_of_ble_eq_true rfl) (by decide) (by decide) (by decide) (by decide) pd_oLjava_lang_ObjectLjava_lang_StringcLjava_lang_Object rfl rfl (hb hby d18_7) ?_
  rintro _ T3 L3 X3 ⟨rfl, N3q, e3⟩
  have N3 := Fr.app N0 N3q
  show Go p_ e_ below _ _ T3 (mkF m_ 10 #[.val (.ref a), .val (.ref x), .val (.ref y), .val (.ref b)] [(.ref x)])
  refine Go.pop X3 hx (hb hby d18_10) rfl ?_
  refine Go.aloadN X3 hx (hb hby d18_11) rfl rfl ?_
  refine Go.ldcS X3 hx hZ hown (hw _ (List.mem_of_getElem? (i := 96) rfl)) hwS hS2 e3 hk2 (hb hby d18_12) (n := 36) (by decide) (by decide) (by decide) (by decide) ?_
  intro lit4 T4 h4 k4 X4 e4 E4 hS4 hk4 hZ hown
  have Z4 : n0 ≤ h4.size := Nat.le_trans Z2 E4.1
  have K4 : Keep h0 h4 [a] := K2.ext E4
  have O_4_ := O_2_.ext E4
  have E_4_a := E_2_a.ext E4
  have F_4_a_scope := F_2_a_scope.ext E4
  have F_4_a_operation := F_2_a_operation.ext E4
  have F_4_a_key := F_2_a_key.ext E4
  have S4_x := S2_x.ext E4
  have S4_y := S2_y.ext E4
  show Go p_ e_ below _ _ T4 (mkF m_ 14 #[.val (.ref a), .val (.ref x), .val (.ref y), .val (.ref b)] [(.ref lit4), (.ref y)])
  refine Go.callS X4 hx hZ (rm9 l Z a0 hw [] y lit4 h4 n0 Z4) hown (hw _ (List.mem_of_getElem? (i := 95) rfl)) (hw _ (List.mem_of_getElem? (i := 45) rfl)) (hw _ (List.mem_of_getElem? (i := 46) rfl)) (hw _ (List.mem_of_getElem? (i := 47) rfl)) (by decide) e4 (W := 0) (by rw [hml]; rfl) (argsL := [(.ref y), (.ref lit4)]) (S := []) (Nat.le_of_ble_eq_true rfl) (by decide) (by decide) (by decide) (by decide) pd_oLjava_lang_ObjectLjava_lang_StringcLjava_lang_Object rfl rfl (hb hby d18_14) ?_
  rintro _ T5 L5 X5 ⟨rfl, N5q, e5⟩
  have N5 := Fr.app N3 N5q
  show Go p_ e_ below _ _ T5 (mkF m_ 17 #[.val (.ref a), .val (.ref x), .val (.ref y), .val (.ref b)] [(.ref y)])
  refine Go.pop X5 hx (hb hby d18_17) rfl ?_
  refine Go.aloadN X5 hx (hb hby d18_18) rfl rfl ?_
  refine Go.ldcS X5 hx hZ hown (hw _ (List.mem_of_getElem? (i := 97) rfl)) hwS hS4 e5 hk4 (hb hby d18_19) (n := 12) (by decide) (by decide) (by decide) (by decide) ?_
  intro lit6 T6 h6 k6 X6 e6 E6 hS6 hk6 hZ hown
  have Z6 : n0 ≤ h6.size := Nat.le_trans Z4 E6.1
  have K6 : Keep h0 h6 [a] := K4.ext E6
  have O_6_ := O_4_.ext E6
  have E_6_a := E_4_a.ext E6
  have F_6_a_scope := F_4_a_scope.ext E6
  have F_6_a_operation := F_4_a_operation.ext E6
  have F_6_a_key := F_4_a_key.ext E6
  have S6_x := S4_x.ext E6
  have S6_y := S4_y.ext E6
  show Go p_ e_ below _ _ T6 (mkF m_ 21 #[.val (.ref a), .val (.ref x), .val (.ref y), .val (.ref b)] [(.ref lit6), (.ref b)])
  refine Go.callS X6 hx hZ (rm9 l Z a0 hw [] b lit6 h6 n0 Z6) hown (hw _ (List.mem_of_getElem? (i := 95) rfl)) (hw _ (List.mem_of_getElem? (i := 45) rfl)) (hw _ (List.mem_of_getElem? (i := 46) rfl)) (hw _ (List.mem_of_getElem? (i := 47) rfl)) (by decide) e6 (W := 0) (by rw [hml]; rfl) (argsL := [(.ref b), (.ref lit6)]) (S := []) (Nat.le_of_ble_eq_true rfl) (by decide) (by decide) (by decide) (by decide) pd_oLjava_lang_ObjectLjava_lang_StringcLjava_lang_Object rfl rfl (hb hby d18_21) ?_
  rintro _ T7 L7 X7 ⟨rfl, N7q, e7⟩
  have N7 := Fr.app N5 N7q
  show Go p_ e_ below _ _ T7 (mkF m_ 24 #[.val (.ref a), .val (.ref x), .val (.ref y), .val (.ref b)] [(.ref b)])
  refine Go.pop X7 hx (hb hby d18_24) rfl ?_
  refine Go.aloadN X7 hx (hb hby d18_25) rfl rfl ?_
  refine Go.callVB X7 hx hZ (y0 := (⟨"java/lang/String", "isEmpty", "()Z"⟩ : MethodName)) (K := "java/lang/String") (C1 := 0) (N1 := 0) (Qy := fun v_ h_ L_ => (v_ = some (.int (if (cs).length = 0 then (1 : Int32) else (0 : Int32)))) ∧ L_ = [] ∧ h_ = h6) (StrChars.Road.empW (W := 0) hZ (own_hwordsEmp hw) (kI := 4) (hw _ (List.mem_of_getElem? (i := 9) rfl)) S6_x.1 S6_x.2.2.1 S6_x.2.1 S6_x.2.2.2 (own_cod hp) (own_up hp) (by omega) (by decide) (by decide)) (by decide) hown (hw _ (List.mem_of_getElem? (i := 98) rfl)) (hw _ (List.mem_of_getElem? (i := 49) rfl)) (notFace_of_selects (args := #[]) (mvT hZ (hw _ (List.mem_of_getElem? (i := 51) rfl)))) (hw _ (List.mem_of_getElem? (i := 51) rfl)) (hw _ (List.mem_of_getElem? (i := 50) rfl)) e7 S6_x.1 (by rw [hml]; rfl) (argsL := []) (S := []) (Nat.le_of_ble_eq_true rfl) (by decide) (by decide) pd_ocZ rfl rfl (hb hby d18_26) ?_
  rintro _ T8 L8 X8 ⟨rfl, rfl, e8⟩
  have N8 := Fr.app N7 (Fr.nil n0)
  show Go p_ e_ below _ _ T8 (mkF m_ 29 #[.val (.ref a), .val (.ref x), .val (.ref y), .val (.ref b)] [(.int (if (cs).length = 0 then (1 : Int32) else (0 : Int32)))])
  refine Go.ifYes X8 hx (pc' := 42) (hb hby d18_29) ((if0 _ _).trans (teq (by rw [if_neg (by omega)])).1) (by decide) (by decide) ?_
  show Go p_ e_ below _ _ T8 (mkF m_ 42 #[.val (.ref a), .val (.ref x), .val (.ref y), .val (.ref b)] [])
  refine Go.aloadN X8 hx (hb hby d18_42) rfl rfl ?_
  refine Go.callVB X8 hx hZ (y0 := (⟨"java/lang/String", "isEmpty", "()Z"⟩ : MethodName)) (K := "java/lang/String") (C1 := 0) (N1 := 0) (Qy := fun v_ h_ L_ => (v_ = some (.int (if (ds).length = 0 then (1 : Int32) else (0 : Int32)))) ∧ L_ = [] ∧ h_ = h6) (StrChars.Road.empW (W := 0) hZ (own_hwordsEmp hw) (kI := 4) (hw _ (List.mem_of_getElem? (i := 9) rfl)) S6_y.1 S6_y.2.2.1 S6_y.2.1 S6_y.2.2.2 (own_cod hq) (own_up hq) (by omega) (by decide) (by decide)) (by decide) hown (hw _ (List.mem_of_getElem? (i := 98) rfl)) (hw _ (List.mem_of_getElem? (i := 49) rfl)) (notFace_of_selects (args := #[]) (mvT hZ (hw _ (List.mem_of_getElem? (i := 51) rfl)))) (hw _ (List.mem_of_getElem? (i := 51) rfl)) (hw _ (List.mem_of_getElem? (i := 50) rfl)) e8 S6_y.1 (by rw [hml]; rfl) (argsL := []) (S := []) (Nat.le_of_ble_eq_true rfl) (by decide) (by decide) pd_ocZ rfl rfl (hb hby d18_43) ?_
  rintro _ T9 L9 X9 ⟨rfl, rfl, e9⟩
  have N9 := Fr.app N8 (Fr.nil n0)
  show Go p_ e_ below _ _ T9 (mkF m_ 46 #[.val (.ref a), .val (.ref x), .val (.ref y), .val (.ref b)] [(.int (if (ds).length = 0 then (1 : Int32) else (0 : Int32)))])
  refine Go.ifYes X9 hx (pc' := 59) (hb hby d18_46) ((if0 _ _).trans (teq (by rw [if_neg (by omega)])).1) (by decide) (by decide) ?_
  show Go p_ e_ below _ _ T9 (mkF m_ 59 #[.val (.ref a), .val (.ref x), .val (.ref y), .val (.ref b)] [])
  refine Go.aloadN X9 hx (hb hby d18_59) rfl rfl ?_
  refine Go.aloadN X9 hx (hb hby d18_60) rfl rfl ?_
  refine Go.putF X9 hx hZ hown (host := "") (Or.inl (hw _ (List.mem_of_getElem? (i := 99) rfl))) Via.refl e9 F_6_a_scope E_6_a (Or.inr ⟨(hw _ (List.mem_of_getElem? (i := 100) rfl)), rfl, hnm⟩) (hw _ (List.mem_of_getElem? (i := 88) rfl)) (ty := (.object "java/lang/String")) (by decide) rfl rfl (hb hby d18_61) ?_
  intro T10 h10 X10 e10 W10
  have N10 := Fr.snoc X10 N9 g_a
  have O_10_ := O_6_.wr W10 g_a
  have E_10_a := E_6_a.wr W10
  have F_10_a_scope := F_6_a_scope.same W10
  have F_10_a_operation := F_6_a_operation.other W10 (Or.inr (slot_ne (Or.inr (hw _ (List.mem_of_getElem? (i := 102) rfl))) (Or.inr (hw _ (List.mem_of_getElem? (i := 100) rfl))) (by decide) (t := (.object "java/lang/String")) (t' := (.object "java/lang/String")) (by decide) (by decide)))
  have F_10_a_key := F_6_a_key.other W10 (Or.inr (slot_ne (Or.inr (hw _ (List.mem_of_getElem? (i := 104) rfl))) (Or.inr (hw _ (List.mem_of_getElem? (i := 100) rfl))) (by decide) (t := (.object "com/example/safe_retries/saferetries/identity/IdempotencyKey")) (t' := (.object "java/lang/String")) (by decide) (by decide)))
  have S10_x := S6_x.wr W10 nex net
  have S10_y := S6_y.wr W10 ney neu
  have K10 : Keep h0 h10 [a] := K6.wr W10 (Or.inl (List.mem_of_getElem? (i := 0) rfl))
  have Z10 : n0 ≤ h10.size := (by rw [W10.size]; exact Z6)
  have hk10 : _ ≤ h10.size := (by rw [W10.size]; exact hk6)
  show Go p_ e_ below _ _ T10 (mkF m_ 64 #[.val (.ref a), .val (.ref x), .val (.ref y), .val (.ref b)] [])
  refine Go.aloadN X10 hx (hb hby d18_64) rfl rfl ?_
  refine Go.aloadN X10 hx (hb hby d18_65) rfl rfl ?_
  refine Go.putF X10 hx hZ hown (host := "") (Or.inl (hw _ (List.mem_of_getElem? (i := 101) rfl))) Via.refl e10 F_10_a_operation E_10_a (Or.inr ⟨(hw _ (List.mem_of_getElem? (i := 102) rfl)), rfl, hnm⟩) (hw _ (List.mem_of_getElem? (i := 88) rfl)) (ty := (.object "java/lang/String")) (by decide) rfl rfl (hb hby d18_66) ?_
  intro T11 h11 X11 e11 W11
  have N11 := Fr.snoc X11 N10 g_a
  have O_11_ := O_10_.wr W11 g_a
  have E_11_a := E_10_a.wr W11
  have F_11_a_scope := F_10_a_scope.other W11 (Or.inr (slot_ne (Or.inr (hw _ (List.mem_of_getElem? (i := 100) rfl))) (Or.inr (hw _ (List.mem_of_getElem? (i := 102) rfl))) (by decide) (t := (.object "java/lang/String")) (t' := (.object "java/lang/String")) (by decide) (by decide)))
  have F_11_a_operation := F_10_a_operation.same W11
  have F_11_a_key := F_10_a_key.other W11 (Or.inr (slot_ne (Or.inr (hw _ (List.mem_of_getElem? (i := 104) rfl))) (Or.inr (hw _ (List.mem_of_getElem? (i := 102) rfl))) (by decide) (t := (.object "com/example/safe_retries/saferetries/identity/IdempotencyKey")) (t' := (.object "java/lang/String")) (by decide) (by decide)))
  have S11_x := S10_x.wr W11 nex net
  have S11_y := S10_y.wr W11 ney neu
  have K11 : Keep h0 h11 [a] := K10.wr W11 (Or.inl (List.mem_of_getElem? (i := 0) rfl))
  have Z11 : n0 ≤ h11.size := (by rw [W11.size]; exact Z10)
  have hk11 : _ ≤ h11.size := (by rw [W11.size]; exact hk10)
  show Go p_ e_ below _ _ T11 (mkF m_ 69 #[.val (.ref a), .val (.ref x), .val (.ref y), .val (.ref b)] [])
  refine Go.aloadN X11 hx (hb hby d18_69) rfl rfl ?_
  refine Go.aloadN X11 hx (hb hby d18_70) rfl rfl ?_
  refine Go.putF X11 hx hZ hown (host := "") (Or.inl (hw _ (List.mem_of_getElem? (i := 103) rfl))) Via.refl e11 F_11_a_key E_11_a (Or.inr ⟨(hw _ (List.mem_of_getElem? (i := 104) rfl)), rfl, hnm⟩) (hw _ (List.mem_of_getElem? (i := 88) rfl)) (ty := (.object "com/example/safe_retries/saferetries/identity/IdempotencyKey")) (by decide) rfl rfl (hb hby d18_71) ?_
  intro T12 h12 X12 e12 W12
  have N12 := Fr.snoc X12 N11 g_a
  have O_12_ := O_11_.wr W12 g_a
  have E_12_a := E_11_a.wr W12
  have F_12_a_scope := F_11_a_scope.other W12 (Or.inr (slot_ne (Or.inr (hw _ (List.mem_of_getElem? (i := 100) rfl))) (Or.inr (hw _ (List.mem_of_getElem? (i := 104) rfl))) (by decide) (t := (.object "java/lang/String")) (t' := (.object "com/example/safe_retries/saferetries/identity/IdempotencyKey")) (by decide) (by decide)))
  have F_12_a_operation := F_11_a_operation.other W12 (Or.inr (slot_ne (Or.inr (hw _ (List.mem_of_getElem? (i := 102) rfl))) (Or.inr (hw _ (List.mem_of_getElem? (i := 104) rfl))) (by decide) (t := (.object "java/lang/String")) (t' := (.object "com/example/safe_retries/saferetries/identity/IdempotencyKey")) (by decide) (by decide)))
  have F_12_a_key := F_11_a_key.same W12
  have S12_x := S11_x.wr W12 nex net
  have S12_y := S11_y.wr W12 ney neu
  have K12 : Keep h0 h12 [a] := K11.wr W12 (Or.inl (List.mem_of_getElem? (i := 0) rfl))
  have Z12 : n0 ≤ h12.size := (by rw [W12.size]; exact Z11)
  have hk12 : _ ≤ h12.size := (by rw [W12.size]; exact hk11)
  show Go p_ e_ below _ _ T12 (mkF m_ 74 #[.val (.ref a), .val (.ref x), .val (.ref y), .val (.ref b)] [])
  refine Go.retVW X12 hx hS6 e12 hk12 hret hlk (hb hby d18_74) (by decide) (by decide) ?_
  rw [e12]
  exact ⟨rfl, N12, K12, E_12_a, F_12_a_scope, F_12_a_operation, F_12_a_key⟩
def own_sm (a0 : Int32) (a1 : Int32) (la : Int32) (b0 : Int32) (b1 : Int32) (lb : Int32)  : Int32 := (if la = lb then (if a0 = b0 then (if la = (1 : Int32) then (1 : Int32) else (if a1 = b1 then (1 : Int32) else (0 : Int32))) else (0 : Int32)) else (0 : Int32))
theorem d19_0 : decode method_3_code 0 = .ok (.iload_n 2, 1) := by decide +kernel
theorem d19_1 : decode method_3_code 1 = .ok (.iload 5, 2) := by decide +kernel
theorem d19_3 : decode method_3_code 3 = .ok (.if_icmp .eq 5, 3) := by decide +kernel
theorem d19_6 : decode method_3_code 6 = .ok (.iconst 0, 1) := by decide +kernel
theorem d19_7 : decode method_3_code 7 = .ok (.ireturn, 1) := by decide +kernel
theorem d19_8 : decode method_3_code 8 = .ok (.iload_n 0, 1) := by decide +kernel
theorem d19_9 : decode method_3_code 9 = .ok (.iload_n 3, 1) := by decide +kernel
theorem d19_10 : decode method_3_code 10 = .ok (.if_icmp .eq 5, 3) := by decide +kernel
theorem d19_13 : decode method_3_code 13 = .ok (.iconst 0, 1) := by decide +kernel
theorem d19_14 : decode method_3_code 14 = .ok (.ireturn, 1) := by decide +kernel
theorem d19_15 : decode method_3_code 15 = .ok (.iload_n 2, 1) := by decide +kernel
theorem d19_16 : decode method_3_code 16 = .ok (.iconst 1, 1) := by decide +kernel
theorem d19_17 : decode method_3_code 17 = .ok (.if_icmp .ne 5, 3) := by decide +kernel
theorem d19_20 : decode method_3_code 20 = .ok (.iconst 1, 1) := by decide +kernel
theorem d19_21 : decode method_3_code 21 = .ok (.ireturn, 1) := by decide +kernel
theorem d19_22 : decode method_3_code 22 = .ok (.iload_n 1, 1) := by decide +kernel
theorem d19_23 : decode method_3_code 23 = .ok (.iload 4, 2) := by decide +kernel
theorem d19_25 : decode method_3_code 25 = .ok (.if_icmp .ne 7, 3) := by decide +kernel
theorem d19_28 : decode method_3_code 28 = .ok (.iconst 1, 1) := by decide +kernel
theorem d19_29 : decode method_3_code 29 = .ok (.goto 4, 3) := by decide +kernel
theorem d19_32 : decode method_3_code 32 = .ok (.iconst 0, 1) := by decide +kernel
theorem d19_33 : decode method_3_code 33 = .ok (.ireturn, 1) := by decide +kernel
theorem pn_19 : plainName "com/example/safe_retries/saferetries/identity/RequestIdentityEqualsPinLaw" = true := by first | (simp [plainName, overriddenIn]; done) | decide +kernel
theorem ef_rm19 (m_ : MethodId) (a0 : Int32) (a1 : Int32) (la : Int32) (b0 : Int32) (b1 : Int32) (lb : Int32) : entryFrame m_ #[(.int a0), (.int a1), (.int la), (.int b0), (.int b1), (.int lb)] 6 = mkF m_ 0 #[.val (.int a0), .val (.int a1), .val (.int la), .val (.int b0), .val (.int b1), .val (.int lb)] [] := by first | (simp [entryFrame, mkF, argsToLocals, Value.category]; done) | rfl
def Q19 (Z : State) (a0 : Int32) (a1 : Int32) (la : Int32) (b0 : Int32) (b1 : Int32) (lb : Int32)  (h0 : Heap) (n0 : Nat) (v : Option Value) (h : Heap) (L : List Loc) : Prop := v = some (.int (own_sm a0 a1 la b0 b1 lb)) ∧ Fr n0 L ∧ h = h0
set_option maxRecDepth 65536 in
set_option maxHeartbeats 40000000 in
theorem rm19 (l : Launch) (Z : State) (a0 : Array Value) (hw : ∀ d ∈ tables_1, d.before a0 Z = true) (ws : List Jvm.Cond) (a0 : Int32) (a1 : Int32) (la : Int32) (b0 : Int32) (b1 : Int32) (lb : Int32)  (h0 : Heap) (n0 : Nat) (Z0 : n0 ≤ h0.size)  :
    MetFree l (⟨"com/example/safe_retries/saferetries/identity/RequestIdentityEqualsPinLaw", "same", "(CCICCI)Z"⟩ : MethodName) (head1 (Jvm.Cond.code (⟨"com/example/safe_retries/saferetries/identity/RequestIdentityEqualsPinLaw", "same", "(CCICCI)Z"⟩ : MethodName) method_3_code 6 (some .boolean) :: ws) ({ frames := 0, cells := 0, slots := 0, locals := 0 } : Room)) (fun a_ U_ => a_ = #[(.int a0), (.int a1), (.int la), (.int b0), (.int b1), (.int lb)] ∧ Z.Warmed39 U_.vm ∧ U_.heap = h0) (fun _ _ _ _ _ => True) (fun _ U_ o_ V_ => ∃ v_ L_, o_ = .returned v_ ∧ Q19 Z a0 a1 la b0 b1 lb h0 n0 v_ V_.heap L_ ∧ FrameEnd U_ o_ V_ L_ ({ frames := 0, cells := 0, slots := 0, locals := 0 } : Room).cells ({ frames := 0, cells := 0, slots := 0, locals := 0 } : Room).slots) := by
  refine metOf (Q := Q19 Z a0 a1 la b0 b1 lb h0 n0) (plainFor_of_name pn_19) ?_
  intro p_ e_ s_ m_ below meth c_ s₁ X0 hx hby hml hret hlk hZ hown hnm e0
  rw [ef_rm19]
  have N0 := Fr.nil n0
  show Go p_ e_ below _ _ s₁ (mkF m_ 0 #[.val (.int a0), .val (.int a1), .val (.int la), .val (.int b0), .val (.int b1), .val (.int lb)] [])
  refine Go.iloadN X0 hx (hb hby d19_0) rfl ?_
  refine Go.iload X0 hx (hb hby d19_1) rfl ?_
  by_cases hc3_1 : la = lb
  · skip
    refine Go.icmpYes X0 hx (pc' := 8) (hb hby d19_3) (teq hc3_1).1 (by decide) (by decide) ?_
    show Go p_ e_ below _ _ s₁ (mkF m_ 8 #[.val (.int a0), .val (.int a1), .val (.int la), .val (.int b0), .val (.int b1), .val (.int lb)] [])
    refine Go.iloadN X0 hx (hb hby d19_8) rfl ?_
    refine Go.iloadN X0 hx (hb hby d19_9) rfl ?_
    by_cases hc10_2 : a0 = b0
    · skip
      refine Go.icmpYes X0 hx (pc' := 15) (hb hby d19_10) (teq hc10_2).1 (by decide) (by decide) ?_
      show Go p_ e_ below _ _ s₁ (mkF m_ 15 #[.val (.int a0), .val (.int a1), .val (.int la), .val (.int b0), .val (.int b1), .val (.int lb)] [])
      refine Go.iloadN X0 hx (hb hby d19_15) rfl ?_
      refine Go.iconst X0 hx (1 : Int32) (hb hby d19_16) rfl ?_
      by_cases hc17_3 : la = (1 : Int32)
      · skip
        refine Go.icmpNo X0 hx (hb hby d19_17) (teq hc17_3).2 ?_
        show Go p_ e_ below _ _ s₁ (mkF m_ 20 #[.val (.int a0), .val (.int a1), .val (.int la), .val (.int b0), .val (.int b1), .val (.int lb)] [])
        refine Go.iconst X0 hx (1 : Int32) (hb hby d19_20) rfl ?_
        refine Go.retN X0 hx hret hlk (by simp) (hb hby d19_21) (by decide) (by decide) ?_
        exact ⟨by unfold own_sm; rw [if_pos hc3_1, if_pos hc10_2, if_pos hc17_3] <;> rfl, N0, e0⟩
      · skip
        refine Go.icmpYes X0 hx (pc' := 22) (hb hby d19_17) (feq hc17_3).2 (by decide) (by decide) ?_
        show Go p_ e_ below _ _ s₁ (mkF m_ 22 #[.val (.int a0), .val (.int a1), .val (.int la), .val (.int b0), .val (.int b1), .val (.int lb)] [])
        refine Go.iloadN X0 hx (hb hby d19_22) rfl ?_
        refine Go.iload X0 hx (hb hby d19_23) rfl ?_
        by_cases hc25_4 : a1 = b1
        · skip
          refine Go.icmpNo X0 hx (hb hby d19_25) (teq hc25_4).2 ?_
          show Go p_ e_ below _ _ s₁ (mkF m_ 28 #[.val (.int a0), .val (.int a1), .val (.int la), .val (.int b0), .val (.int b1), .val (.int lb)] [])
          refine Go.iconst X0 hx (1 : Int32) (hb hby d19_28) rfl ?_
          refine Go.goto X0 hx (pc' := 33) (hb hby d19_29) (by decide) (by decide) ?_
          refine Go.retN X0 hx hret hlk (by simp) (hb hby d19_33) (by decide) (by decide) ?_
          exact ⟨by unfold own_sm; rw [if_pos hc3_1, if_pos hc10_2, if_neg hc17_3, if_pos hc25_4] <;> rfl, N0, e0⟩
        · skip
          refine Go.icmpYes X0 hx (pc' := 32) (hb hby d19_25) (feq hc25_4).2 (by decide) (by decide) ?_
          show Go p_ e_ below _ _ s₁ (mkF m_ 32 #[.val (.int a0), .val (.int a1), .val (.int la), .val (.int b0), .val (.int b1), .val (.int lb)] [])
          refine Go.iconst X0 hx (0 : Int32) (hb hby d19_32) rfl ?_
          refine Go.retN X0 hx hret hlk (by simp) (hb hby d19_33) (by decide) (by decide) ?_
          exact ⟨by unfold own_sm; rw [if_pos hc3_1, if_pos hc10_2, if_neg hc17_3, if_neg hc25_4] <;> rfl, N0, e0⟩
    · skip
      refine Go.icmpNo X0 hx (hb hby d19_10) (feq hc10_2).1 ?_
      show Go p_ e_ below _ _ s₁ (mkF m_ 13 #[.val (.int a0), .val (.int a1), .val (.int la), .val (.int b0), .val (.int b1), .val (.int lb)] [])
      refine Go.iconst X0 hx (0 : Int32) (hb hby d19_13) rfl ?_
      refine Go.retN X0 hx hret hlk (by simp) (hb hby d19_14) (by decide) (by decide) ?_
      exact ⟨by unfold own_sm; rw [if_pos hc3_1, if_neg hc10_2] <;> rfl, N0, e0⟩
  · skip
    refine Go.icmpNo X0 hx (hb hby d19_3) (feq hc3_1).1 ?_
    show Go p_ e_ below _ _ s₁ (mkF m_ 6 #[.val (.int a0), .val (.int a1), .val (.int la), .val (.int b0), .val (.int b1), .val (.int lb)] [])
    refine Go.iconst X0 hx (0 : Int32) (hb hby d19_6) rfl ?_
    refine Go.retN X0 hx hret hlk (by simp) (hb hby d19_7) (by decide) (by decide) ?_
    exact ⟨by unfold own_sm; rw [if_neg hc3_1] <;> rfl, N0, e0⟩
def own_re (c1 c2 c3 d1 d2 d3 : List Int32) : Int32 := if (if c1 = d1 then (1 : Int32) else (0 : Int32)) = (0 : Int32) then (0 : Int32) else (if (if c2 = d2 then (1 : Int32) else (0 : Int32)) = (0 : Int32) then (0 : Int32) else (if (own_ke c3 d3) = (0 : Int32) then (0 : Int32) else (1 : Int32)))
theorem own_re_eq (c1 c2 c3 d1 d2 d3 : List Int32) : own_re c1 c2 c3 d1 d2 d3 = if c1 = d1 ∧ c2 = d2 ∧ c3 = d3 then 1 else 0 := by
  unfold own_re
  rw [own_ke_eq]
  by_cases h1 : c1 = d1 <;> by_cases h2 : c2 = d2 <;> by_cases h3 : c3 = d3 <;> simp [h1, h2, h3]
theorem d20_0 : decode prog_20_method_5_code 0 = .ok (.aload_n 1, 1) := by decide +kernel
theorem d20_1 : decode prog_20_method_5_code 1 = .ok (.instanceof 35, 3) := by decide +kernel
theorem d20_4 : decode prog_20_method_5_code 4 = .ok (.ifCond .eq 54, 3) := by decide +kernel
theorem d20_7 : decode prog_20_method_5_code 7 = .ok (.aload_n 1, 1) := by decide +kernel
theorem d20_8 : decode prog_20_method_5_code 8 = .ok (.checkcast 35, 3) := by decide +kernel
theorem d20_11 : decode prog_20_method_5_code 11 = .ok (.astore_n 2, 1) := by decide +kernel
theorem d20_12 : decode prog_20_method_5_code 12 = .ok (.aload_n 0, 1) := by decide +kernel
theorem d20_13 : decode prog_20_method_5_code 13 = .ok (.getfield 34, 3) := by decide +kernel
theorem d20_16 : decode prog_20_method_5_code 16 = .ok (.aload_n 2, 1) := by decide +kernel
theorem d20_17 : decode prog_20_method_5_code 17 = .ok (.getfield 34, 3) := by decide +kernel
theorem d20_20 : decode prog_20_method_5_code 20 = .ok (.invokevirtual 44, 3) := by decide +kernel
theorem d20_23 : decode prog_20_method_5_code 23 = .ok (.ifCond .eq 35, 3) := by decide +kernel
theorem d20_26 : decode prog_20_method_5_code 26 = .ok (.aload_n 0, 1) := by decide +kernel
theorem d20_27 : decode prog_20_method_5_code 27 = .ok (.getfield 39, 3) := by decide +kernel
theorem d20_30 : decode prog_20_method_5_code 30 = .ok (.aload_n 2, 1) := by decide +kernel
theorem d20_31 : decode prog_20_method_5_code 31 = .ok (.getfield 39, 3) := by decide +kernel
theorem d20_34 : decode prog_20_method_5_code 34 = .ok (.invokevirtual 44, 3) := by decide +kernel
theorem d20_37 : decode prog_20_method_5_code 37 = .ok (.ifCond .eq 21, 3) := by decide +kernel
theorem d20_40 : decode prog_20_method_5_code 40 = .ok (.aload_n 0, 1) := by decide +kernel
theorem d20_41 : decode prog_20_method_5_code 41 = .ok (.getfield 41, 3) := by decide +kernel
theorem d20_44 : decode prog_20_method_5_code 44 = .ok (.aload_n 2, 1) := by decide +kernel
theorem d20_45 : decode prog_20_method_5_code 45 = .ok (.getfield 41, 3) := by decide +kernel
theorem d20_48 : decode prog_20_method_5_code 48 = .ok (.invokevirtual 48, 3) := by decide +kernel
theorem d20_51 : decode prog_20_method_5_code 51 = .ok (.ifCond .eq 7, 3) := by decide +kernel
theorem d20_54 : decode prog_20_method_5_code 54 = .ok (.iconst 1, 1) := by decide +kernel
theorem d20_55 : decode prog_20_method_5_code 55 = .ok (.goto 4, 3) := by decide +kernel
theorem d20_58 : decode prog_20_method_5_code 58 = .ok (.iconst 0, 1) := by decide +kernel
theorem d20_59 : decode prog_20_method_5_code 59 = .ok (.ireturn, 1) := by decide +kernel
theorem pn_20 : plainName "com/example/safe_retries/saferetries/identity/RequestIdentity" = true := by first | (simp [plainName, overriddenIn]; done) | decide +kernel
theorem ef_rm20 (m_ : MethodId) (a : Addr) (b : Addr) : entryFrame m_ #[(.ref a), (.ref b)] 3 = mkF m_ 0 #[.val (.ref a), .val (.ref b), .unset] [] := by first | (simp [entryFrame, mkF, argsToLocals, Value.category]; done) | rfl
def Q20 (Z : State) (a : Addr) (b : Addr) (x1 : Addr) (xt1 : Addr) (xb1 : ClassId) (xc1 : List Int32) (x2 : Addr) (xt2 : Addr) (xb2 : ClassId) (xc2 : List Int32) (x3 : Addr) (xt3 : Addr) (xb3 : ClassId) (xc3 : List Int32) (y1 : Addr) (yt1 : Addr) (yb1 : ClassId) (yc1 : List Int32) (y2 : Addr) (yt2 : Addr) (yb2 : ClassId) (yc2 : List Int32) (y3 : Addr) (yt3 : Addr) (yb3 : ClassId) (yc3 : List Int32) (k : Addr) (m : Addr) (zc : Int32) (h0 : Heap) (n0 : Nat) (v : Option Value) (h : Heap) (L : List Loc) : Prop := v = some (.int (own_re xc1 xc2 xc3 yc1 yc2 yc3)) ∧ Fr n0 L ∧ h = h0
set_option maxRecDepth 65536 in
set_option maxHeartbeats 40000000 in
theorem rm20 (l : Launch) (Z : State) (a0 : Array Value) (hw : ∀ d ∈ tables_1, d.before a0 Z = true) (ws : List Jvm.Cond) (a : Addr) (b : Addr) (x1 : Addr) (xt1 : Addr) (xb1 : ClassId) (xc1 : List Int32) (x2 : Addr) (xt2 : Addr) (xb2 : ClassId) (xc2 : List Int32) (x3 : Addr) (xt3 : Addr) (xb3 : ClassId) (xc3 : List Int32) (y1 : Addr) (yt1 : Addr) (yb1 : ClassId) (yc1 : List Int32) (y2 : Addr) (yt2 : Addr) (yb2 : ClassId) (yc2 : List Int32) (y3 : Addr) (yt3 : Addr) (yb3 : ClassId) (yc3 : List Int32) (k : Addr) (m : Addr) (zc : Int32) (h0 : Heap) (n0 : Nat) (Z0 : n0 ≤ h0.size) (O : Old Z n0 h0) (Sco : Sta Z Z.heap "java/lang/String" "COMPACT_STRINGS" "Z" (.int zc)) (hzc : ¬ zc = 0) (E_b : Exa Z h0 b "com/example/safe_retries/saferetries/identity/RequestIdentity") (E_k : Exa Z h0 k "com/example/safe_retries/saferetries/identity/IdempotencyKey") (E_m : Exa Z h0 m "com/example/safe_retries/saferetries/identity/IdempotencyKey") (F_x1 : Fld Z h0 a "com/example/safe_retries/saferetries/identity/RequestIdentity" "scope" "Ljava/lang/String;" (.ref x1)) (F_x2 : Fld Z h0 a "com/example/safe_retries/saferetries/identity/RequestIdentity" "operation" "Ljava/lang/String;" (.ref x2)) (F_xk : Fld Z h0 a "com/example/safe_retries/saferetries/identity/RequestIdentity" "key" "Lcom/example/safe_retries/saferetries/identity/IdempotencyKey;" (.ref k)) (F_x3 : Fld Z h0 k "com/example/safe_retries/saferetries/identity/IdempotencyKey" "value" "Ljava/lang/String;" (.ref x3)) (F_y1 : Fld Z h0 b "com/example/safe_retries/saferetries/identity/RequestIdentity" "scope" "Ljava/lang/String;" (.ref y1)) (F_y2 : Fld Z h0 b "com/example/safe_retries/saferetries/identity/RequestIdentity" "operation" "Ljava/lang/String;" (.ref y2)) (F_yk : Fld Z h0 b "com/example/safe_retries/saferetries/identity/RequestIdentity" "key" "Lcom/example/safe_retries/saferetries/identity/IdempotencyKey;" (.ref m)) (F_y3 : Fld Z h0 m "com/example/safe_retries/saferetries/identity/IdempotencyKey" "value" "Ljava/lang/String;" (.ref y3)) (S_x1 : StrAt Z h0 x1 xt1 xb1 xc1) (xh1 : ∀ c ∈ xc1, ¬ c < 0 ∧ ¬ (255 : Int32) < c) (l1 : (xc1).length ≤ 4000) (S_x2 : StrAt Z h0 x2 xt2 xb2 xc2) (xh2 : ∀ c ∈ xc2, ¬ c < 0 ∧ ¬ (255 : Int32) < c) (l2 : (xc2).length ≤ 4000) (S_x3 : StrAt Z h0 x3 xt3 xb3 xc3) (xh3 : ∀ c ∈ xc3, ¬ c < 0 ∧ ¬ (255 : Int32) < c) (l3 : (xc3).length ≤ 4000) (S_y1 : StrAt Z h0 y1 yt1 yb1 yc1) (yh1 : ∀ c ∈ yc1, ¬ c < 0 ∧ ¬ (255 : Int32) < c) (m1 : (yc1).length ≤ 4000) (S_y2 : StrAt Z h0 y2 yt2 yb2 yc2) (yh2 : ∀ c ∈ yc2, ¬ c < 0 ∧ ¬ (255 : Int32) < c) (m2 : (yc2).length ≤ 4000) (S_y3 : StrAt Z h0 y3 yt3 yb3 yc3) (yh3 : ∀ c ∈ yc3, ¬ c < 0 ∧ ¬ (255 : Int32) < c) (m3 : (yc3).length ≤ 4000) :
    MetFree l (⟨"com/example/safe_retries/saferetries/identity/RequestIdentity", "equals", "(Ljava/lang/Object;)Z"⟩ : MethodName) (head1 (Jvm.Cond.code (⟨"com/example/safe_retries/saferetries/identity/RequestIdentity", "equals", "(Ljava/lang/Object;)Z"⟩ : MethodName) prog_20_method_5_code 3 (some .boolean) :: ws) ({ frames := 3, cells := 0, slots := 0, locals := 42 } : Room)) (fun a_ U_ => a_ = #[(.ref a), (.ref b)] ∧ Z.Warmed39 U_.vm ∧ U_.heap = h0) (fun _ _ _ _ _ => True) (fun _ U_ o_ V_ => ∃ v_ L_, o_ = .returned v_ ∧ Q20 Z a b x1 xt1 xb1 xc1 x2 xt2 xb2 xc2 x3 xt3 xb3 xc3 y1 yt1 yb1 yc1 y2 yt2 yb2 yc2 y3 yt3 yb3 yc3 k m zc h0 n0 v_ V_.heap L_ ∧ FrameEnd U_ o_ V_ L_ ({ frames := 3, cells := 0, slots := 0, locals := 42 } : Room).cells ({ frames := 3, cells := 0, slots := 0, locals := 42 } : Room).slots) := by
  refine metOf (Q := Q20 Z a b x1 xt1 xb1 xc1 x2 xt2 xb2 xc2 x3 xt3 xb3 xc3 y1 yt1 yb1 yc1 y2 yt2 yb2 yc2 y3 yt3 yb3 yc3 k m zc h0 n0) (plainFor_of_name pn_20) ?_
  intro p_ e_ s_ m_ below meth c_ s₁ X0 hx hby hml hret hlk hZ hown hnm e0
  rw [ef_rm20]
  have N0 := Fr.nil n0
  show Go p_ e_ below _ _ s₁ (mkF m_ 0 #[.val (.ref a), .val (.ref b), .unset] [])
  refine Go.aloadN X0 hx (hb hby d20_0) rfl rfl ?_
  refine Go.instY X0 hx hZ hown (hw _ (List.mem_of_getElem? (i := 113) rfl)) e0 (Ins.self E_b) (hb hby d20_1) ?_
  intro T1 X1 e1
  show Go p_ e_ below _ _ T1 (mkF m_ 4 #[.val (.ref a), .val (.ref b), .unset] [(.int (1 : Int32))])
  refine Go.ifNo X1 hx (hb hby d20_4) ((if0 _ _).trans (feq (by decide)).1) ?_
  show Go p_ e_ below _ _ T1 (mkF m_ 7 #[.val (.ref a), .val (.ref b), .unset] [])
  refine Go.aloadN X1 hx (hb hby d20_7) rfl rfl ?_
  refine Go.castY X1 hx hZ hown (hw _ (List.mem_of_getElem? (i := 113) rfl)) e1 (Ins.self E_b) (hb hby d20_8) ?_
  intro T2 X2 e2
  show Go p_ e_ below _ _ T2 (mkF m_ 11 #[.val (.ref a), .val (.ref b), .unset] [(.ref b)])
  refine Go.astoreN X2 hx (l' := #[.val (.ref a), .val (.ref b), .val (.ref b)]) (hb hby d20_11) rfl rfl ?_
  refine Go.aloadN X2 hx (hb hby d20_12) rfl rfl ?_
  refine Go.getF X2 hx hZ hown (host := "") (Or.inl (hw _ (List.mem_of_getElem? (i := 99) rfl))) Via.refl e2 F_x1 (hb hby d20_13) ?_
  intro T3 X3 e3
  show Go p_ e_ below _ _ T3 (mkF m_ 16 #[.val (.ref a), .val (.ref b), .val (.ref b)] [(.ref x1)])
  refine Go.aloadN X3 hx (hb hby d20_16) rfl rfl ?_
  refine Go.getF X3 hx hZ hown (host := "") (Or.inl (hw _ (List.mem_of_getElem? (i := 99) rfl))) Via.refl e3 F_y1 (hb hby d20_17) ?_
  intro T4 X4 e4
  show Go p_ e_ below _ _ T4 (mkF m_ 20 #[.val (.ref a), .val (.ref b), .val (.ref b)] [(.ref y1), (.ref x1)])
  refine Go.callVB X4 hx hZ (y0 := (⟨"java/lang/String", "equals", "(Ljava/lang/Object;)Z"⟩ : MethodName)) (K := "java/lang/String") (C1 := 0) (N1 := 0) (Qy := fun v_ h_ L_ => ((v_ = some (.int 1) ∧ xc1 = yc1) ∨ (v_ = some (.int 0) ∧ ¬ xc1 = yc1)) ∧ L_ = [] ∧ h_ = h0) (StrChars.Road.eqW (W := 0) hZ (own_hwordsEq hw) (kI := 4) (hw _ (List.mem_of_getElem? (i := 9) rfl)) S_x1.1 S_x1.2.2.1 S_x1.2.1 S_x1.2.2.2 (own_cod xh1) (own_up xh1) l1 S_y1.1 S_y1.2.2.1 S_y1.2.1 S_y1.2.2.2 (own_cod yh1) (own_up yh1) m1 (Sco.ext O.2) hzc (by decide) (by decide)) (by decide) hown (hw _ (List.mem_of_getElem? (i := 115) rfl)) (hw _ (List.mem_of_getElem? (i := 116) rfl)) (notFace_of_selects (args := #[]) (mvT hZ (hw _ (List.mem_of_getElem? (i := 118) rfl)))) (hw _ (List.mem_of_getElem? (i := 118) rfl)) (hw _ (List.mem_of_getElem? (i := 117) rfl)) e4 S_x1.1 (by rw [hml]; rfl) (argsL := [(.ref y1)]) (S := []) (Nat.le_of_ble_eq_true rfl) (by decide) (by decide) pd_oLjava_lang_ObjectcZ rfl rfl (hb hby d20_20) ?_
  rintro vv5 T5 L5 X5 ⟨hv5, rfl, e5⟩
  obtain rfl := own_eqv hv5
  have N5 := Fr.app N0 (Fr.nil n0)
  show Go p_ e_ below _ _ T5 (mkF m_ 23 #[.val (.ref a), .val (.ref b), .val (.ref b)] [(.int (if xc1 = yc1 then (1 : Int32) else (0 : Int32)))])
  by_cases hc23_6 : (if xc1 = yc1 then (1 : Int32) else (0 : Int32)) = (0 : Int32)
  · skip
    refine Go.ifYes X5 hx (pc' := 58) (hb hby d20_23) ((if0 _ _).trans (teq hc23_6).1) (by decide) (by decide) ?_
    show Go p_ e_ below _ _ T5 (mkF m_ 58 #[.val (.ref a), .val (.ref b), .val (.ref b)] [])
    refine Go.iconst X5 hx (0 : Int32) (hb hby d20_58) rfl ?_
    refine Go.retN X5 hx hret hlk (by simp) (hb hby d20_59) (by decide) (by decide) ?_
    exact ⟨by unfold own_re; rw [if_pos hc23_6] <;> rfl, N5, e5⟩
  · skip
    refine Go.ifNo X5 hx (hb hby d20_23) ((if0 _ _).trans (feq hc23_6).1) ?_
    show Go p_ e_ below _ _ T5 (mkF m_ 26 #[.val (.ref a), .val (.ref b), .val (.ref b)] [])
    refine Go.aloadN X5 hx (hb hby d20_26) rfl rfl ?_
    refine Go.getF X5 hx hZ hown (host := "") (Or.inl (hw _ (List.mem_of_getElem? (i := 101) rfl))) Via.refl e5 F_x2 (hb hby d20_27) ?_
    intro T7 X7 e7
    show Go p_ e_ below _ _ T7 (mkF m_ 30 #[.val (.ref a), .val (.ref b), .val (.ref b)] [(.ref x2)])
    refine Go.aloadN X7 hx (hb hby d20_30) rfl rfl ?_
    refine Go.getF X7 hx hZ hown (host := "") (Or.inl (hw _ (List.mem_of_getElem? (i := 101) rfl))) Via.refl e7 F_y2 (hb hby d20_31) ?_
    intro T8 X8 e8
    show Go p_ e_ below _ _ T8 (mkF m_ 34 #[.val (.ref a), .val (.ref b), .val (.ref b)] [(.ref y2), (.ref x2)])
    refine Go.callVB X8 hx hZ (y0 := (⟨"java/lang/String", "equals", "(Ljava/lang/Object;)Z"⟩ : MethodName)) (K := "java/lang/String") (C1 := 0) (N1 := 0) (Qy := fun v_ h_ L_ => ((v_ = some (.int 1) ∧ xc2 = yc2) ∨ (v_ = some (.int 0) ∧ ¬ xc2 = yc2)) ∧ L_ = [] ∧ h_ = h0) (StrChars.Road.eqW (W := 0) hZ (own_hwordsEq hw) (kI := 4) (hw _ (List.mem_of_getElem? (i := 9) rfl)) S_x2.1 S_x2.2.2.1 S_x2.2.1 S_x2.2.2.2 (own_cod xh2) (own_up xh2) l2 S_y2.1 S_y2.2.2.1 S_y2.2.1 S_y2.2.2.2 (own_cod yh2) (own_up yh2) m2 (Sco.ext O.2) hzc (by decide) (by decide)) (by decide) hown (hw _ (List.mem_of_getElem? (i := 115) rfl)) (hw _ (List.mem_of_getElem? (i := 116) rfl)) (notFace_of_selects (args := #[]) (mvT hZ (hw _ (List.mem_of_getElem? (i := 118) rfl)))) (hw _ (List.mem_of_getElem? (i := 118) rfl)) (hw _ (List.mem_of_getElem? (i := 117) rfl)) e8 S_x2.1 (by rw [hml]; rfl) (argsL := [(.ref y2)]) (S := []) (Nat.le_of_ble_eq_true rfl) (by decide) (by decide) pd_oLjava_lang_ObjectcZ rfl rfl (hb hby d20_34) ?_
    rintro vv9 T9 L9 X9 ⟨hv9, rfl, e9⟩
    obtain rfl := own_eqv hv9
    have N9 := Fr.app N5 (Fr.nil n0)
    show Go p_ e_ below _ _ T9 (mkF m_ 37 #[.val (.ref a), .val (.ref b), .val (.ref b)] [(.int (if xc2 = yc2 then (1 : Int32) else (0 : Int32)))])
    by_cases hc37_10 : (if xc2 = yc2 then (1 : Int32) else (0 : Int32)) = (0 : Int32)
    · skip
      refine Go.ifYes X9 hx (pc' := 58) (hb hby d20_37) ((if0 _ _).trans (teq hc37_10).1) (by decide) (by decide) ?_
      show Go p_ e_ below _ _ T9 (mkF m_ 58 #[.val (.ref a), .val (.ref b), .val (.ref b)] [])
      refine Go.iconst X9 hx (0 : Int32) (hb hby d20_58) rfl ?_
      refine Go.retN X9 hx hret hlk (by simp) (hb hby d20_59) (by decide) (by decide) ?_
      exact ⟨by unfold own_re; rw [if_neg hc23_6, if_pos hc37_10] <;> rfl, N9, e9⟩
    · skip
      refine Go.ifNo X9 hx (hb hby d20_37) ((if0 _ _).trans (feq hc37_10).1) ?_
      show Go p_ e_ below _ _ T9 (mkF m_ 40 #[.val (.ref a), .val (.ref b), .val (.ref b)] [])
      refine Go.aloadN X9 hx (hb hby d20_40) rfl rfl ?_
      refine Go.getF X9 hx hZ hown (host := "") (Or.inl (hw _ (List.mem_of_getElem? (i := 103) rfl))) Via.refl e9 F_xk (hb hby d20_41) ?_
      intro T11 X11 e11
      show Go p_ e_ below _ _ T11 (mkF m_ 44 #[.val (.ref a), .val (.ref b), .val (.ref b)] [(.ref k)])
      refine Go.aloadN X11 hx (hb hby d20_44) rfl rfl ?_
      refine Go.getF X11 hx hZ hown (host := "") (Or.inl (hw _ (List.mem_of_getElem? (i := 103) rfl))) Via.refl e11 F_yk (hb hby d20_45) ?_
      intro T12 X12 e12
      show Go p_ e_ below _ _ T12 (mkF m_ 48 #[.val (.ref a), .val (.ref b), .val (.ref b)] [(.ref m), (.ref k)])
      refine Go.callV X12 hx hZ (y0 := (⟨"com/example/safe_retries/saferetries/identity/IdempotencyKey", "equals", "(Ljava/lang/Object;)Z"⟩ : MethodName)) (rm23 l Z a0 hw [] k m x3 xt3 xb3 xc3 y3 yt3 yb3 yc3 zc h0 n0 Z0 O Sco hzc E_m F_x3 F_y3 S_x3 xh3 l3 S_y3 yh3 m3) (by decide) hown (hw _ (List.mem_of_getElem? (i := 124) rfl)) (hw _ (List.mem_of_getElem? (i := 125) rfl)) (notFace_of_selects (args := #[]) (mvT hZ (hw _ (List.mem_of_getElem? (i := 127) rfl)))) (hw _ (List.mem_of_getElem? (i := 127) rfl)) (hw _ (List.mem_of_getElem? (i := 126) rfl)) (hw _ (List.mem_of_getElem? (i := 2) rfl)) (hw _ (List.mem_of_getElem? (i := 128) rfl)) e12 E_k (W := 0) (by rw [hml]; rfl) (argsL := [(.ref m)]) (S := []) (Nat.le_of_ble_eq_true rfl) (by decide) (by decide) (by decide) (by decide) pd_oLjava_lang_ObjectcZ rfl rfl (hb hby d20_48) ?_
      rintro _ T13 L13 X13 ⟨rfl, N13q, e13⟩
      have N13 := Fr.app N9 N13q
      show Go p_ e_ below _ _ T13 (mkF m_ 51 #[.val (.ref a), .val (.ref b), .val (.ref b)] [(.int (own_ke xc3 yc3))])
      by_cases hc51_14 : (own_ke xc3 yc3) = (0 : Int32)
      · skip
        refine Go.ifYes X13 hx (pc' := 58) (hb hby d20_51) ((if0 _ _).trans (teq hc51_14).1) (by decide) (by decide) ?_
        show Go p_ e_ below _ _ T13 (mkF m_ 58 #[.val (.ref a), .val (.ref b), .val (.ref b)] [])
        refine Go.iconst X13 hx (0 : Int32) (hb hby d20_58) rfl ?_
        refine Go.retN X13 hx hret hlk (by simp) (hb hby d20_59) (by decide) (by decide) ?_
        exact ⟨by unfold own_re; rw [if_neg hc23_6, if_neg hc37_10, if_pos hc51_14] <;> rfl, N13, e13⟩
      · skip
        refine Go.ifNo X13 hx (hb hby d20_51) ((if0 _ _).trans (feq hc51_14).1) ?_
        show Go p_ e_ below _ _ T13 (mkF m_ 54 #[.val (.ref a), .val (.ref b), .val (.ref b)] [])
        refine Go.iconst X13 hx (1 : Int32) (hb hby d20_54) rfl ?_
        refine Go.goto X13 hx (pc' := 59) (hb hby d20_55) (by decide) (by decide) ?_
        refine Go.retN X13 hx hret hlk (by simp) (hb hby d20_59) (by decide) (by decide) ?_
        exact ⟨by unfold own_re; rw [if_neg hc23_6, if_neg hc37_10, if_neg hc51_14] <;> rfl, N13, e13⟩
theorem ef_rm20n (m_ : MethodId) (a : Addr) : entryFrame m_ #[(.ref a), .null] 3 = mkF m_ 0 #[.val (.ref a), .val .null, .unset] [] := by first | (simp [entryFrame, mkF, argsToLocals, Value.category]; done) | rfl
def Q20n (Z : State) (a : Addr)  (h0 : Heap) (n0 : Nat) (v : Option Value) (h : Heap) (L : List Loc) : Prop := v = some (.int 0) ∧ Fr n0 L ∧ h = h0
set_option maxRecDepth 65536 in
set_option maxHeartbeats 40000000 in
theorem rm20n (l : Launch) (Z : State) (a0 : Array Value) (hw : ∀ d ∈ tables_1, d.before a0 Z = true) (ws : List Jvm.Cond) (a : Addr)  (h0 : Heap) (n0 : Nat) (Z0 : n0 ≤ h0.size)  :
    MetFree l (⟨"com/example/safe_retries/saferetries/identity/RequestIdentity", "equals", "(Ljava/lang/Object;)Z"⟩ : MethodName) (head1 (Jvm.Cond.code (⟨"com/example/safe_retries/saferetries/identity/RequestIdentity", "equals", "(Ljava/lang/Object;)Z"⟩ : MethodName) prog_20_method_5_code 3 (some .boolean) :: ws) ({ frames := 0, cells := 0, slots := 0, locals := 0 } : Room)) (fun a_ U_ => a_ = #[(.ref a), .null] ∧ Z.Warmed39 U_.vm ∧ U_.heap = h0) (fun _ _ _ _ _ => True) (fun _ U_ o_ V_ => ∃ v_ L_, o_ = .returned v_ ∧ Q20n Z a h0 n0 v_ V_.heap L_ ∧ FrameEnd U_ o_ V_ L_ ({ frames := 0, cells := 0, slots := 0, locals := 0 } : Room).cells ({ frames := 0, cells := 0, slots := 0, locals := 0 } : Room).slots) := by
  refine metOf (Q := Q20n Z a h0 n0) (plainFor_of_name pn_20) ?_
  intro p_ e_ s_ m_ below meth c_ s₁ X0 hx hby hml hret hlk hZ hown hnm e0
  rw [ef_rm20n]
  have N0 := Fr.nil n0
  show Go p_ e_ below _ _ s₁ (mkF m_ 0 #[.val (.ref a), .val .null, .unset] [])
  refine Go.aloadN X0 hx (hb hby d20_0) rfl rfl ?_
  refine Go.instNull X0 hx (hb hby d20_1) ?_
  refine Go.ifYes X0 hx (pc' := 58) (hb hby d20_4) ((if0 _ _).trans (teq rfl).1) (by decide) (by decide) ?_
  show Go p_ e_ below _ _ s₁ (mkF m_ 58 #[.val (.ref a), .val .null, .unset] [])
  refine Go.iconst X0 hx (0 : Int32) (hb hby d20_58) rfl ?_
  refine Go.retN X0 hx hret hlk (by simp) (hb hby d20_59) (by decide) (by decide) ?_
  exact ⟨rfl, N0, e0⟩
theorem ef_rm20o (m_ : MethodId) (a : Addr) (b : Addr) : entryFrame m_ #[(.ref a), (.ref b)] 3 = mkF m_ 0 #[.val (.ref a), .val (.ref b), .unset] [] := by first | (simp [entryFrame, mkF, argsToLocals, Value.category]; done) | rfl
def Q20o (Z : State) (a : Addr) (b : Addr)  (h0 : Heap) (n0 : Nat) (v : Option Value) (h : Heap) (L : List Loc) : Prop := v = some (.int 0) ∧ Fr n0 L ∧ h = h0
set_option maxRecDepth 65536 in
set_option maxHeartbeats 40000000 in
theorem rm20o (l : Launch) (Z : State) (a0 : Array Value) (hw : ∀ d ∈ tables_1, d.before a0 Z = true) (ws : List Jvm.Cond) (a : Addr) (b : Addr)  (h0 : Heap) (n0 : Nat) (Z0 : n0 ≤ h0.size) (E_b : Exa Z h0 b "com/example/safe_retries/saferetries/identity/IdempotencyKey") :
    MetFree l (⟨"com/example/safe_retries/saferetries/identity/RequestIdentity", "equals", "(Ljava/lang/Object;)Z"⟩ : MethodName) (head1 (Jvm.Cond.code (⟨"com/example/safe_retries/saferetries/identity/RequestIdentity", "equals", "(Ljava/lang/Object;)Z"⟩ : MethodName) prog_20_method_5_code 3 (some .boolean) :: ws) ({ frames := 0, cells := 0, slots := 0, locals := 0 } : Room)) (fun a_ U_ => a_ = #[(.ref a), (.ref b)] ∧ Z.Warmed39 U_.vm ∧ U_.heap = h0) (fun _ _ _ _ _ => True) (fun _ U_ o_ V_ => ∃ v_ L_, o_ = .returned v_ ∧ Q20o Z a b h0 n0 v_ V_.heap L_ ∧ FrameEnd U_ o_ V_ L_ ({ frames := 0, cells := 0, slots := 0, locals := 0 } : Room).cells ({ frames := 0, cells := 0, slots := 0, locals := 0 } : Room).slots) := by
  refine metOf (Q := Q20o Z a b h0 n0) (plainFor_of_name pn_20) ?_
  intro p_ e_ s_ m_ below meth c_ s₁ X0 hx hby hml hret hlk hZ hown hnm e0
  rw [ef_rm20o]
  have N0 := Fr.nil n0
  show Go p_ e_ below _ _ s₁ (mkF m_ 0 #[.val (.ref a), .val (.ref b), .unset] [])
  refine Go.aloadN X0 hx (hb hby d20_0) rfl rfl ?_
  refine Go.instNo X0 hx hZ hown (hw _ (List.mem_of_getElem? (i := 113) rfl)) e0 E_b (own_noSub (hw _ (List.mem_of_getElem? (i := 132) rfl)) (hw _ (List.mem_of_getElem? (i := 88) rfl)) (NS.step (hw _ (List.mem_of_getElem? (i := 132) rfl)) (own_nsRoot (hw _ (List.mem_of_getElem? (i := 133) rfl)) (hw _ (List.mem_of_getElem? (i := 88) rfl)) (by decide)) (by decide)) (by decide)) (hb hby d20_1) ?_
  intro T1 X1 e1
  show Go p_ e_ below _ _ T1 (mkF m_ 4 #[.val (.ref a), .val (.ref b), .unset] [(.int (0 : Int32))])
  refine Go.ifYes X1 hx (pc' := 58) (hb hby d20_4) ((if0 _ _).trans (teq rfl).1) (by decide) (by decide) ?_
  show Go p_ e_ below _ _ T1 (mkF m_ 58 #[.val (.ref a), .val (.ref b), .unset] [])
  refine Go.iconst X1 hx (0 : Int32) (hb hby d20_58) rfl ?_
  refine Go.retN X1 hx hret hlk (by simp) (hb hby d20_59) (by decide) (by decide) ?_
  exact ⟨rfl, N0, e1⟩
theorem own_sm_eq (a0 a1 la b0 b1 lb : Int32) (ha : la = 1 ∨ la = 2) (hb : lb = 1 ∨ lb = 2) : own_sm a0 a1 la b0 b1 lb = if own_cs a0 a1 la = own_cs b0 b1 lb then 1 else 0 := by
  unfold own_sm own_cs
  rcases ha with rfl | rfl <;> rcases hb with rfl | rfl <;> simp
  all_goals (repeat' split) <;> simp_all
theorem own_fin (a0 a1 la b0 b1 lb c0 c1 lc d0 d1 ld e0 e1 le f0 f1 lf ex : Int32) (h1 : la = 1 ∨ la = 2) (h2 : lb = 1 ∨ lb = 2) (h3 : lc = 1 ∨ lc = 2) (h4 : ld = 1 ∨ ld = 2) (h5 : le = 1 ∨ le = 2) (h6 : lf = 1 ∨ lf = 2)
    (h : ex = if own_sm a0 a1 la b0 b1 lb = (0 : Int32) then (0 : Int32) else if own_sm c0 c1 lc d0 d1 ld = (0 : Int32) then (0 : Int32) else if own_sm e0 e1 le f0 f1 lf = (0 : Int32) then (0 : Int32) else (1 : Int32)) :
    own_re (own_cs a0 a1 la) (own_cs c0 c1 lc) (own_cs e0 e1 le) (own_cs b0 b1 lb) (own_cs d0 d1 ld) (own_cs f0 f1 lf) = ex := by
  subst h
  rw [own_re_eq, own_sm_eq _ _ _ _ _ _ h1 h2, own_sm_eq _ _ _ _ _ _ h3 h4, own_sm_eq _ _ _ _ _ _ h5 h6]
  by_cases q1 : own_cs a0 a1 la = own_cs b0 b1 lb <;> by_cases q2 : own_cs c0 c1 lc = own_cs d0 d1 ld <;> by_cases q3 : own_cs e0 e1 le = own_cs f0 f1 lf <;> simp [q1, q2, q3]
theorem own_self (c1 c2 c3 : List Int32) : own_re c1 c2 c3 c1 c2 c3 = 1 := by rw [own_re_eq]; simp
theorem pd_oCCIcLjava_lang_String : parseMethodDescriptor "(CCI)Ljava/lang/String;" = some ⟨[.char, .char, .int], some (.object "java/lang/String")⟩ := by decide +kernel
theorem pd_oLjava_lang_StringcV : parseMethodDescriptor "(Ljava/lang/String;)V" = some ⟨[(.object "java/lang/String")], none⟩ := by decide +kernel
theorem pd_oLjava_lang_StringLjava_lang_StringLcom_example_safe_retries_saferetries_identity_IdempotencyKeycV : parseMethodDescriptor "(Ljava/lang/String;Ljava/lang/String;Lcom/example/safe_retries/saferetries/identity/IdempotencyKey;)V" = some ⟨[(.object "java/lang/String"), (.object "java/lang/String"), (.object "com/example/safe_retries/saferetries/identity/IdempotencyKey")], none⟩ := by decide +kernel
theorem pd_oCCICCIcZ : parseMethodDescriptor "(CCICCI)Z" = some ⟨[.char, .char, .int, .char, .char, .int], some .boolean⟩ := by decide +kernel
theorem pn_0 : plainName "com/example/safe_retries/saferetries/identity/RequestIdentityEqualsPinLaw" = true := by first | (simp [plainName, overriddenIn]; done) | decide +kernel
theorem ef_rm0 (m_ : MethodId) (p0 : Int32) (p1 : Int32) (p2 : Int32) (p3 : Int32) (p4 : Int32) (p5 : Int32) : entryFrame m_ #[(.int p0), (.int p1), (.int p2), (.int p3), (.int p4), (.int p5)] maxLocals = mkF m_ 0 #[.val (.int p0), .val (.int p1), .val (.int p2), .val (.int p3), .val (.int p4), .val (.int p5), .unset, .unset, .unset, .unset, .unset, .unset, .unset, .unset, .unset, .unset, .unset, .unset, .unset, .unset, .unset, .unset, .unset, .unset, .unset, .unset, .unset, .unset, .unset, .unset, .unset, .unset, .unset, .unset, .unset, .unset, .unset, .unset] [] := by first | (simp [entryFrame, mkF, argsToLocals, Value.category, maxLocals]; done) | rfl
def Q0 (Z : State) (p0 : Int32) (p1 : Int32) (p2 : Int32) (p3 : Int32) (p4 : Int32) (p5 : Int32) (zc : Int32) (fm : Value) (h0 : Heap) (n0 : Nat) (v : Option Value) (h : Heap) (L : List Loc) : Prop := v = some (.int 1) ∧ Fr n0 L
set_option maxRecDepth 65536 in
set_option maxHeartbeats 40000000 in
theorem rm0 (l : Launch) (Z : State) (a0 : Array Value) (hw : ∀ d ∈ tables_1, d.before a0 Z = true) (ws : List Jvm.Cond) (p0 : Int32) (p1 : Int32) (p2 : Int32) (p3 : Int32) (p4 : Int32) (p5 : Int32) (zc : Int32) (fm : Value) (h0 : Heap) (n0 : Nat) (Z0 : n0 ≤ h0.size) (O : Old Z n0 h0) (Sco : Sta Z Z.heap "java/lang/String" "COMPACT_STRINGS" "Z" (.int zc)) (hzc : ¬ zc = 0) (Sfm : Sta Z Z.heap "jdk/internal/util/Preconditions" "SIOOBE_FORMATTER" "Ljava/util/function/BiFunction;" fm) (rfm : fm.isRef = true) :
    MetFree l x (head1 (Jvm.Cond.code x code maxLocals ret :: ws) room_1) (fun a_ U_ => a_ = #[(.int p0), (.int p1), (.int p2), (.int p3), (.int p4), (.int p5)] ∧ Z.Warmed39 U_.vm ∧ U_.heap = h0) (fun _ _ _ _ _ => True) (fun _ U_ o_ V_ => ∃ v_ L_, o_ = .returned v_ ∧ Q0 Z p0 p1 p2 p3 p4 p5 zc fm h0 n0 v_ V_.heap L_ ∧ ReturnedEndW U_ o_ V_ L_ room_1.cells room_1.slots) := by
  refine metOfW (Q := Q0 Z p0 p1 p2 p3 p4 p5 zc fm h0 n0) (plainFor_of_name pn_0) ?_
  intro p_ e_ s_ m_ below meth c_ s₁ X0 hx hby hml hret hlk hZ hown hnm e0 hS
  have hk : 0 ≤ h0.size := Nat.zero_le _
  rw [ef_rm0]
  have N0 := Fr.nil n0
  have hwS := own_hwS hw
  show Go p_ e_ below _ _ s₁ (mkF m_ 0 #[.val (.int p0), .val (.int p1), .val (.int p2), .val (.int p3), .val (.int p4), .val (.int p5), .unset, .unset, .unset, .unset, .unset, .unset, .unset, .unset, .unset, .unset, .unset, .unset, .unset, .unset, .unset, .unset, .unset, .unset, .unset, .unset, .unset, .unset, .unset, .unset, .unset, .unset, .unset, .unset, .unset, .unset, .unset, .unset] [])
  refine Go.iconst X0 hx (1 : Int32) (hb hby at_0) rfl ?_
  refine Go.iload X0 hx (hb hby at_1) rfl ?_
  refine Go.iconst X0 hx (1 : Int32) (hb hby at_3) rfl ?_
  refine Go.iand X0 hx (hb hby at_4) ?_
  refine Go.iadd X0 hx (hb hby at_5) ?_
  refine Go.istore X0 hx (l' := #[.val (.int p0), .val (.int p1), .val (.int p2), .val (.int p3), .val (.int p4), .val (.int p5), .val (.int ((1 : Int32) + (p5 &&& (1 : Int32)))), .unset, .unset, .unset, .unset, .unset, .unset, .unset, .unset, .unset, .unset, .unset, .unset, .unset, .unset, .unset, .unset, .unset, .unset, .unset, .unset, .unset, .unset, .unset, .unset, .unset, .unset, .unset, .unset, .unset, .unset, .unset]) (hb hby at_6) rfl ?_
  show Go p_ e_ below _ _ s₁ (mkF m_ 8 #[.val (.int p0), .val (.int p1), .val (.int p2), .val (.int p3), .val (.int p4), .val (.int p5), .val (.int ((1 : Int32) + (p5 &&& (1 : Int32)))), .unset, .unset, .unset, .unset, .unset, .unset, .unset, .unset, .unset, .unset, .unset, .unset, .unset, .unset, .unset, .unset, .unset, .unset, .unset, .unset, .unset, .unset, .unset, .unset, .unset, .unset, .unset, .unset, .unset, .unset, .unset] [])
  obtain ⟨las, q_las⟩ : ∃ z, z = ((1 : Int32) + (p5 &&& (1 : Int32))) := ⟨_, rfl⟩
  rw [← q_las]
  have r_las : las = 1 ∨ las = 2 := by rw [q_las]; exact (own_12 _)
  clear q_las
  show Go p_ e_ below _ _ s₁ (mkF m_ 8 #[.val (.int p0), .val (.int p1), .val (.int p2), .val (.int p3), .val (.int p4), .val (.int p5), .val (.int las), .unset, .unset, .unset, .unset, .unset, .unset, .unset, .unset, .unset, .unset, .unset, .unset, .unset, .unset, .unset, .unset, .unset, .unset, .unset, .unset, .unset, .unset, .unset, .unset, .unset, .unset, .unset, .unset, .unset, .unset, .unset] [])
  refine Go.iconst X0 hx (1 : Int32) (hb hby at_8) rfl ?_
  refine Go.iload X0 hx (hb hby at_9) rfl ?_
  refine Go.iconst X0 hx (1 : Int32) (hb hby at_11) rfl ?_
  refine Go.iushr X0 hx (hb hby at_12) ?_
  refine Go.iconst X0 hx (1 : Int32) (hb hby at_13) rfl ?_
  refine Go.iand X0 hx (hb hby at_14) ?_
  refine Go.iadd X0 hx (hb hby at_15) ?_
  refine Go.istore X0 hx (l' := #[.val (.int p0), .val (.int p1), .val (.int p2), .val (.int p3), .val (.int p4), .val (.int p5), .val (.int las), .val (.int ((1 : Int32) + (((p5.toUInt32 >>> ((1 : Int32) &&& 31).toUInt32).toInt32) &&& (1 : Int32)))), .unset, .unset, .unset, .unset, .unset, .unset, .unset, .unset, .unset, .unset, .unset, .unset, .unset, .unset, .unset, .unset, .unset, .unset, .unset, .unset, .unset, .unset, .unset, .unset, .unset, .unset, .unset, .unset, .unset, .unset]) (hb hby at_16) rfl ?_
  show Go p_ e_ below _ _ s₁ (mkF m_ 18 #[.val (.int p0), .val (.int p1), .val (.int p2), .val (.int p3), .val (.int p4), .val (.int p5), .val (.int las), .val (.int ((1 : Int32) + (((p5.toUInt32 >>> ((1 : Int32) &&& 31).toUInt32).toInt32) &&& (1 : Int32)))), .unset, .unset, .unset, .unset, .unset, .unset, .unset, .unset, .unset, .unset, .unset, .unset, .unset, .unset, .unset, .unset, .unset, .unset, .unset, .unset, .unset, .unset, .unset, .unset, .unset, .unset, .unset, .unset, .unset, .unset] [])
  obtain ⟨lao, q_lao⟩ : ∃ z, z = ((1 : Int32) + (((p5.toUInt32 >>> ((1 : Int32) &&& 31).toUInt32).toInt32) &&& (1 : Int32))) := ⟨_, rfl⟩
  rw [← q_lao]
  have r_lao : lao = 1 ∨ lao = 2 := by rw [q_lao]; exact (own_12 _)
  clear q_lao
  show Go p_ e_ below _ _ s₁ (mkF m_ 18 #[.val (.int p0), .val (.int p1), .val (.int p2), .val (.int p3), .val (.int p4), .val (.int p5), .val (.int las), .val (.int lao), .unset, .unset, .unset, .unset, .unset, .unset, .unset, .unset, .unset, .unset, .unset, .unset, .unset, .unset, .unset, .unset, .unset, .unset, .unset, .unset, .unset, .unset, .unset, .unset, .unset, .unset, .unset, .unset, .unset, .unset] [])
  refine Go.iconst X0 hx (1 : Int32) (hb hby at_18) rfl ?_
  refine Go.iload X0 hx (hb hby at_19) rfl ?_
  refine Go.iconst X0 hx (2 : Int32) (hb hby at_21) rfl ?_
  refine Go.iushr X0 hx (hb hby at_22) ?_
  refine Go.iconst X0 hx (1 : Int32) (hb hby at_23) rfl ?_
  refine Go.iand X0 hx (hb hby at_24) ?_
  refine Go.iadd X0 hx (hb hby at_25) ?_
  refine Go.istore X0 hx (l' := #[.val (.int p0), .val (.int p1), .val (.int p2), .val (.int p3), .val (.int p4), .val (.int p5), .val (.int las), .val (.int lao), .val (.int ((1 : Int32) + (((p5.toUInt32 >>> ((2 : Int32) &&& 31).toUInt32).toInt32) &&& (1 : Int32)))), .unset, .unset, .unset, .unset, .unset, .unset, .unset, .unset, .unset, .unset, .unset, .unset, .unset, .unset, .unset, .unset, .unset, .unset, .unset, .unset, .unset, .unset, .unset, .unset, .unset, .unset, .unset, .unset, .unset]) (hb hby at_26) rfl ?_
  show Go p_ e_ below _ _ s₁ (mkF m_ 28 #[.val (.int p0), .val (.int p1), .val (.int p2), .val (.int p3), .val (.int p4), .val (.int p5), .val (.int las), .val (.int lao), .val (.int ((1 : Int32) + (((p5.toUInt32 >>> ((2 : Int32) &&& 31).toUInt32).toInt32) &&& (1 : Int32)))), .unset, .unset, .unset, .unset, .unset, .unset, .unset, .unset, .unset, .unset, .unset, .unset, .unset, .unset, .unset, .unset, .unset, .unset, .unset, .unset, .unset, .unset, .unset, .unset, .unset, .unset, .unset, .unset, .unset] [])
  obtain ⟨lak, q_lak⟩ : ∃ z, z = ((1 : Int32) + (((p5.toUInt32 >>> ((2 : Int32) &&& 31).toUInt32).toInt32) &&& (1 : Int32))) := ⟨_, rfl⟩
  rw [← q_lak]
  have r_lak : lak = 1 ∨ lak = 2 := by rw [q_lak]; exact (own_12 _)
  clear q_lak
  have j1 : ∀ (T2 : State) (l2 : List Loc) (ss : Int32), Stand p_ l e_ room_1 (s_.setVm s_.vm) m_ #[(.int p0), (.int p1), (.int p2), (.int p3), (.int p4), (.int p5)] below meth c_ T2 l2 0 0 → Fr n0 l2 → T2.heap = h0 → (ss = (if (((p5.toUInt32 >>> ((6 : Int32) &&& 31).toUInt32).toInt32) &&& (1 : Int32)) = (0 : Int32) then (0 : Int32) else (1 : Int32))) → Go p_ e_ below (WE s_ room_1.cells room_1.slots) (Q0 Z p0 p1 p2 p3 p4 p5 zc fm h0 n0) T2 (mkF m_ 43 #[.val (.int p0), .val (.int p1), .val (.int p2), .val (.int p3), .val (.int p4), .val (.int p5), .val (.int las), .val (.int lao), .val (.int lak), .unset, .unset, .unset, .unset, .unset, .unset, .unset, .unset, .unset, .unset, .unset, .unset, .unset, .unset, .unset, .unset, .unset, .unset, .unset, .unset, .unset, .unset, .unset, .unset, .unset, .unset, .unset, .unset, .unset] [(.int ss)]) := by
    intro T2 l2 ss X2 N2 e2  h_ss
    show Go p_ e_ below _ _ T2 (mkF m_ 43 #[.val (.int p0), .val (.int p1), .val (.int p2), .val (.int p3), .val (.int p4), .val (.int p5), .val (.int las), .val (.int lao), .val (.int lak), .unset, .unset, .unset, .unset, .unset, .unset, .unset, .unset, .unset, .unset, .unset, .unset, .unset, .unset, .unset, .unset, .unset, .unset, .unset, .unset, .unset, .unset, .unset, .unset, .unset, .unset, .unset, .unset, .unset] [(.int ss)])
    refine Go.istore X2 hx (l' := #[.val (.int p0), .val (.int p1), .val (.int p2), .val (.int p3), .val (.int p4), .val (.int p5), .val (.int las), .val (.int lao), .val (.int lak), .val (.int ss), .unset, .unset, .unset, .unset, .unset, .unset, .unset, .unset, .unset, .unset, .unset, .unset, .unset, .unset, .unset, .unset, .unset, .unset, .unset, .unset, .unset, .unset, .unset, .unset, .unset, .unset, .unset, .unset]) (hb hby at_43) rfl ?_
    have j3 : ∀ (T4 : State) (l4 : List Loc) (so : Int32), Stand p_ l e_ room_1 (s_.setVm s_.vm) m_ #[(.int p0), (.int p1), (.int p2), (.int p3), (.int p4), (.int p5)] below meth c_ T4 l4 0 0 → Fr n0 l4 → T4.heap = h0 → (so = (if (((p5.toUInt32 >>> ((7 : Int32) &&& 31).toUInt32).toInt32) &&& (1 : Int32)) = (0 : Int32) then (0 : Int32) else (1 : Int32))) → Go p_ e_ below (WE s_ room_1.cells room_1.slots) (Q0 Z p0 p1 p2 p3 p4 p5 zc fm h0 n0) T4 (mkF m_ 60 #[.val (.int p0), .val (.int p1), .val (.int p2), .val (.int p3), .val (.int p4), .val (.int p5), .val (.int las), .val (.int lao), .val (.int lak), .val (.int ss), .unset, .unset, .unset, .unset, .unset, .unset, .unset, .unset, .unset, .unset, .unset, .unset, .unset, .unset, .unset, .unset, .unset, .unset, .unset, .unset, .unset, .unset, .unset, .unset, .unset, .unset, .unset, .unset] [(.int so)]) := by
      intro T4 l4 so X4 N4 e4  h_so
      show Go p_ e_ below _ _ T4 (mkF m_ 60 #[.val (.int p0), .val (.int p1), .val (.int p2), .val (.int p3), .val (.int p4), .val (.int p5), .val (.int las), .val (.int lao), .val (.int lak), .val (.int ss), .unset, .unset, .unset, .unset, .unset, .unset, .unset, .unset, .unset, .unset, .unset, .unset, .unset, .unset, .unset, .unset, .unset, .unset, .unset, .unset, .unset, .unset, .unset, .unset, .unset, .unset, .unset, .unset] [(.int so)])
      refine Go.istore X4 hx (l' := #[.val (.int p0), .val (.int p1), .val (.int p2), .val (.int p3), .val (.int p4), .val (.int p5), .val (.int las), .val (.int lao), .val (.int lak), .val (.int ss), .val (.int so), .unset, .unset, .unset, .unset, .unset, .unset, .unset, .unset, .unset, .unset, .unset, .unset, .unset, .unset, .unset, .unset, .unset, .unset, .unset, .unset, .unset, .unset, .unset, .unset, .unset, .unset, .unset]) (hb hby at_60) rfl ?_
      have j5 : ∀ (T6 : State) (l6 : List Loc) (sk : Int32), Stand p_ l e_ room_1 (s_.setVm s_.vm) m_ #[(.int p0), (.int p1), (.int p2), (.int p3), (.int p4), (.int p5)] below meth c_ T6 l6 0 0 → Fr n0 l6 → T6.heap = h0 → (sk = (if (((p5.toUInt32 >>> ((8 : Int32) &&& 31).toUInt32).toInt32) &&& (1 : Int32)) = (0 : Int32) then (0 : Int32) else (1 : Int32))) → Go p_ e_ below (WE s_ room_1.cells room_1.slots) (Q0 Z p0 p1 p2 p3 p4 p5 zc fm h0 n0) T6 (mkF m_ 77 #[.val (.int p0), .val (.int p1), .val (.int p2), .val (.int p3), .val (.int p4), .val (.int p5), .val (.int las), .val (.int lao), .val (.int lak), .val (.int ss), .val (.int so), .unset, .unset, .unset, .unset, .unset, .unset, .unset, .unset, .unset, .unset, .unset, .unset, .unset, .unset, .unset, .unset, .unset, .unset, .unset, .unset, .unset, .unset, .unset, .unset, .unset, .unset, .unset] [(.int sk)]) := by
        intro T6 l6 sk X6 N6 e6  h_sk
        show Go p_ e_ below _ _ T6 (mkF m_ 77 #[.val (.int p0), .val (.int p1), .val (.int p2), .val (.int p3), .val (.int p4), .val (.int p5), .val (.int las), .val (.int lao), .val (.int lak), .val (.int ss), .val (.int so), .unset, .unset, .unset, .unset, .unset, .unset, .unset, .unset, .unset, .unset, .unset, .unset, .unset, .unset, .unset, .unset, .unset, .unset, .unset, .unset, .unset, .unset, .unset, .unset, .unset, .unset, .unset] [(.int sk)])
        refine Go.istore X6 hx (l' := #[.val (.int p0), .val (.int p1), .val (.int p2), .val (.int p3), .val (.int p4), .val (.int p5), .val (.int las), .val (.int lao), .val (.int lak), .val (.int ss), .val (.int so), .val (.int sk), .unset, .unset, .unset, .unset, .unset, .unset, .unset, .unset, .unset, .unset, .unset, .unset, .unset, .unset, .unset, .unset, .unset, .unset, .unset, .unset, .unset, .unset, .unset, .unset, .unset, .unset]) (hb hby at_77) rfl ?_
        have j7 : ∀ (T8 : State) (l8 : List Loc) (lbs : Int32), Stand p_ l e_ room_1 (s_.setVm s_.vm) m_ #[(.int p0), (.int p1), (.int p2), (.int p3), (.int p4), (.int p5)] below meth c_ T8 l8 0 0 → Fr n0 l8 → T8.heap = h0 → (lbs = 1 ∨ lbs = 2) → Go p_ e_ below (WE s_ room_1.cells room_1.slots) (Q0 Z p0 p1 p2 p3 p4 p5 zc fm h0 n0) T8 (mkF m_ 97 #[.val (.int p0), .val (.int p1), .val (.int p2), .val (.int p3), .val (.int p4), .val (.int p5), .val (.int las), .val (.int lao), .val (.int lak), .val (.int ss), .val (.int so), .val (.int sk), .unset, .unset, .unset, .unset, .unset, .unset, .unset, .unset, .unset, .unset, .unset, .unset, .unset, .unset, .unset, .unset, .unset, .unset, .unset, .unset, .unset, .unset, .unset, .unset, .unset, .unset] [(.int lbs)]) := by
          intro T8 l8 lbs X8 N8 e8  h_j7_0
          have r_lbs := h_j7_0
          show Go p_ e_ below _ _ T8 (mkF m_ 97 #[.val (.int p0), .val (.int p1), .val (.int p2), .val (.int p3), .val (.int p4), .val (.int p5), .val (.int las), .val (.int lao), .val (.int lak), .val (.int ss), .val (.int so), .val (.int sk), .unset, .unset, .unset, .unset, .unset, .unset, .unset, .unset, .unset, .unset, .unset, .unset, .unset, .unset, .unset, .unset, .unset, .unset, .unset, .unset, .unset, .unset, .unset, .unset, .unset, .unset] [(.int lbs)])
          refine Go.istore X8 hx (l' := #[.val (.int p0), .val (.int p1), .val (.int p2), .val (.int p3), .val (.int p4), .val (.int p5), .val (.int las), .val (.int lao), .val (.int lak), .val (.int ss), .val (.int so), .val (.int sk), .val (.int lbs), .unset, .unset, .unset, .unset, .unset, .unset, .unset, .unset, .unset, .unset, .unset, .unset, .unset, .unset, .unset, .unset, .unset, .unset, .unset, .unset, .unset, .unset, .unset, .unset, .unset]) (hb hby at_97) rfl ?_
          have j9 : ∀ (T10 : State) (l10 : List Loc) (lbo : Int32), Stand p_ l e_ room_1 (s_.setVm s_.vm) m_ #[(.int p0), (.int p1), (.int p2), (.int p3), (.int p4), (.int p5)] below meth c_ T10 l10 0 0 → Fr n0 l10 → T10.heap = h0 → (lbo = 1 ∨ lbo = 2) → Go p_ e_ below (WE s_ room_1.cells room_1.slots) (Q0 Z p0 p1 p2 p3 p4 p5 zc fm h0 n0) T10 (mkF m_ 117 #[.val (.int p0), .val (.int p1), .val (.int p2), .val (.int p3), .val (.int p4), .val (.int p5), .val (.int las), .val (.int lao), .val (.int lak), .val (.int ss), .val (.int so), .val (.int sk), .val (.int lbs), .unset, .unset, .unset, .unset, .unset, .unset, .unset, .unset, .unset, .unset, .unset, .unset, .unset, .unset, .unset, .unset, .unset, .unset, .unset, .unset, .unset, .unset, .unset, .unset, .unset] [(.int lbo)]) := by
            intro T10 l10 lbo X10 N10 e10  h_j9_0
            have r_lbo := h_j9_0
            show Go p_ e_ below _ _ T10 (mkF m_ 117 #[.val (.int p0), .val (.int p1), .val (.int p2), .val (.int p3), .val (.int p4), .val (.int p5), .val (.int las), .val (.int lao), .val (.int lak), .val (.int ss), .val (.int so), .val (.int sk), .val (.int lbs), .unset, .unset, .unset, .unset, .unset, .unset, .unset, .unset, .unset, .unset, .unset, .unset, .unset, .unset, .unset, .unset, .unset, .unset, .unset, .unset, .unset, .unset, .unset, .unset, .unset] [(.int lbo)])
            refine Go.istore X10 hx (l' := #[.val (.int p0), .val (.int p1), .val (.int p2), .val (.int p3), .val (.int p4), .val (.int p5), .val (.int las), .val (.int lao), .val (.int lak), .val (.int ss), .val (.int so), .val (.int sk), .val (.int lbs), .val (.int lbo), .unset, .unset, .unset, .unset, .unset, .unset, .unset, .unset, .unset, .unset, .unset, .unset, .unset, .unset, .unset, .unset, .unset, .unset, .unset, .unset, .unset, .unset, .unset, .unset]) (hb hby at_117) rfl ?_
            have j11 : ∀ (T12 : State) (l12 : List Loc) (lbk : Int32), Stand p_ l e_ room_1 (s_.setVm s_.vm) m_ #[(.int p0), (.int p1), (.int p2), (.int p3), (.int p4), (.int p5)] below meth c_ T12 l12 0 0 → Fr n0 l12 → T12.heap = h0 → (lbk = 1 ∨ lbk = 2) → Go p_ e_ below (WE s_ room_1.cells room_1.slots) (Q0 Z p0 p1 p2 p3 p4 p5 zc fm h0 n0) T12 (mkF m_ 137 #[.val (.int p0), .val (.int p1), .val (.int p2), .val (.int p3), .val (.int p4), .val (.int p5), .val (.int las), .val (.int lao), .val (.int lak), .val (.int ss), .val (.int so), .val (.int sk), .val (.int lbs), .val (.int lbo), .unset, .unset, .unset, .unset, .unset, .unset, .unset, .unset, .unset, .unset, .unset, .unset, .unset, .unset, .unset, .unset, .unset, .unset, .unset, .unset, .unset, .unset, .unset, .unset] [(.int lbk)]) := by
              intro T12 l12 lbk X12 N12 e12  h_j11_0
              have r_lbk := h_j11_0
              show Go p_ e_ below _ _ T12 (mkF m_ 137 #[.val (.int p0), .val (.int p1), .val (.int p2), .val (.int p3), .val (.int p4), .val (.int p5), .val (.int las), .val (.int lao), .val (.int lak), .val (.int ss), .val (.int so), .val (.int sk), .val (.int lbs), .val (.int lbo), .unset, .unset, .unset, .unset, .unset, .unset, .unset, .unset, .unset, .unset, .unset, .unset, .unset, .unset, .unset, .unset, .unset, .unset, .unset, .unset, .unset, .unset, .unset, .unset] [(.int lbk)])
              refine Go.istore X12 hx (l' := #[.val (.int p0), .val (.int p1), .val (.int p2), .val (.int p3), .val (.int p4), .val (.int p5), .val (.int las), .val (.int lao), .val (.int lak), .val (.int ss), .val (.int so), .val (.int sk), .val (.int lbs), .val (.int lbo), .val (.int lbk), .unset, .unset, .unset, .unset, .unset, .unset, .unset, .unset, .unset, .unset, .unset, .unset, .unset, .unset, .unset, .unset, .unset, .unset, .unset, .unset, .unset, .unset, .unset]) (hb hby at_137) rfl ?_
              refine Go.iloadN X12 hx (hb hby at_139) rfl ?_
              refine Go.sipush X12 hx (255 : Int32) (hb hby at_140) rfl ?_
              refine Go.iand X12 hx (hb hby at_143) ?_
              refine Go.i2c X12 hx (hb hby at_144) ?_
              refine Go.istore X12 hx (l' := #[.val (.int p0), .val (.int p1), .val (.int p2), .val (.int p3), .val (.int p4), .val (.int p5), .val (.int las), .val (.int lao), .val (.int lak), .val (.int ss), .val (.int so), .val (.int sk), .val (.int lbs), .val (.int lbo), .val (.int lbk), .val (.int ((p0 &&& (255 : Int32)).toUInt32.toUInt16.toUInt32.toInt32)), .unset, .unset, .unset, .unset, .unset, .unset, .unset, .unset, .unset, .unset, .unset, .unset, .unset, .unset, .unset, .unset, .unset, .unset, .unset, .unset, .unset, .unset]) (hb hby at_145) rfl ?_
              show Go p_ e_ below _ _ T12 (mkF m_ 147 #[.val (.int p0), .val (.int p1), .val (.int p2), .val (.int p3), .val (.int p4), .val (.int p5), .val (.int las), .val (.int lao), .val (.int lak), .val (.int ss), .val (.int so), .val (.int sk), .val (.int lbs), .val (.int lbo), .val (.int lbk), .val (.int ((p0 &&& (255 : Int32)).toUInt32.toUInt16.toUInt32.toInt32)), .unset, .unset, .unset, .unset, .unset, .unset, .unset, .unset, .unset, .unset, .unset, .unset, .unset, .unset, .unset, .unset, .unset, .unset, .unset, .unset, .unset, .unset] [])
              obtain ⟨as0, q_as0⟩ : ∃ z, z = ((p0 &&& (255 : Int32)).toUInt32.toUInt16.toUInt32.toInt32) := ⟨_, rfl⟩
              rw [← q_as0]
              have r_as0 : 0 ≤ as0.toInt ∧ as0.toInt ≤ 255 := by rw [q_as0]; exact (own_c8 _)
              clear q_as0
              show Go p_ e_ below _ _ T12 (mkF m_ 147 #[.val (.int p0), .val (.int p1), .val (.int p2), .val (.int p3), .val (.int p4), .val (.int p5), .val (.int las), .val (.int lao), .val (.int lak), .val (.int ss), .val (.int so), .val (.int sk), .val (.int lbs), .val (.int lbo), .val (.int lbk), .val (.int as0), .unset, .unset, .unset, .unset, .unset, .unset, .unset, .unset, .unset, .unset, .unset, .unset, .unset, .unset, .unset, .unset, .unset, .unset, .unset, .unset, .unset, .unset] [])
              refine Go.iloadN X12 hx (hb hby at_147) rfl ?_
              refine Go.bipush X12 hx (8 : Int32) (hb hby at_148) rfl ?_
              refine Go.iushr X12 hx (hb hby at_150) ?_
              refine Go.sipush X12 hx (255 : Int32) (hb hby at_151) rfl ?_
              refine Go.iand X12 hx (hb hby at_154) ?_
              refine Go.i2c X12 hx (hb hby at_155) ?_
              refine Go.istore X12 hx (l' := #[.val (.int p0), .val (.int p1), .val (.int p2), .val (.int p3), .val (.int p4), .val (.int p5), .val (.int las), .val (.int lao), .val (.int lak), .val (.int ss), .val (.int so), .val (.int sk), .val (.int lbs), .val (.int lbo), .val (.int lbk), .val (.int as0), .val (.int ((((p0.toUInt32 >>> ((8 : Int32) &&& 31).toUInt32).toInt32) &&& (255 : Int32)).toUInt32.toUInt16.toUInt32.toInt32)), .unset, .unset, .unset, .unset, .unset, .unset, .unset, .unset, .unset, .unset, .unset, .unset, .unset, .unset, .unset, .unset, .unset, .unset, .unset, .unset, .unset]) (hb hby at_156) rfl ?_
              show Go p_ e_ below _ _ T12 (mkF m_ 158 #[.val (.int p0), .val (.int p1), .val (.int p2), .val (.int p3), .val (.int p4), .val (.int p5), .val (.int las), .val (.int lao), .val (.int lak), .val (.int ss), .val (.int so), .val (.int sk), .val (.int lbs), .val (.int lbo), .val (.int lbk), .val (.int as0), .val (.int ((((p0.toUInt32 >>> ((8 : Int32) &&& 31).toUInt32).toInt32) &&& (255 : Int32)).toUInt32.toUInt16.toUInt32.toInt32)), .unset, .unset, .unset, .unset, .unset, .unset, .unset, .unset, .unset, .unset, .unset, .unset, .unset, .unset, .unset, .unset, .unset, .unset, .unset, .unset, .unset] [])
              obtain ⟨as1, q_as1⟩ : ∃ z, z = ((((p0.toUInt32 >>> ((8 : Int32) &&& 31).toUInt32).toInt32) &&& (255 : Int32)).toUInt32.toUInt16.toUInt32.toInt32) := ⟨_, rfl⟩
              rw [← q_as1]
              have r_as1 : 0 ≤ as1.toInt ∧ as1.toInt ≤ 255 := by rw [q_as1]; exact (own_c8 _)
              clear q_as1
              have j13 : ∀ (T14 : State) (l14 : List Loc) (bs0 : Int32), Stand p_ l e_ room_1 (s_.setVm s_.vm) m_ #[(.int p0), (.int p1), (.int p2), (.int p3), (.int p4), (.int p5)] below meth c_ T14 l14 0 0 → Fr n0 l14 → T14.heap = h0 → (0 ≤ bs0.toInt ∧ bs0.toInt ≤ 255) → Go p_ e_ below (WE s_ room_1.cells room_1.slots) (Q0 Z p0 p1 p2 p3 p4 p5 zc fm h0 n0) T14 (mkF m_ 177 #[.val (.int p0), .val (.int p1), .val (.int p2), .val (.int p3), .val (.int p4), .val (.int p5), .val (.int las), .val (.int lao), .val (.int lak), .val (.int ss), .val (.int so), .val (.int sk), .val (.int lbs), .val (.int lbo), .val (.int lbk), .val (.int as0), .val (.int as1), .unset, .unset, .unset, .unset, .unset, .unset, .unset, .unset, .unset, .unset, .unset, .unset, .unset, .unset, .unset, .unset, .unset, .unset, .unset, .unset, .unset] [(.int bs0)]) := by
                intro T14 l14 bs0 X14 N14 e14  h_j13_0
                have r_bs0 := h_j13_0
                show Go p_ e_ below _ _ T14 (mkF m_ 177 #[.val (.int p0), .val (.int p1), .val (.int p2), .val (.int p3), .val (.int p4), .val (.int p5), .val (.int las), .val (.int lao), .val (.int lak), .val (.int ss), .val (.int so), .val (.int sk), .val (.int lbs), .val (.int lbo), .val (.int lbk), .val (.int as0), .val (.int as1), .unset, .unset, .unset, .unset, .unset, .unset, .unset, .unset, .unset, .unset, .unset, .unset, .unset, .unset, .unset, .unset, .unset, .unset, .unset, .unset, .unset] [(.int bs0)])
                refine Go.istore X14 hx (l' := #[.val (.int p0), .val (.int p1), .val (.int p2), .val (.int p3), .val (.int p4), .val (.int p5), .val (.int las), .val (.int lao), .val (.int lak), .val (.int ss), .val (.int so), .val (.int sk), .val (.int lbs), .val (.int lbo), .val (.int lbk), .val (.int as0), .val (.int as1), .val (.int bs0), .unset, .unset, .unset, .unset, .unset, .unset, .unset, .unset, .unset, .unset, .unset, .unset, .unset, .unset, .unset, .unset, .unset, .unset, .unset, .unset]) (hb hby at_177) rfl ?_
                have j15 : ∀ (T16 : State) (l16 : List Loc) (bs1 : Int32), Stand p_ l e_ room_1 (s_.setVm s_.vm) m_ #[(.int p0), (.int p1), (.int p2), (.int p3), (.int p4), (.int p5)] below meth c_ T16 l16 0 0 → Fr n0 l16 → T16.heap = h0 → (0 ≤ bs1.toInt ∧ bs1.toInt ≤ 255) → Go p_ e_ below (WE s_ room_1.cells room_1.slots) (Q0 Z p0 p1 p2 p3 p4 p5 zc fm h0 n0) T16 (mkF m_ 201 #[.val (.int p0), .val (.int p1), .val (.int p2), .val (.int p3), .val (.int p4), .val (.int p5), .val (.int las), .val (.int lao), .val (.int lak), .val (.int ss), .val (.int so), .val (.int sk), .val (.int lbs), .val (.int lbo), .val (.int lbk), .val (.int as0), .val (.int as1), .val (.int bs0), .unset, .unset, .unset, .unset, .unset, .unset, .unset, .unset, .unset, .unset, .unset, .unset, .unset, .unset, .unset, .unset, .unset, .unset, .unset, .unset] [(.int bs1)]) := by
                  intro T16 l16 bs1 X16 N16 e16  h_j15_0
                  have r_bs1 := h_j15_0
                  show Go p_ e_ below _ _ T16 (mkF m_ 201 #[.val (.int p0), .val (.int p1), .val (.int p2), .val (.int p3), .val (.int p4), .val (.int p5), .val (.int las), .val (.int lao), .val (.int lak), .val (.int ss), .val (.int so), .val (.int sk), .val (.int lbs), .val (.int lbo), .val (.int lbk), .val (.int as0), .val (.int as1), .val (.int bs0), .unset, .unset, .unset, .unset, .unset, .unset, .unset, .unset, .unset, .unset, .unset, .unset, .unset, .unset, .unset, .unset, .unset, .unset, .unset, .unset] [(.int bs1)])
                  refine Go.istore X16 hx (l' := #[.val (.int p0), .val (.int p1), .val (.int p2), .val (.int p3), .val (.int p4), .val (.int p5), .val (.int las), .val (.int lao), .val (.int lak), .val (.int ss), .val (.int so), .val (.int sk), .val (.int lbs), .val (.int lbo), .val (.int lbk), .val (.int as0), .val (.int as1), .val (.int bs0), .val (.int bs1), .unset, .unset, .unset, .unset, .unset, .unset, .unset, .unset, .unset, .unset, .unset, .unset, .unset, .unset, .unset, .unset, .unset, .unset, .unset]) (hb hby at_201) rfl ?_
                  refine Go.iloadN X16 hx (hb hby at_203) rfl ?_
                  refine Go.sipush X16 hx (255 : Int32) (hb hby at_204) rfl ?_
                  refine Go.iand X16 hx (hb hby at_207) ?_
                  refine Go.i2c X16 hx (hb hby at_208) ?_
                  refine Go.istore X16 hx (l' := #[.val (.int p0), .val (.int p1), .val (.int p2), .val (.int p3), .val (.int p4), .val (.int p5), .val (.int las), .val (.int lao), .val (.int lak), .val (.int ss), .val (.int so), .val (.int sk), .val (.int lbs), .val (.int lbo), .val (.int lbk), .val (.int as0), .val (.int as1), .val (.int bs0), .val (.int bs1), .val (.int ((p1 &&& (255 : Int32)).toUInt32.toUInt16.toUInt32.toInt32)), .unset, .unset, .unset, .unset, .unset, .unset, .unset, .unset, .unset, .unset, .unset, .unset, .unset, .unset, .unset, .unset, .unset, .unset]) (hb hby at_209) rfl ?_
                  show Go p_ e_ below _ _ T16 (mkF m_ 211 #[.val (.int p0), .val (.int p1), .val (.int p2), .val (.int p3), .val (.int p4), .val (.int p5), .val (.int las), .val (.int lao), .val (.int lak), .val (.int ss), .val (.int so), .val (.int sk), .val (.int lbs), .val (.int lbo), .val (.int lbk), .val (.int as0), .val (.int as1), .val (.int bs0), .val (.int bs1), .val (.int ((p1 &&& (255 : Int32)).toUInt32.toUInt16.toUInt32.toInt32)), .unset, .unset, .unset, .unset, .unset, .unset, .unset, .unset, .unset, .unset, .unset, .unset, .unset, .unset, .unset, .unset, .unset, .unset] [])
                  obtain ⟨ao0, q_ao0⟩ : ∃ z, z = ((p1 &&& (255 : Int32)).toUInt32.toUInt16.toUInt32.toInt32) := ⟨_, rfl⟩
                  rw [← q_ao0]
                  have r_ao0 : 0 ≤ ao0.toInt ∧ ao0.toInt ≤ 255 := by rw [q_ao0]; exact (own_c8 _)
                  clear q_ao0
                  show Go p_ e_ below _ _ T16 (mkF m_ 211 #[.val (.int p0), .val (.int p1), .val (.int p2), .val (.int p3), .val (.int p4), .val (.int p5), .val (.int las), .val (.int lao), .val (.int lak), .val (.int ss), .val (.int so), .val (.int sk), .val (.int lbs), .val (.int lbo), .val (.int lbk), .val (.int as0), .val (.int as1), .val (.int bs0), .val (.int bs1), .val (.int ao0), .unset, .unset, .unset, .unset, .unset, .unset, .unset, .unset, .unset, .unset, .unset, .unset, .unset, .unset, .unset, .unset, .unset, .unset] [])
                  refine Go.iloadN X16 hx (hb hby at_211) rfl ?_
                  refine Go.bipush X16 hx (8 : Int32) (hb hby at_212) rfl ?_
                  refine Go.iushr X16 hx (hb hby at_214) ?_
                  refine Go.sipush X16 hx (255 : Int32) (hb hby at_215) rfl ?_
                  refine Go.iand X16 hx (hb hby at_218) ?_
                  refine Go.i2c X16 hx (hb hby at_219) ?_
                  refine Go.istore X16 hx (l' := #[.val (.int p0), .val (.int p1), .val (.int p2), .val (.int p3), .val (.int p4), .val (.int p5), .val (.int las), .val (.int lao), .val (.int lak), .val (.int ss), .val (.int so), .val (.int sk), .val (.int lbs), .val (.int lbo), .val (.int lbk), .val (.int as0), .val (.int as1), .val (.int bs0), .val (.int bs1), .val (.int ao0), .val (.int ((((p1.toUInt32 >>> ((8 : Int32) &&& 31).toUInt32).toInt32) &&& (255 : Int32)).toUInt32.toUInt16.toUInt32.toInt32)), .unset, .unset, .unset, .unset, .unset, .unset, .unset, .unset, .unset, .unset, .unset, .unset, .unset, .unset, .unset, .unset, .unset]) (hb hby at_220) rfl ?_
                  show Go p_ e_ below _ _ T16 (mkF m_ 222 #[.val (.int p0), .val (.int p1), .val (.int p2), .val (.int p3), .val (.int p4), .val (.int p5), .val (.int las), .val (.int lao), .val (.int lak), .val (.int ss), .val (.int so), .val (.int sk), .val (.int lbs), .val (.int lbo), .val (.int lbk), .val (.int as0), .val (.int as1), .val (.int bs0), .val (.int bs1), .val (.int ao0), .val (.int ((((p1.toUInt32 >>> ((8 : Int32) &&& 31).toUInt32).toInt32) &&& (255 : Int32)).toUInt32.toUInt16.toUInt32.toInt32)), .unset, .unset, .unset, .unset, .unset, .unset, .unset, .unset, .unset, .unset, .unset, .unset, .unset, .unset, .unset, .unset, .unset] [])
                  obtain ⟨ao1, q_ao1⟩ : ∃ z, z = ((((p1.toUInt32 >>> ((8 : Int32) &&& 31).toUInt32).toInt32) &&& (255 : Int32)).toUInt32.toUInt16.toUInt32.toInt32) := ⟨_, rfl⟩
                  rw [← q_ao1]
                  have r_ao1 : 0 ≤ ao1.toInt ∧ ao1.toInt ≤ 255 := by rw [q_ao1]; exact (own_c8 _)
                  clear q_ao1
                  have j17 : ∀ (T18 : State) (l18 : List Loc) (bo0 : Int32), Stand p_ l e_ room_1 (s_.setVm s_.vm) m_ #[(.int p0), (.int p1), (.int p2), (.int p3), (.int p4), (.int p5)] below meth c_ T18 l18 0 0 → Fr n0 l18 → T18.heap = h0 → (0 ≤ bo0.toInt ∧ bo0.toInt ≤ 255) → Go p_ e_ below (WE s_ room_1.cells room_1.slots) (Q0 Z p0 p1 p2 p3 p4 p5 zc fm h0 n0) T18 (mkF m_ 244 #[.val (.int p0), .val (.int p1), .val (.int p2), .val (.int p3), .val (.int p4), .val (.int p5), .val (.int las), .val (.int lao), .val (.int lak), .val (.int ss), .val (.int so), .val (.int sk), .val (.int lbs), .val (.int lbo), .val (.int lbk), .val (.int as0), .val (.int as1), .val (.int bs0), .val (.int bs1), .val (.int ao0), .val (.int ao1), .unset, .unset, .unset, .unset, .unset, .unset, .unset, .unset, .unset, .unset, .unset, .unset, .unset, .unset, .unset, .unset, .unset] [(.int bo0)]) := by
                    intro T18 l18 bo0 X18 N18 e18  h_j17_0
                    have r_bo0 := h_j17_0
                    show Go p_ e_ below _ _ T18 (mkF m_ 244 #[.val (.int p0), .val (.int p1), .val (.int p2), .val (.int p3), .val (.int p4), .val (.int p5), .val (.int las), .val (.int lao), .val (.int lak), .val (.int ss), .val (.int so), .val (.int sk), .val (.int lbs), .val (.int lbo), .val (.int lbk), .val (.int as0), .val (.int as1), .val (.int bs0), .val (.int bs1), .val (.int ao0), .val (.int ao1), .unset, .unset, .unset, .unset, .unset, .unset, .unset, .unset, .unset, .unset, .unset, .unset, .unset, .unset, .unset, .unset, .unset] [(.int bo0)])
                    refine Go.istore X18 hx (l' := #[.val (.int p0), .val (.int p1), .val (.int p2), .val (.int p3), .val (.int p4), .val (.int p5), .val (.int las), .val (.int lao), .val (.int lak), .val (.int ss), .val (.int so), .val (.int sk), .val (.int lbs), .val (.int lbo), .val (.int lbk), .val (.int as0), .val (.int as1), .val (.int bs0), .val (.int bs1), .val (.int ao0), .val (.int ao1), .val (.int bo0), .unset, .unset, .unset, .unset, .unset, .unset, .unset, .unset, .unset, .unset, .unset, .unset, .unset, .unset, .unset, .unset]) (hb hby at_244) rfl ?_
                    have j19 : ∀ (T20 : State) (l20 : List Loc) (bo1 : Int32), Stand p_ l e_ room_1 (s_.setVm s_.vm) m_ #[(.int p0), (.int p1), (.int p2), (.int p3), (.int p4), (.int p5)] below meth c_ T20 l20 0 0 → Fr n0 l20 → T20.heap = h0 → (0 ≤ bo1.toInt ∧ bo1.toInt ≤ 255) → Go p_ e_ below (WE s_ room_1.cells room_1.slots) (Q0 Z p0 p1 p2 p3 p4 p5 zc fm h0 n0) T20 (mkF m_ 268 #[.val (.int p0), .val (.int p1), .val (.int p2), .val (.int p3), .val (.int p4), .val (.int p5), .val (.int las), .val (.int lao), .val (.int lak), .val (.int ss), .val (.int so), .val (.int sk), .val (.int lbs), .val (.int lbo), .val (.int lbk), .val (.int as0), .val (.int as1), .val (.int bs0), .val (.int bs1), .val (.int ao0), .val (.int ao1), .val (.int bo0), .unset, .unset, .unset, .unset, .unset, .unset, .unset, .unset, .unset, .unset, .unset, .unset, .unset, .unset, .unset, .unset] [(.int bo1)]) := by
                      intro T20 l20 bo1 X20 N20 e20  h_j19_0
                      have r_bo1 := h_j19_0
                      show Go p_ e_ below _ _ T20 (mkF m_ 268 #[.val (.int p0), .val (.int p1), .val (.int p2), .val (.int p3), .val (.int p4), .val (.int p5), .val (.int las), .val (.int lao), .val (.int lak), .val (.int ss), .val (.int so), .val (.int sk), .val (.int lbs), .val (.int lbo), .val (.int lbk), .val (.int as0), .val (.int as1), .val (.int bs0), .val (.int bs1), .val (.int ao0), .val (.int ao1), .val (.int bo0), .unset, .unset, .unset, .unset, .unset, .unset, .unset, .unset, .unset, .unset, .unset, .unset, .unset, .unset, .unset, .unset] [(.int bo1)])
                      refine Go.istore X20 hx (l' := #[.val (.int p0), .val (.int p1), .val (.int p2), .val (.int p3), .val (.int p4), .val (.int p5), .val (.int las), .val (.int lao), .val (.int lak), .val (.int ss), .val (.int so), .val (.int sk), .val (.int lbs), .val (.int lbo), .val (.int lbk), .val (.int as0), .val (.int as1), .val (.int bs0), .val (.int bs1), .val (.int ao0), .val (.int ao1), .val (.int bo0), .val (.int bo1), .unset, .unset, .unset, .unset, .unset, .unset, .unset, .unset, .unset, .unset, .unset, .unset, .unset, .unset, .unset]) (hb hby at_268) rfl ?_
                      refine Go.iloadN X20 hx (hb hby at_270) rfl ?_
                      refine Go.bipush X20 hx (127 : Int32) (hb hby at_271) rfl ?_
                      refine Go.iand X20 hx (hb hby at_273) ?_
                      refine Go.bipush X20 hx (95 : Int32) (hb hby at_274) rfl ?_
                      refine Go.irem X20 hx (hb hby at_276) (by decide) ?_
                      refine Go.istore X20 hx (l' := #[.val (.int p0), .val (.int p1), .val (.int p2), .val (.int p3), .val (.int p4), .val (.int p5), .val (.int las), .val (.int lao), .val (.int lak), .val (.int ss), .val (.int so), .val (.int sk), .val (.int lbs), .val (.int lbo), .val (.int lbk), .val (.int as0), .val (.int as1), .val (.int bs0), .val (.int bs1), .val (.int ao0), .val (.int ao1), .val (.int bo0), .val (.int bo1), .val (.int ((p2 &&& (127 : Int32)) % (95 : Int32))), .unset, .unset, .unset, .unset, .unset, .unset, .unset, .unset, .unset, .unset, .unset, .unset, .unset, .unset]) (hb hby at_277) rfl ?_
                      show Go p_ e_ below _ _ T20 (mkF m_ 279 #[.val (.int p0), .val (.int p1), .val (.int p2), .val (.int p3), .val (.int p4), .val (.int p5), .val (.int las), .val (.int lao), .val (.int lak), .val (.int ss), .val (.int so), .val (.int sk), .val (.int lbs), .val (.int lbo), .val (.int lbk), .val (.int as0), .val (.int as1), .val (.int bs0), .val (.int bs1), .val (.int ao0), .val (.int ao1), .val (.int bo0), .val (.int bo1), .val (.int ((p2 &&& (127 : Int32)) % (95 : Int32))), .unset, .unset, .unset, .unset, .unset, .unset, .unset, .unset, .unset, .unset, .unset, .unset, .unset, .unset] [])
                      obtain ⟨ka0, q_ka0⟩ : ∃ z, z = ((p2 &&& (127 : Int32)) % (95 : Int32)) := ⟨_, rfl⟩
                      rw [← q_ka0]
                      have r_ka0 : 0 ≤ ka0.toInt ∧ ka0.toInt ≤ 94 := by rw [q_ka0]; exact (own_95 _)
                      clear q_ka0
                      show Go p_ e_ below _ _ T20 (mkF m_ 279 #[.val (.int p0), .val (.int p1), .val (.int p2), .val (.int p3), .val (.int p4), .val (.int p5), .val (.int las), .val (.int lao), .val (.int lak), .val (.int ss), .val (.int so), .val (.int sk), .val (.int lbs), .val (.int lbo), .val (.int lbk), .val (.int as0), .val (.int as1), .val (.int bs0), .val (.int bs1), .val (.int ao0), .val (.int ao1), .val (.int bo0), .val (.int bo1), .val (.int ka0), .unset, .unset, .unset, .unset, .unset, .unset, .unset, .unset, .unset, .unset, .unset, .unset, .unset, .unset] [])
                      refine Go.iloadN X20 hx (hb hby at_279) rfl ?_
                      refine Go.bipush X20 hx (8 : Int32) (hb hby at_280) rfl ?_
                      refine Go.iushr X20 hx (hb hby at_282) ?_
                      refine Go.bipush X20 hx (127 : Int32) (hb hby at_283) rfl ?_
                      refine Go.iand X20 hx (hb hby at_285) ?_
                      refine Go.bipush X20 hx (95 : Int32) (hb hby at_286) rfl ?_
                      refine Go.irem X20 hx (hb hby at_288) (by decide) ?_
                      refine Go.istore X20 hx (l' := #[.val (.int p0), .val (.int p1), .val (.int p2), .val (.int p3), .val (.int p4), .val (.int p5), .val (.int las), .val (.int lao), .val (.int lak), .val (.int ss), .val (.int so), .val (.int sk), .val (.int lbs), .val (.int lbo), .val (.int lbk), .val (.int as0), .val (.int as1), .val (.int bs0), .val (.int bs1), .val (.int ao0), .val (.int ao1), .val (.int bo0), .val (.int bo1), .val (.int ka0), .val (.int ((((p2.toUInt32 >>> ((8 : Int32) &&& 31).toUInt32).toInt32) &&& (127 : Int32)) % (95 : Int32))), .unset, .unset, .unset, .unset, .unset, .unset, .unset, .unset, .unset, .unset, .unset, .unset, .unset]) (hb hby at_289) rfl ?_
                      show Go p_ e_ below _ _ T20 (mkF m_ 291 #[.val (.int p0), .val (.int p1), .val (.int p2), .val (.int p3), .val (.int p4), .val (.int p5), .val (.int las), .val (.int lao), .val (.int lak), .val (.int ss), .val (.int so), .val (.int sk), .val (.int lbs), .val (.int lbo), .val (.int lbk), .val (.int as0), .val (.int as1), .val (.int bs0), .val (.int bs1), .val (.int ao0), .val (.int ao1), .val (.int bo0), .val (.int bo1), .val (.int ka0), .val (.int ((((p2.toUInt32 >>> ((8 : Int32) &&& 31).toUInt32).toInt32) &&& (127 : Int32)) % (95 : Int32))), .unset, .unset, .unset, .unset, .unset, .unset, .unset, .unset, .unset, .unset, .unset, .unset, .unset] [])
                      obtain ⟨ka1, q_ka1⟩ : ∃ z, z = ((((p2.toUInt32 >>> ((8 : Int32) &&& 31).toUInt32).toInt32) &&& (127 : Int32)) % (95 : Int32)) := ⟨_, rfl⟩
                      rw [← q_ka1]
                      have r_ka1 : 0 ≤ ka1.toInt ∧ ka1.toInt ≤ 94 := by rw [q_ka1]; exact (own_95 _)
                      clear q_ka1
                      have j21 : ∀ (T22 : State) (l22 : List Loc) (kb0 : Int32), Stand p_ l e_ room_1 (s_.setVm s_.vm) m_ #[(.int p0), (.int p1), (.int p2), (.int p3), (.int p4), (.int p5)] below meth c_ T22 l22 0 0 → Fr n0 l22 → T22.heap = h0 → (0 ≤ kb0.toInt ∧ kb0.toInt ≤ 94) → Go p_ e_ below (WE s_ room_1.cells room_1.slots) (Q0 Z p0 p1 p2 p3 p4 p5 zc fm h0 n0) T22 (mkF m_ 315 #[.val (.int p0), .val (.int p1), .val (.int p2), .val (.int p3), .val (.int p4), .val (.int p5), .val (.int las), .val (.int lao), .val (.int lak), .val (.int ss), .val (.int so), .val (.int sk), .val (.int lbs), .val (.int lbo), .val (.int lbk), .val (.int as0), .val (.int as1), .val (.int bs0), .val (.int bs1), .val (.int ao0), .val (.int ao1), .val (.int bo0), .val (.int bo1), .val (.int ka0), .val (.int ka1), .unset, .unset, .unset, .unset, .unset, .unset, .unset, .unset, .unset, .unset, .unset, .unset, .unset] [(.int kb0)]) := by
                        intro T22 l22 kb0 X22 N22 e22  h_j21_0
                        have r_kb0 := h_j21_0
                        show Go p_ e_ below _ _ T22 (mkF m_ 315 #[.val (.int p0), .val (.int p1), .val (.int p2), .val (.int p3), .val (.int p4), .val (.int p5), .val (.int las), .val (.int lao), .val (.int lak), .val (.int ss), .val (.int so), .val (.int sk), .val (.int lbs), .val (.int lbo), .val (.int lbk), .val (.int as0), .val (.int as1), .val (.int bs0), .val (.int bs1), .val (.int ao0), .val (.int ao1), .val (.int bo0), .val (.int bo1), .val (.int ka0), .val (.int ka1), .unset, .unset, .unset, .unset, .unset, .unset, .unset, .unset, .unset, .unset, .unset, .unset, .unset] [(.int kb0)])
                        refine Go.istore X22 hx (l' := #[.val (.int p0), .val (.int p1), .val (.int p2), .val (.int p3), .val (.int p4), .val (.int p5), .val (.int las), .val (.int lao), .val (.int lak), .val (.int ss), .val (.int so), .val (.int sk), .val (.int lbs), .val (.int lbo), .val (.int lbk), .val (.int as0), .val (.int as1), .val (.int bs0), .val (.int bs1), .val (.int ao0), .val (.int ao1), .val (.int bo0), .val (.int bo1), .val (.int ka0), .val (.int ka1), .val (.int kb0), .unset, .unset, .unset, .unset, .unset, .unset, .unset, .unset, .unset, .unset, .unset, .unset]) (hb hby at_315) rfl ?_
                        have j23 : ∀ (T24 : State) (l24 : List Loc) (kb1 : Int32), Stand p_ l e_ room_1 (s_.setVm s_.vm) m_ #[(.int p0), (.int p1), (.int p2), (.int p3), (.int p4), (.int p5)] below meth c_ T24 l24 0 0 → Fr n0 l24 → T24.heap = h0 → (0 ≤ kb1.toInt ∧ kb1.toInt ≤ 94) → Go p_ e_ below (WE s_ room_1.cells room_1.slots) (Q0 Z p0 p1 p2 p3 p4 p5 zc fm h0 n0) T24 (mkF m_ 344 #[.val (.int p0), .val (.int p1), .val (.int p2), .val (.int p3), .val (.int p4), .val (.int p5), .val (.int las), .val (.int lao), .val (.int lak), .val (.int ss), .val (.int so), .val (.int sk), .val (.int lbs), .val (.int lbo), .val (.int lbk), .val (.int as0), .val (.int as1), .val (.int bs0), .val (.int bs1), .val (.int ao0), .val (.int ao1), .val (.int bo0), .val (.int bo1), .val (.int ka0), .val (.int ka1), .val (.int kb0), .unset, .unset, .unset, .unset, .unset, .unset, .unset, .unset, .unset, .unset, .unset, .unset] [(.int kb1)]) := by
                          intro T24 l24 kb1 X24 N24 e24  h_j23_0
                          have r_kb1 := h_j23_0
                          show Go p_ e_ below _ _ T24 (mkF m_ 344 #[.val (.int p0), .val (.int p1), .val (.int p2), .val (.int p3), .val (.int p4), .val (.int p5), .val (.int las), .val (.int lao), .val (.int lak), .val (.int ss), .val (.int so), .val (.int sk), .val (.int lbs), .val (.int lbo), .val (.int lbk), .val (.int as0), .val (.int as1), .val (.int bs0), .val (.int bs1), .val (.int ao0), .val (.int ao1), .val (.int bo0), .val (.int bo1), .val (.int ka0), .val (.int ka1), .val (.int kb0), .unset, .unset, .unset, .unset, .unset, .unset, .unset, .unset, .unset, .unset, .unset, .unset] [(.int kb1)])
                          refine Go.istore X24 hx (l' := #[.val (.int p0), .val (.int p1), .val (.int p2), .val (.int p3), .val (.int p4), .val (.int p5), .val (.int las), .val (.int lao), .val (.int lak), .val (.int ss), .val (.int so), .val (.int sk), .val (.int lbs), .val (.int lbo), .val (.int lbk), .val (.int as0), .val (.int as1), .val (.int bs0), .val (.int bs1), .val (.int ao0), .val (.int ao1), .val (.int bo0), .val (.int bo1), .val (.int ka0), .val (.int ka1), .val (.int kb0), .val (.int kb1), .unset, .unset, .unset, .unset, .unset, .unset, .unset, .unset, .unset, .unset, .unset]) (hb hby at_344) rfl ?_
                          refine Go.bipush X24 hx (32 : Int32) (hb hby at_346) rfl ?_
                          refine Go.iload X24 hx (hb hby at_348) rfl ?_
                          refine Go.iadd X24 hx (hb hby at_350) ?_
                          refine Go.i2c X24 hx (hb hby at_351) ?_
                          refine Go.istore X24 hx (l' := #[.val (.int p0), .val (.int p1), .val (.int p2), .val (.int p3), .val (.int p4), .val (.int p5), .val (.int las), .val (.int lao), .val (.int lak), .val (.int ss), .val (.int so), .val (.int sk), .val (.int lbs), .val (.int lbo), .val (.int lbk), .val (.int as0), .val (.int as1), .val (.int bs0), .val (.int bs1), .val (.int ao0), .val (.int ao1), .val (.int bo0), .val (.int bo1), .val (.int ka0), .val (.int ka1), .val (.int kb0), .val (.int kb1), .val (.int (((32 : Int32) + ka0).toUInt32.toUInt16.toUInt32.toInt32)), .unset, .unset, .unset, .unset, .unset, .unset, .unset, .unset, .unset, .unset]) (hb hby at_352) rfl ?_
                          show Go p_ e_ below _ _ T24 (mkF m_ 354 #[.val (.int p0), .val (.int p1), .val (.int p2), .val (.int p3), .val (.int p4), .val (.int p5), .val (.int las), .val (.int lao), .val (.int lak), .val (.int ss), .val (.int so), .val (.int sk), .val (.int lbs), .val (.int lbo), .val (.int lbk), .val (.int as0), .val (.int as1), .val (.int bs0), .val (.int bs1), .val (.int ao0), .val (.int ao1), .val (.int bo0), .val (.int bo1), .val (.int ka0), .val (.int ka1), .val (.int kb0), .val (.int kb1), .val (.int (((32 : Int32) + ka0).toUInt32.toUInt16.toUInt32.toInt32)), .unset, .unset, .unset, .unset, .unset, .unset, .unset, .unset, .unset, .unset] [])
                          obtain ⟨ak0, q_ak0⟩ : ∃ z, z = (((32 : Int32) + ka0).toUInt32.toUInt16.toUInt32.toInt32) := ⟨_, rfl⟩
                          rw [← q_ak0]
                          have r_ak0 : 32 ≤ ak0.toInt ∧ ak0.toInt ≤ 126 := by rw [q_ak0]; exact (own_32 r_ka0)
                          clear q_ak0
                          show Go p_ e_ below _ _ T24 (mkF m_ 354 #[.val (.int p0), .val (.int p1), .val (.int p2), .val (.int p3), .val (.int p4), .val (.int p5), .val (.int las), .val (.int lao), .val (.int lak), .val (.int ss), .val (.int so), .val (.int sk), .val (.int lbs), .val (.int lbo), .val (.int lbk), .val (.int as0), .val (.int as1), .val (.int bs0), .val (.int bs1), .val (.int ao0), .val (.int ao1), .val (.int bo0), .val (.int bo1), .val (.int ka0), .val (.int ka1), .val (.int kb0), .val (.int kb1), .val (.int ak0), .unset, .unset, .unset, .unset, .unset, .unset, .unset, .unset, .unset, .unset] [])
                          refine Go.bipush X24 hx (32 : Int32) (hb hby at_354) rfl ?_
                          refine Go.iload X24 hx (hb hby at_356) rfl ?_
                          refine Go.iadd X24 hx (hb hby at_358) ?_
                          refine Go.i2c X24 hx (hb hby at_359) ?_
                          refine Go.istore X24 hx (l' := #[.val (.int p0), .val (.int p1), .val (.int p2), .val (.int p3), .val (.int p4), .val (.int p5), .val (.int las), .val (.int lao), .val (.int lak), .val (.int ss), .val (.int so), .val (.int sk), .val (.int lbs), .val (.int lbo), .val (.int lbk), .val (.int as0), .val (.int as1), .val (.int bs0), .val (.int bs1), .val (.int ao0), .val (.int ao1), .val (.int bo0), .val (.int bo1), .val (.int ka0), .val (.int ka1), .val (.int kb0), .val (.int kb1), .val (.int ak0), .val (.int (((32 : Int32) + ka1).toUInt32.toUInt16.toUInt32.toInt32)), .unset, .unset, .unset, .unset, .unset, .unset, .unset, .unset, .unset]) (hb hby at_360) rfl ?_
                          show Go p_ e_ below _ _ T24 (mkF m_ 362 #[.val (.int p0), .val (.int p1), .val (.int p2), .val (.int p3), .val (.int p4), .val (.int p5), .val (.int las), .val (.int lao), .val (.int lak), .val (.int ss), .val (.int so), .val (.int sk), .val (.int lbs), .val (.int lbo), .val (.int lbk), .val (.int as0), .val (.int as1), .val (.int bs0), .val (.int bs1), .val (.int ao0), .val (.int ao1), .val (.int bo0), .val (.int bo1), .val (.int ka0), .val (.int ka1), .val (.int kb0), .val (.int kb1), .val (.int ak0), .val (.int (((32 : Int32) + ka1).toUInt32.toUInt16.toUInt32.toInt32)), .unset, .unset, .unset, .unset, .unset, .unset, .unset, .unset, .unset] [])
                          obtain ⟨ak1, q_ak1⟩ : ∃ z, z = (((32 : Int32) + ka1).toUInt32.toUInt16.toUInt32.toInt32) := ⟨_, rfl⟩
                          rw [← q_ak1]
                          have r_ak1 : 32 ≤ ak1.toInt ∧ ak1.toInt ≤ 126 := by rw [q_ak1]; exact (own_32 r_ka1)
                          clear q_ak1
                          show Go p_ e_ below _ _ T24 (mkF m_ 362 #[.val (.int p0), .val (.int p1), .val (.int p2), .val (.int p3), .val (.int p4), .val (.int p5), .val (.int las), .val (.int lao), .val (.int lak), .val (.int ss), .val (.int so), .val (.int sk), .val (.int lbs), .val (.int lbo), .val (.int lbk), .val (.int as0), .val (.int as1), .val (.int bs0), .val (.int bs1), .val (.int ao0), .val (.int ao1), .val (.int bo0), .val (.int bo1), .val (.int ka0), .val (.int ka1), .val (.int kb0), .val (.int kb1), .val (.int ak0), .val (.int ak1), .unset, .unset, .unset, .unset, .unset, .unset, .unset, .unset, .unset] [])
                          refine Go.bipush X24 hx (32 : Int32) (hb hby at_362) rfl ?_
                          refine Go.iload X24 hx (hb hby at_364) rfl ?_
                          refine Go.iadd X24 hx (hb hby at_366) ?_
                          refine Go.i2c X24 hx (hb hby at_367) ?_
                          refine Go.istore X24 hx (l' := #[.val (.int p0), .val (.int p1), .val (.int p2), .val (.int p3), .val (.int p4), .val (.int p5), .val (.int las), .val (.int lao), .val (.int lak), .val (.int ss), .val (.int so), .val (.int sk), .val (.int lbs), .val (.int lbo), .val (.int lbk), .val (.int as0), .val (.int as1), .val (.int bs0), .val (.int bs1), .val (.int ao0), .val (.int ao1), .val (.int bo0), .val (.int bo1), .val (.int ka0), .val (.int ka1), .val (.int kb0), .val (.int kb1), .val (.int ak0), .val (.int ak1), .val (.int (((32 : Int32) + kb0).toUInt32.toUInt16.toUInt32.toInt32)), .unset, .unset, .unset, .unset, .unset, .unset, .unset, .unset]) (hb hby at_368) rfl ?_
                          show Go p_ e_ below _ _ T24 (mkF m_ 370 #[.val (.int p0), .val (.int p1), .val (.int p2), .val (.int p3), .val (.int p4), .val (.int p5), .val (.int las), .val (.int lao), .val (.int lak), .val (.int ss), .val (.int so), .val (.int sk), .val (.int lbs), .val (.int lbo), .val (.int lbk), .val (.int as0), .val (.int as1), .val (.int bs0), .val (.int bs1), .val (.int ao0), .val (.int ao1), .val (.int bo0), .val (.int bo1), .val (.int ka0), .val (.int ka1), .val (.int kb0), .val (.int kb1), .val (.int ak0), .val (.int ak1), .val (.int (((32 : Int32) + kb0).toUInt32.toUInt16.toUInt32.toInt32)), .unset, .unset, .unset, .unset, .unset, .unset, .unset, .unset] [])
                          obtain ⟨bk0, q_bk0⟩ : ∃ z, z = (((32 : Int32) + kb0).toUInt32.toUInt16.toUInt32.toInt32) := ⟨_, rfl⟩
                          rw [← q_bk0]
                          have r_bk0 : 32 ≤ bk0.toInt ∧ bk0.toInt ≤ 126 := by rw [q_bk0]; exact (own_32 r_kb0)
                          clear q_bk0
                          show Go p_ e_ below _ _ T24 (mkF m_ 370 #[.val (.int p0), .val (.int p1), .val (.int p2), .val (.int p3), .val (.int p4), .val (.int p5), .val (.int las), .val (.int lao), .val (.int lak), .val (.int ss), .val (.int so), .val (.int sk), .val (.int lbs), .val (.int lbo), .val (.int lbk), .val (.int as0), .val (.int as1), .val (.int bs0), .val (.int bs1), .val (.int ao0), .val (.int ao1), .val (.int bo0), .val (.int bo1), .val (.int ka0), .val (.int ka1), .val (.int kb0), .val (.int kb1), .val (.int ak0), .val (.int ak1), .val (.int bk0), .unset, .unset, .unset, .unset, .unset, .unset, .unset, .unset] [])
                          refine Go.bipush X24 hx (32 : Int32) (hb hby at_370) rfl ?_
                          refine Go.iload X24 hx (hb hby at_372) rfl ?_
                          refine Go.iadd X24 hx (hb hby at_374) ?_
                          refine Go.i2c X24 hx (hb hby at_375) ?_
                          refine Go.istore X24 hx (l' := #[.val (.int p0), .val (.int p1), .val (.int p2), .val (.int p3), .val (.int p4), .val (.int p5), .val (.int las), .val (.int lao), .val (.int lak), .val (.int ss), .val (.int so), .val (.int sk), .val (.int lbs), .val (.int lbo), .val (.int lbk), .val (.int as0), .val (.int as1), .val (.int bs0), .val (.int bs1), .val (.int ao0), .val (.int ao1), .val (.int bo0), .val (.int bo1), .val (.int ka0), .val (.int ka1), .val (.int kb0), .val (.int kb1), .val (.int ak0), .val (.int ak1), .val (.int bk0), .val (.int (((32 : Int32) + kb1).toUInt32.toUInt16.toUInt32.toInt32)), .unset, .unset, .unset, .unset, .unset, .unset, .unset]) (hb hby at_376) rfl ?_
                          show Go p_ e_ below _ _ T24 (mkF m_ 378 #[.val (.int p0), .val (.int p1), .val (.int p2), .val (.int p3), .val (.int p4), .val (.int p5), .val (.int las), .val (.int lao), .val (.int lak), .val (.int ss), .val (.int so), .val (.int sk), .val (.int lbs), .val (.int lbo), .val (.int lbk), .val (.int as0), .val (.int as1), .val (.int bs0), .val (.int bs1), .val (.int ao0), .val (.int ao1), .val (.int bo0), .val (.int bo1), .val (.int ka0), .val (.int ka1), .val (.int kb0), .val (.int kb1), .val (.int ak0), .val (.int ak1), .val (.int bk0), .val (.int (((32 : Int32) + kb1).toUInt32.toUInt16.toUInt32.toInt32)), .unset, .unset, .unset, .unset, .unset, .unset, .unset] [])
                          obtain ⟨bk1, q_bk1⟩ : ∃ z, z = (((32 : Int32) + kb1).toUInt32.toUInt16.toUInt32.toInt32) := ⟨_, rfl⟩
                          rw [← q_bk1]
                          have r_bk1 : 32 ≤ bk1.toInt ∧ bk1.toInt ≤ 126 := by rw [q_bk1]; exact (own_32 r_kb1)
                          clear q_bk1
                          show Go p_ e_ below _ _ T24 (mkF m_ 378 #[.val (.int p0), .val (.int p1), .val (.int p2), .val (.int p3), .val (.int p4), .val (.int p5), .val (.int las), .val (.int lao), .val (.int lak), .val (.int ss), .val (.int so), .val (.int sk), .val (.int lbs), .val (.int lbo), .val (.int lbk), .val (.int as0), .val (.int as1), .val (.int bs0), .val (.int bs1), .val (.int ao0), .val (.int ao1), .val (.int bo0), .val (.int bo1), .val (.int ka0), .val (.int ka1), .val (.int kb0), .val (.int kb1), .val (.int ak0), .val (.int ak1), .val (.int bk0), .val (.int bk1), .unset, .unset, .unset, .unset, .unset, .unset, .unset] [])
                          refine Go.newO X24 hx hZ hown (hw _ (List.mem_of_getElem? (i := 0) rfl)) (hw _ (List.mem_of_getElem? (i := 1) rfl)) (hw _ (List.mem_of_getElem? (i := 2) rfl)) e24 (hb hby at_378) (by decide) (by decide) ?_
                          intro T25 h25 b25 zq25 X25 e25 E25 A25 D25
                          have g_b25 : n0 ≤ b25 := Nat.le_trans Z0 (Nat.le_of_eq zq25.symm)
                          have Z25 : n0 ≤ h25.size := Nat.le_trans Z0 E25.1
                          have hk25 : _ ≤ h25.size := Nat.le_trans hk E25.1
                          have O_25_ := O.ext E25
                          have F_b25_value : Fld Z h25 b25 "com/example/safe_retries/saferetries/identity/IdempotencyKey" "value" "Ljava/lang/String;" .null := D25 (Or.inr (hw _ (List.mem_of_getElem? (i := 86) rfl))) (ty := (.object "java/lang/String")) (by decide)
                          show Go p_ e_ below _ _ T25 (mkF m_ 381 #[.val (.int p0), .val (.int p1), .val (.int p2), .val (.int p3), .val (.int p4), .val (.int p5), .val (.int las), .val (.int lao), .val (.int lak), .val (.int ss), .val (.int so), .val (.int sk), .val (.int lbs), .val (.int lbo), .val (.int lbk), .val (.int as0), .val (.int as1), .val (.int bs0), .val (.int bs1), .val (.int ao0), .val (.int ao1), .val (.int bo0), .val (.int bo1), .val (.int ka0), .val (.int ka1), .val (.int kb0), .val (.int kb1), .val (.int ak0), .val (.int ak1), .val (.int bk0), .val (.int bk1), .unset, .unset, .unset, .unset, .unset, .unset, .unset] [(.ref b25)])
                          refine Go.dup X25 hx (hb hby at_381) rfl ?_
                          refine Go.iload X25 hx (hb hby at_382) rfl ?_
                          refine Go.iload X25 hx (hb hby at_384) rfl ?_
                          refine Go.iload X25 hx (hb hby at_386) rfl ?_
                          refine Go.callS X25 hx hZ (rm1 l Z a0 hw [] ak0 ak1 lak zc h25 n0 Z25 O_25_ Sco hzc (own_pr r_ak0).1 (own_pr r_ak1).1) hown (hw _ (List.mem_of_getElem? (i := 3) rfl)) (hw _ (List.mem_of_getElem? (i := 4) rfl)) (hw _ (List.mem_of_getElem? (i := 5) rfl)) (hw _ (List.mem_of_getElem? (i := 6) rfl)) (by decide) e25 (W := 2) (by rw [hml]; rfl) (argsL := [(.int ak0), (.int ak1), (.int lak)]) (S := [(.ref b25), (.ref b25)]) (Nat.le_of_ble_eq_true rfl) (by decide) (by decide) (by decide) (by decide) pd_oCCIcLjava_lang_String rfl rfl (hb hby at_388) ?_
                          rintro _ T26 L26 X26 ⟨x26, t26, kb26, rfl, N26q, K26, g_x26, g_t26, zx26, zt26, ne26, S_x26⟩
                          have N26 := Fr.app N24 N26q
                          have ne_b25_x26 : b25 ≠ x26 := Nat.ne_of_lt (Nat.lt_of_lt_of_le A25.lt zx26)
                          have ne_b25_t26 : b25 ≠ t26 := Nat.ne_of_lt (Nat.lt_of_lt_of_le A25.lt zt26)
                          have O_26_ := O_25_.keep K26 all0
                          have E_26_b25 := A25.keep K26
                          have F_26_b25_value := F_b25_value.keep K26 nin0
                          have Z26 : n0 ≤ T26.heap.size := Nat.le_trans Z25 K26.1
                          have hk26 : _ ≤ T26.heap.size := Nat.le_trans hk25 K26.1
                          show Go p_ e_ below _ _ T26 (mkF m_ 391 #[.val (.int p0), .val (.int p1), .val (.int p2), .val (.int p3), .val (.int p4), .val (.int p5), .val (.int las), .val (.int lao), .val (.int lak), .val (.int ss), .val (.int so), .val (.int sk), .val (.int lbs), .val (.int lbo), .val (.int lbk), .val (.int as0), .val (.int as1), .val (.int bs0), .val (.int bs1), .val (.int ao0), .val (.int ao1), .val (.int bo0), .val (.int bo1), .val (.int ka0), .val (.int ka1), .val (.int kb0), .val (.int kb1), .val (.int ak0), .val (.int ak1), .val (.int bk0), .val (.int bk1), .unset, .unset, .unset, .unset, .unset, .unset, .unset] [(.ref x26), (.ref b25), (.ref b25)])
                          refine Go.callIS X26 hx hZ (rm8 l Z a0 hw [] b25 x26 t26 kb26 (own_cs ak0 ak1 lak) zc fm T26.heap n0 Z26 O_26_ Sco hzc Sfm rfm E_26_b25 F_26_b25_value g_b25 S_x26 (own_all (P := fun c => ¬ c < 0 ∧ ¬ (255 : Int32) < c) (own_pr r_ak0).1 (own_pr r_ak1).1) (own_all (P := fun c => ¬ c < (32 : Int32) ∧ ¬ (126 : Int32) < c) (own_pr r_ak0).2 (own_pr r_ak1).2) ⟨(own_csl _ _ _).1, Nat.le_trans (own_csl _ _ _).2 (by decide)⟩ (Ne.symm ne_b25_x26) (Ne.symm ne_b25_t26)) rfl hown (hw _ (List.mem_of_getElem? (i := 37) rfl)) (hw _ (List.mem_of_getElem? (i := 38) rfl)) (hw _ (List.mem_of_getElem? (i := 2) rfl)) (hw _ (List.mem_of_getElem? (i := 39) rfl)) (by decide) hS rfl hk26 (a := b25) (W := 1) (by rw [hml]; rfl) (argsL := [(.ref x26)]) (S := [(.ref b25)]) (Nat.le_of_ble_eq_true rfl) (by decide) (by decide) (by decide) (by decide) pd_oLjava_lang_StringcV rfl rfl (hb hby at_391) ?_
                          rintro _ T27 L27 X27 ⟨rfl, N27q, K27, E27, Fv27⟩ hS27 hg27 hZ hown
                          have N27 := Fr.app N26 N27q
                          have O_27_ := O_26_.keep K27 (allS g_b25 all0)
                          have S27_x26 := S_x26.keep K27 (ninS (Ne.symm ne_b25_x26) nin0) (ninS (Ne.symm ne_b25_t26) nin0)
                          have Z27 : n0 ≤ T27.heap.size := Nat.le_trans Z26 K27.1
                          have hk27 : _ ≤ T27.heap.size := Nat.le_trans hk26 K27.1
                          show Go p_ e_ below _ _ T27 (mkF m_ 394 #[.val (.int p0), .val (.int p1), .val (.int p2), .val (.int p3), .val (.int p4), .val (.int p5), .val (.int las), .val (.int lao), .val (.int lak), .val (.int ss), .val (.int so), .val (.int sk), .val (.int lbs), .val (.int lbo), .val (.int lbk), .val (.int as0), .val (.int as1), .val (.int bs0), .val (.int bs1), .val (.int ao0), .val (.int ao1), .val (.int bo0), .val (.int bo1), .val (.int ka0), .val (.int ka1), .val (.int kb0), .val (.int kb1), .val (.int ak0), .val (.int ak1), .val (.int bk0), .val (.int bk1), .unset, .unset, .unset, .unset, .unset, .unset, .unset] [(.ref b25)])
                          refine Go.astore X27 hx (l' := #[.val (.int p0), .val (.int p1), .val (.int p2), .val (.int p3), .val (.int p4), .val (.int p5), .val (.int las), .val (.int lao), .val (.int lak), .val (.int ss), .val (.int so), .val (.int sk), .val (.int lbs), .val (.int lbo), .val (.int lbk), .val (.int as0), .val (.int as1), .val (.int bs0), .val (.int bs1), .val (.int ao0), .val (.int ao1), .val (.int bo0), .val (.int bo1), .val (.int ka0), .val (.int ka1), .val (.int kb0), .val (.int kb1), .val (.int ak0), .val (.int ak1), .val (.int bk0), .val (.int bk1), .val (.ref b25), .unset, .unset, .unset, .unset, .unset, .unset]) (hb hby at_394) rfl rfl ?_
                          refine Go.newO X27 hx hZ hown (hw _ (List.mem_of_getElem? (i := 0) rfl)) (hw _ (List.mem_of_getElem? (i := 1) rfl)) (hw _ (List.mem_of_getElem? (i := 2) rfl)) rfl (hb hby at_396) (by decide) (by decide) ?_
                          intro T28 h28 b28 zq28 X28 e28 E28 A28 D28
                          have ne_x26_b28 : x26 ≠ b28 := Nat.ne_of_lt (Nat.lt_of_lt_of_le S27_x26.ltx (Nat.le_of_eq zq28.symm))
                          have ne_t26_b28 : t26 ≠ b28 := Nat.ne_of_lt (Nat.lt_of_lt_of_le S27_x26.ltt (Nat.le_of_eq zq28.symm))
                          have ne_b25_b28 : b25 ≠ b28 := Nat.ne_of_lt (Nat.lt_of_lt_of_le E27.lt (Nat.le_of_eq zq28.symm))
                          have g_b28 : n0 ≤ b28 := Nat.le_trans Z27 (Nat.le_of_eq zq28.symm)
                          have Z28 : n0 ≤ h28.size := Nat.le_trans Z27 E28.1
                          have hk28 : _ ≤ h28.size := Nat.le_trans (Nat.le_refl _) E28.1
                          have O_28_ := O_27_.ext E28
                          have E_28_b25 := E27.ext E28
                          have F_28_b25_value := Fv27.ext E28
                          have S28_x26 := S27_x26.ext E28
                          have F_b28_value : Fld Z h28 b28 "com/example/safe_retries/saferetries/identity/IdempotencyKey" "value" "Ljava/lang/String;" .null := D28 (Or.inr (hw _ (List.mem_of_getElem? (i := 86) rfl))) (ty := (.object "java/lang/String")) (by decide)
                          show Go p_ e_ below _ _ T28 (mkF m_ 399 #[.val (.int p0), .val (.int p1), .val (.int p2), .val (.int p3), .val (.int p4), .val (.int p5), .val (.int las), .val (.int lao), .val (.int lak), .val (.int ss), .val (.int so), .val (.int sk), .val (.int lbs), .val (.int lbo), .val (.int lbk), .val (.int as0), .val (.int as1), .val (.int bs0), .val (.int bs1), .val (.int ao0), .val (.int ao1), .val (.int bo0), .val (.int bo1), .val (.int ka0), .val (.int ka1), .val (.int kb0), .val (.int kb1), .val (.int ak0), .val (.int ak1), .val (.int bk0), .val (.int bk1), .val (.ref b25), .unset, .unset, .unset, .unset, .unset, .unset] [(.ref b28)])
                          refine Go.dup X28 hx (hb hby at_399) rfl ?_
                          refine Go.iload X28 hx (hb hby at_400) rfl ?_
                          refine Go.iload X28 hx (hb hby at_402) rfl ?_
                          refine Go.iload X28 hx (hb hby at_404) rfl ?_
                          refine Go.callS X28 hx hZ (rm1 l Z a0 hw [] bk0 bk1 lbk zc h28 n0 Z28 O_28_ Sco hzc (own_pr r_bk0).1 (own_pr r_bk1).1) hown (hw _ (List.mem_of_getElem? (i := 3) rfl)) (hw _ (List.mem_of_getElem? (i := 4) rfl)) (hw _ (List.mem_of_getElem? (i := 5) rfl)) (hw _ (List.mem_of_getElem? (i := 6) rfl)) (by decide) e28 (W := 2) (by rw [hml]; rfl) (argsL := [(.int bk0), (.int bk1), (.int lbk)]) (S := [(.ref b28), (.ref b28)]) (Nat.le_of_ble_eq_true rfl) (by decide) (by decide) (by decide) (by decide) pd_oCCIcLjava_lang_String rfl rfl (hb hby at_406) ?_
                          rintro _ T29 L29 X29 ⟨x29, t29, kb29, rfl, N29q, K29, g_x29, g_t29, zx29, zt29, ne29, S_x29⟩
                          have N29 := Fr.app N27 N29q
                          have ne_b25_x29 : b25 ≠ x29 := Nat.ne_of_lt (Nat.lt_of_lt_of_le E_28_b25.lt zx29)
                          have ne_x26_x29 : x26 ≠ x29 := Nat.ne_of_lt (Nat.lt_of_lt_of_le S28_x26.ltx zx29)
                          have ne_t26_x29 : t26 ≠ x29 := Nat.ne_of_lt (Nat.lt_of_lt_of_le S28_x26.ltt zx29)
                          have ne_b28_x29 : b28 ≠ x29 := Nat.ne_of_lt (Nat.lt_of_lt_of_le A28.lt zx29)
                          have ne_b25_t29 : b25 ≠ t29 := Nat.ne_of_lt (Nat.lt_of_lt_of_le E_28_b25.lt zt29)
                          have ne_x26_t29 : x26 ≠ t29 := Nat.ne_of_lt (Nat.lt_of_lt_of_le S28_x26.ltx zt29)
                          have ne_t26_t29 : t26 ≠ t29 := Nat.ne_of_lt (Nat.lt_of_lt_of_le S28_x26.ltt zt29)
                          have ne_b28_t29 : b28 ≠ t29 := Nat.ne_of_lt (Nat.lt_of_lt_of_le A28.lt zt29)
                          have O_29_ := O_28_.keep K29 all0
                          have E_29_b25 := E_28_b25.keep K29
                          have F_29_b25_value := F_28_b25_value.keep K29 nin0
                          have E_29_b28 := A28.keep K29
                          have F_29_b28_value := F_b28_value.keep K29 nin0
                          have S29_x26 := S28_x26.keep K29 nin0 nin0
                          have Z29 : n0 ≤ T29.heap.size := Nat.le_trans Z28 K29.1
                          have hk29 : _ ≤ T29.heap.size := Nat.le_trans hk28 K29.1
                          show Go p_ e_ below _ _ T29 (mkF m_ 409 #[.val (.int p0), .val (.int p1), .val (.int p2), .val (.int p3), .val (.int p4), .val (.int p5), .val (.int las), .val (.int lao), .val (.int lak), .val (.int ss), .val (.int so), .val (.int sk), .val (.int lbs), .val (.int lbo), .val (.int lbk), .val (.int as0), .val (.int as1), .val (.int bs0), .val (.int bs1), .val (.int ao0), .val (.int ao1), .val (.int bo0), .val (.int bo1), .val (.int ka0), .val (.int ka1), .val (.int kb0), .val (.int kb1), .val (.int ak0), .val (.int ak1), .val (.int bk0), .val (.int bk1), .val (.ref b25), .unset, .unset, .unset, .unset, .unset, .unset] [(.ref x29), (.ref b28), (.ref b28)])
                          refine Go.callIS X29 hx hZ (rm8 l Z a0 hw [] b28 x29 t29 kb29 (own_cs bk0 bk1 lbk) zc fm T29.heap n0 Z29 O_29_ Sco hzc Sfm rfm E_29_b28 F_29_b28_value g_b28 S_x29 (own_all (P := fun c => ¬ c < 0 ∧ ¬ (255 : Int32) < c) (own_pr r_bk0).1 (own_pr r_bk1).1) (own_all (P := fun c => ¬ c < (32 : Int32) ∧ ¬ (126 : Int32) < c) (own_pr r_bk0).2 (own_pr r_bk1).2) ⟨(own_csl _ _ _).1, Nat.le_trans (own_csl _ _ _).2 (by decide)⟩ (Ne.symm ne_b28_x29) (Ne.symm ne_b28_t29)) rfl hown (hw _ (List.mem_of_getElem? (i := 37) rfl)) (hw _ (List.mem_of_getElem? (i := 38) rfl)) (hw _ (List.mem_of_getElem? (i := 2) rfl)) (hw _ (List.mem_of_getElem? (i := 39) rfl)) (by decide) hS27 rfl hk29 (a := b28) (W := 1) (by rw [hml]; rfl) (argsL := [(.ref x29)]) (S := [(.ref b28)]) (Nat.le_of_ble_eq_true rfl) (by decide) (by decide) (by decide) (by decide) pd_oLjava_lang_StringcV rfl rfl (hb hby at_409) ?_
                          rintro _ T30 L30 X30 ⟨rfl, N30q, K30, E30, Fv30⟩ hS30 hg30 hZ hown
                          have N30 := Fr.app N29 N30q
                          have O_30_ := O_29_.keep K30 (allS g_b28 all0)
                          have E_30_b25 := E_29_b25.keep K30
                          have F_30_b25_value := F_29_b25_value.keep K30 (ninS ne_b25_b28 nin0)
                          have S30_x26 := S29_x26.keep K30 (ninS ne_x26_b28 nin0) (ninS ne_t26_b28 nin0)
                          have S30_x29 := S_x29.keep K30 (ninS (Ne.symm ne_b28_x29) nin0) (ninS (Ne.symm ne_b28_t29) nin0)
                          have Z30 : n0 ≤ T30.heap.size := Nat.le_trans Z29 K30.1
                          have hk30 : _ ≤ T30.heap.size := Nat.le_trans hk29 K30.1
                          show Go p_ e_ below _ _ T30 (mkF m_ 412 #[.val (.int p0), .val (.int p1), .val (.int p2), .val (.int p3), .val (.int p4), .val (.int p5), .val (.int las), .val (.int lao), .val (.int lak), .val (.int ss), .val (.int so), .val (.int sk), .val (.int lbs), .val (.int lbo), .val (.int lbk), .val (.int as0), .val (.int as1), .val (.int bs0), .val (.int bs1), .val (.int ao0), .val (.int ao1), .val (.int bo0), .val (.int bo1), .val (.int ka0), .val (.int ka1), .val (.int kb0), .val (.int kb1), .val (.int ak0), .val (.int ak1), .val (.int bk0), .val (.int bk1), .val (.ref b25), .unset, .unset, .unset, .unset, .unset, .unset] [(.ref b28)])
                          refine Go.astore X30 hx (l' := #[.val (.int p0), .val (.int p1), .val (.int p2), .val (.int p3), .val (.int p4), .val (.int p5), .val (.int las), .val (.int lao), .val (.int lak), .val (.int ss), .val (.int so), .val (.int sk), .val (.int lbs), .val (.int lbo), .val (.int lbk), .val (.int as0), .val (.int as1), .val (.int bs0), .val (.int bs1), .val (.int ao0), .val (.int ao1), .val (.int bo0), .val (.int bo1), .val (.int ka0), .val (.int ka1), .val (.int kb0), .val (.int kb1), .val (.int ak0), .val (.int ak1), .val (.int bk0), .val (.int bk1), .val (.ref b25), .val (.ref b28), .unset, .unset, .unset, .unset, .unset]) (hb hby at_412) rfl rfl ?_
                          refine Go.newO X30 hx hZ hown (hw _ (List.mem_of_getElem? (i := 87) rfl)) (hw _ (List.mem_of_getElem? (i := 88) rfl)) (hw _ (List.mem_of_getElem? (i := 89) rfl)) rfl (hb hby at_414) (by decide) (by decide) ?_
                          intro T31 h31 b31 zq31 X31 e31 E31 A31 D31
                          have ne_b25_b31 : b25 ≠ b31 := Nat.ne_of_lt (Nat.lt_of_lt_of_le E_30_b25.lt (Nat.le_of_eq zq31.symm))
                          have ne_x26_b31 : x26 ≠ b31 := Nat.ne_of_lt (Nat.lt_of_lt_of_le S30_x26.ltx (Nat.le_of_eq zq31.symm))
                          have ne_t26_b31 : t26 ≠ b31 := Nat.ne_of_lt (Nat.lt_of_lt_of_le S30_x26.ltt (Nat.le_of_eq zq31.symm))
                          have ne_x29_b31 : x29 ≠ b31 := Nat.ne_of_lt (Nat.lt_of_lt_of_le S30_x29.ltx (Nat.le_of_eq zq31.symm))
                          have ne_t29_b31 : t29 ≠ b31 := Nat.ne_of_lt (Nat.lt_of_lt_of_le S30_x29.ltt (Nat.le_of_eq zq31.symm))
                          have ne_b28_b31 : b28 ≠ b31 := Nat.ne_of_lt (Nat.lt_of_lt_of_le E30.lt (Nat.le_of_eq zq31.symm))
                          have g_b31 : n0 ≤ b31 := Nat.le_trans Z30 (Nat.le_of_eq zq31.symm)
                          have Z31 : n0 ≤ h31.size := Nat.le_trans Z30 E31.1
                          have hk31 : _ ≤ h31.size := Nat.le_trans (Nat.le_refl _) E31.1
                          have O_31_ := O_30_.ext E31
                          have E_31_b25 := E_30_b25.ext E31
                          have F_31_b25_value := F_30_b25_value.ext E31
                          have E_31_b28 := E30.ext E31
                          have F_31_b28_value := Fv30.ext E31
                          have S31_x26 := S30_x26.ext E31
                          have S31_x29 := S30_x29.ext E31
                          have F_b31_scope : Fld Z h31 b31 "com/example/safe_retries/saferetries/identity/RequestIdentity" "scope" "Ljava/lang/String;" .null := D31 (Or.inr (hw _ (List.mem_of_getElem? (i := 100) rfl))) (ty := (.object "java/lang/String")) (by decide)
                          have F_b31_operation : Fld Z h31 b31 "com/example/safe_retries/saferetries/identity/RequestIdentity" "operation" "Ljava/lang/String;" .null := D31 (Or.inr (hw _ (List.mem_of_getElem? (i := 102) rfl))) (ty := (.object "java/lang/String")) (by decide)
                          have F_b31_key : Fld Z h31 b31 "com/example/safe_retries/saferetries/identity/RequestIdentity" "key" "Lcom/example/safe_retries/saferetries/identity/IdempotencyKey;" .null := D31 (Or.inr (hw _ (List.mem_of_getElem? (i := 104) rfl))) (ty := (.object "com/example/safe_retries/saferetries/identity/IdempotencyKey")) (by decide)
                          show Go p_ e_ below _ _ T31 (mkF m_ 417 #[.val (.int p0), .val (.int p1), .val (.int p2), .val (.int p3), .val (.int p4), .val (.int p5), .val (.int las), .val (.int lao), .val (.int lak), .val (.int ss), .val (.int so), .val (.int sk), .val (.int lbs), .val (.int lbo), .val (.int lbk), .val (.int as0), .val (.int as1), .val (.int bs0), .val (.int bs1), .val (.int ao0), .val (.int ao1), .val (.int bo0), .val (.int bo1), .val (.int ka0), .val (.int ka1), .val (.int kb0), .val (.int kb1), .val (.int ak0), .val (.int ak1), .val (.int bk0), .val (.int bk1), .val (.ref b25), .val (.ref b28), .unset, .unset, .unset, .unset, .unset] [(.ref b31)])
                          refine Go.dup X31 hx (hb hby at_417) rfl ?_
                          refine Go.iload X31 hx (hb hby at_418) rfl ?_
                          refine Go.iload X31 hx (hb hby at_420) rfl ?_
                          refine Go.iload X31 hx (hb hby at_422) rfl ?_
                          refine Go.callS X31 hx hZ (rm1 l Z a0 hw [] as0 as1 las zc h31 n0 Z31 O_31_ Sco hzc (own_br r_as0) (own_br r_as1)) hown (hw _ (List.mem_of_getElem? (i := 3) rfl)) (hw _ (List.mem_of_getElem? (i := 4) rfl)) (hw _ (List.mem_of_getElem? (i := 5) rfl)) (hw _ (List.mem_of_getElem? (i := 6) rfl)) (by decide) e31 (W := 2) (by rw [hml]; rfl) (argsL := [(.int as0), (.int as1), (.int las)]) (S := [(.ref b31), (.ref b31)]) (Nat.le_of_ble_eq_true rfl) (by decide) (by decide) (by decide) (by decide) pd_oCCIcLjava_lang_String rfl rfl (hb hby at_424) ?_
                          rintro _ T32 L32 X32 ⟨x32, t32, kb32, rfl, N32q, K32, g_x32, g_t32, zx32, zt32, ne32, S_x32⟩
                          have N32 := Fr.app N30 N32q
                          have ne_b25_x32 : b25 ≠ x32 := Nat.ne_of_lt (Nat.lt_of_lt_of_le E_31_b25.lt zx32)
                          have ne_b28_x32 : b28 ≠ x32 := Nat.ne_of_lt (Nat.lt_of_lt_of_le E_31_b28.lt zx32)
                          have ne_x26_x32 : x26 ≠ x32 := Nat.ne_of_lt (Nat.lt_of_lt_of_le S31_x26.ltx zx32)
                          have ne_t26_x32 : t26 ≠ x32 := Nat.ne_of_lt (Nat.lt_of_lt_of_le S31_x26.ltt zx32)
                          have ne_x29_x32 : x29 ≠ x32 := Nat.ne_of_lt (Nat.lt_of_lt_of_le S31_x29.ltx zx32)
                          have ne_t29_x32 : t29 ≠ x32 := Nat.ne_of_lt (Nat.lt_of_lt_of_le S31_x29.ltt zx32)
                          have ne_b31_x32 : b31 ≠ x32 := Nat.ne_of_lt (Nat.lt_of_lt_of_le A31.lt zx32)
                          have ne_b25_t32 : b25 ≠ t32 := Nat.ne_of_lt (Nat.lt_of_lt_of_le E_31_b25.lt zt32)
                          have ne_b28_t32 : b28 ≠ t32 := Nat.ne_of_lt (Nat.lt_of_lt_of_le E_31_b28.lt zt32)
                          have ne_x26_t32 : x26 ≠ t32 := Nat.ne_of_lt (Nat.lt_of_lt_of_le S31_x26.ltx zt32)
                          have ne_t26_t32 : t26 ≠ t32 := Nat.ne_of_lt (Nat.lt_of_lt_of_le S31_x26.ltt zt32)
                          have ne_x29_t32 : x29 ≠ t32 := Nat.ne_of_lt (Nat.lt_of_lt_of_le S31_x29.ltx zt32)
                          have ne_t29_t32 : t29 ≠ t32 := Nat.ne_of_lt (Nat.lt_of_lt_of_le S31_x29.ltt zt32)
                          have ne_b31_t32 : b31 ≠ t32 := Nat.ne_of_lt (Nat.lt_of_lt_of_le A31.lt zt32)
                          have O_32_ := O_31_.keep K32 all0
                          have E_32_b25 := E_31_b25.keep K32
                          have F_32_b25_value := F_31_b25_value.keep K32 nin0
                          have E_32_b28 := E_31_b28.keep K32
                          have F_32_b28_value := F_31_b28_value.keep K32 nin0
                          have E_32_b31 := A31.keep K32
                          have F_32_b31_scope := F_b31_scope.keep K32 nin0
                          have F_32_b31_operation := F_b31_operation.keep K32 nin0
                          have F_32_b31_key := F_b31_key.keep K32 nin0
                          have S32_x26 := S31_x26.keep K32 nin0 nin0
                          have S32_x29 := S31_x29.keep K32 nin0 nin0
                          have Z32 : n0 ≤ T32.heap.size := Nat.le_trans Z31 K32.1
                          have hk32 : _ ≤ T32.heap.size := Nat.le_trans hk31 K32.1
                          show Go p_ e_ below _ _ T32 (mkF m_ 427 #[.val (.int p0), .val (.int p1), .val (.int p2), .val (.int p3), .val (.int p4), .val (.int p5), .val (.int las), .val (.int lao), .val (.int lak), .val (.int ss), .val (.int so), .val (.int sk), .val (.int lbs), .val (.int lbo), .val (.int lbk), .val (.int as0), .val (.int as1), .val (.int bs0), .val (.int bs1), .val (.int ao0), .val (.int ao1), .val (.int bo0), .val (.int bo1), .val (.int ka0), .val (.int ka1), .val (.int kb0), .val (.int kb1), .val (.int ak0), .val (.int ak1), .val (.int bk0), .val (.int bk1), .val (.ref b25), .val (.ref b28), .unset, .unset, .unset, .unset, .unset] [(.ref x32), (.ref b31), (.ref b31)])
                          refine Go.iload X32 hx (hb hby at_427) rfl ?_
                          refine Go.iload X32 hx (hb hby at_429) rfl ?_
                          refine Go.iload X32 hx (hb hby at_431) rfl ?_
                          refine Go.callS X32 hx hZ (rm1 l Z a0 hw [] ao0 ao1 lao zc T32.heap n0 Z32 O_32_ Sco hzc (own_br r_ao0) (own_br r_ao1)) hown (hw _ (List.mem_of_getElem? (i := 3) rfl)) (hw _ (List.mem_of_getElem? (i := 4) rfl)) (hw _ (List.mem_of_getElem? (i := 5) rfl)) (hw _ (List.mem_of_getElem? (i := 6) rfl)) (by decide) rfl (W := 3) (by rw [hml]; rfl) (argsL := [(.int ao0), (.int ao1), (.int lao)]) (S := [(.ref x32), (.ref b31), (.ref b31)]) (Nat.le_of_ble_eq_true rfl) (by decide) (by decide) (by decide) (by decide) pd_oCCIcLjava_lang_String rfl rfl (hb hby at_433) ?_
                          rintro _ T33 L33 X33 ⟨x33, t33, kb33, rfl, N33q, K33, g_x33, g_t33, zx33, zt33, ne33, S_x33⟩
                          have N33 := Fr.app N32 N33q
                          have ne_b25_x33 : b25 ≠ x33 := Nat.ne_of_lt (Nat.lt_of_lt_of_le E_32_b25.lt zx33)
                          have ne_b28_x33 : b28 ≠ x33 := Nat.ne_of_lt (Nat.lt_of_lt_of_le E_32_b28.lt zx33)
                          have ne_b31_x33 : b31 ≠ x33 := Nat.ne_of_lt (Nat.lt_of_lt_of_le E_32_b31.lt zx33)
                          have ne_x26_x33 : x26 ≠ x33 := Nat.ne_of_lt (Nat.lt_of_lt_of_le S32_x26.ltx zx33)
                          have ne_t26_x33 : t26 ≠ x33 := Nat.ne_of_lt (Nat.lt_of_lt_of_le S32_x26.ltt zx33)
                          have ne_x29_x33 : x29 ≠ x33 := Nat.ne_of_lt (Nat.lt_of_lt_of_le S32_x29.ltx zx33)
                          have ne_t29_x33 : t29 ≠ x33 := Nat.ne_of_lt (Nat.lt_of_lt_of_le S32_x29.ltt zx33)
                          have ne_x32_x33 : x32 ≠ x33 := Nat.ne_of_lt (Nat.lt_of_lt_of_le S_x32.ltx zx33)
                          have ne_t32_x33 : t32 ≠ x33 := Nat.ne_of_lt (Nat.lt_of_lt_of_le S_x32.ltt zx33)
                          have ne_b25_t33 : b25 ≠ t33 := Nat.ne_of_lt (Nat.lt_of_lt_of_le E_32_b25.lt zt33)
                          have ne_b28_t33 : b28 ≠ t33 := Nat.ne_of_lt (Nat.lt_of_lt_of_le E_32_b28.lt zt33)
                          have ne_b31_t33 : b31 ≠ t33 := Nat.ne_of_lt (Nat.lt_of_lt_of_le E_32_b31.lt zt33)
                          have ne_x26_t33 : x26 ≠ t33 := Nat.ne_of_lt (Nat.lt_of_lt_of_le S32_x26.ltx zt33)
                          have ne_t26_t33 : t26 ≠ t33 := Nat.ne_of_lt (Nat.lt_of_lt_of_le S32_x26.ltt zt33)
                          have ne_x29_t33 : x29 ≠ t33 := Nat.ne_of_lt (Nat.lt_of_lt_of_le S32_x29.ltx zt33)
                          have ne_t29_t33 : t29 ≠ t33 := Nat.ne_of_lt (Nat.lt_of_lt_of_le S32_x29.ltt zt33)
                          have ne_x32_t33 : x32 ≠ t33 := Nat.ne_of_lt (Nat.lt_of_lt_of_le S_x32.ltx zt33)
                          have ne_t32_t33 : t32 ≠ t33 := Nat.ne_of_lt (Nat.lt_of_lt_of_le S_x32.ltt zt33)
                          have O_33_ := O_32_.keep K33 all0
                          have E_33_b25 := E_32_b25.keep K33
                          have F_33_b25_value := F_32_b25_value.keep K33 nin0
                          have E_33_b28 := E_32_b28.keep K33
                          have F_33_b28_value := F_32_b28_value.keep K33 nin0
                          have E_33_b31 := E_32_b31.keep K33
                          have F_33_b31_scope := F_32_b31_scope.keep K33 nin0
                          have F_33_b31_operation := F_32_b31_operation.keep K33 nin0
                          have F_33_b31_key := F_32_b31_key.keep K33 nin0
                          have S33_x26 := S32_x26.keep K33 nin0 nin0
                          have S33_x29 := S32_x29.keep K33 nin0 nin0
                          have S33_x32 := S_x32.keep K33 nin0 nin0
                          have Z33 : n0 ≤ T33.heap.size := Nat.le_trans Z32 K33.1
                          have hk33 : _ ≤ T33.heap.size := Nat.le_trans hk32 K33.1
                          show Go p_ e_ below _ _ T33 (mkF m_ 436 #[.val (.int p0), .val (.int p1), .val (.int p2), .val (.int p3), .val (.int p4), .val (.int p5), .val (.int las), .val (.int lao), .val (.int lak), .val (.int ss), .val (.int so), .val (.int sk), .val (.int lbs), .val (.int lbo), .val (.int lbk), .val (.int as0), .val (.int as1), .val (.int bs0), .val (.int bs1), .val (.int ao0), .val (.int ao1), .val (.int bo0), .val (.int bo1), .val (.int ka0), .val (.int ka1), .val (.int kb0), .val (.int kb1), .val (.int ak0), .val (.int ak1), .val (.int bk0), .val (.int bk1), .val (.ref b25), .val (.ref b28), .unset, .unset, .unset, .unset, .unset] [(.ref x33), (.ref x32), (.ref b31), (.ref b31)])
                          refine Go.aload X33 hx (hb hby at_436) rfl rfl ?_
                          refine Go.callIS X33 hx hZ (rm18 l Z a0 hw [] b31 x32 x33 b25 t32 kb32 (own_cs as0 as1 las) t33 kb33 (own_cs ao0 ao1 lao) zc T33.heap n0 Z33 O_33_ Sco hzc E_33_b31 F_33_b31_scope F_33_b31_operation F_33_b31_key g_b31 S33_x32 (own_all (P := fun c => ¬ c < 0 ∧ ¬ (255 : Int32) < c) (own_br r_as0) (own_br r_as1)) ⟨(own_csl _ _ _).1, Nat.le_trans (own_csl _ _ _).2 (by decide)⟩ S_x33 (own_all (P := fun c => ¬ c < 0 ∧ ¬ (255 : Int32) < c) (own_br r_ao0) (own_br r_ao1)) ⟨(own_csl _ _ _).1, Nat.le_trans (own_csl _ _ _).2 (by decide)⟩ (Ne.symm ne_b31_x32) (Ne.symm ne_b31_t32) (Ne.symm ne_b31_x33) (Ne.symm ne_b31_t33)) rfl hown (hw _ (List.mem_of_getElem? (i := 90) rfl)) (hw _ (List.mem_of_getElem? (i := 91) rfl)) (hw _ (List.mem_of_getElem? (i := 89) rfl)) (hw _ (List.mem_of_getElem? (i := 92) rfl)) (by decide) hS30 rfl hk33 (a := b31) (W := 1) (by rw [hml]; rfl) (argsL := [(.ref x32), (.ref x33), (.ref b25)]) (S := [(.ref b31)]) (Nat.le_of_ble_eq_true rfl) (by decide) (by decide) (by decide) (by decide) pd_oLjava_lang_StringLjava_lang_StringLcom_example_safe_retries_saferetries_identity_IdempotencyKeycV rfl rfl (hb hby at_438) ?_
                          rintro _ T34 L34 X34 ⟨rfl, N34q, K34, E34, Fscope_34, Foperation_34, Fkey_34⟩ hS34 hg34 hZ hown
                          have N34 := Fr.app N33 N34q
                          have O_34_ := O_33_.keep K34 (allS g_b31 all0)
                          have E_34_b25 := E_33_b25.keep K34
                          have F_34_b25_value := F_33_b25_value.keep K34 (ninS ne_b25_b31 nin0)
                          have E_34_b28 := E_33_b28.keep K34
                          have F_34_b28_value := F_33_b28_value.keep K34 (ninS ne_b28_b31 nin0)
                          have S34_x26 := S33_x26.keep K34 (ninS ne_x26_b31 nin0) (ninS ne_t26_b31 nin0)
                          have S34_x29 := S33_x29.keep K34 (ninS ne_x29_b31 nin0) (ninS ne_t29_b31 nin0)
                          have S34_x32 := S33_x32.keep K34 (ninS (Ne.symm ne_b31_x32) nin0) (ninS (Ne.symm ne_b31_t32) nin0)
                          have S34_x33 := S_x33.keep K34 (ninS (Ne.symm ne_b31_x33) nin0) (ninS (Ne.symm ne_b31_t33) nin0)
                          have Z34 : n0 ≤ T34.heap.size := Nat.le_trans Z33 K34.1
                          have hk34 : _ ≤ T34.heap.size := Nat.le_trans hk33 K34.1
                          show Go p_ e_ below _ _ T34 (mkF m_ 441 #[.val (.int p0), .val (.int p1), .val (.int p2), .val (.int p3), .val (.int p4), .val (.int p5), .val (.int las), .val (.int lao), .val (.int lak), .val (.int ss), .val (.int so), .val (.int sk), .val (.int lbs), .val (.int lbo), .val (.int lbk), .val (.int as0), .val (.int as1), .val (.int bs0), .val (.int bs1), .val (.int ao0), .val (.int ao1), .val (.int bo0), .val (.int bo1), .val (.int ka0), .val (.int ka1), .val (.int kb0), .val (.int kb1), .val (.int ak0), .val (.int ak1), .val (.int bk0), .val (.int bk1), .val (.ref b25), .val (.ref b28), .unset, .unset, .unset, .unset, .unset] [(.ref b31)])
                          refine Go.astore X34 hx (l' := #[.val (.int p0), .val (.int p1), .val (.int p2), .val (.int p3), .val (.int p4), .val (.int p5), .val (.int las), .val (.int lao), .val (.int lak), .val (.int ss), .val (.int so), .val (.int sk), .val (.int lbs), .val (.int lbo), .val (.int lbk), .val (.int as0), .val (.int as1), .val (.int bs0), .val (.int bs1), .val (.int ao0), .val (.int ao1), .val (.int bo0), .val (.int bo1), .val (.int ka0), .val (.int ka1), .val (.int kb0), .val (.int kb1), .val (.int ak0), .val (.int ak1), .val (.int bk0), .val (.int bk1), .val (.ref b25), .val (.ref b28), .val (.ref b31), .unset, .unset, .unset, .unset]) (hb hby at_441) rfl rfl ?_
                          refine Go.newO X34 hx hZ hown (hw _ (List.mem_of_getElem? (i := 87) rfl)) (hw _ (List.mem_of_getElem? (i := 88) rfl)) (hw _ (List.mem_of_getElem? (i := 89) rfl)) rfl (hb hby at_443) (by decide) (by decide) ?_
                          intro T35 h35 b35 zq35 X35 e35 E35 A35 D35
                          have ne_b25_b35 : b25 ≠ b35 := Nat.ne_of_lt (Nat.lt_of_lt_of_le E_34_b25.lt (Nat.le_of_eq zq35.symm))
                          have ne_b28_b35 : b28 ≠ b35 := Nat.ne_of_lt (Nat.lt_of_lt_of_le E_34_b28.lt (Nat.le_of_eq zq35.symm))
                          have ne_x26_b35 : x26 ≠ b35 := Nat.ne_of_lt (Nat.lt_of_lt_of_le S34_x26.ltx (Nat.le_of_eq zq35.symm))
                          have ne_t26_b35 : t26 ≠ b35 := Nat.ne_of_lt (Nat.lt_of_lt_of_le S34_x26.ltt (Nat.le_of_eq zq35.symm))
                          have ne_x29_b35 : x29 ≠ b35 := Nat.ne_of_lt (Nat.lt_of_lt_of_le S34_x29.ltx (Nat.le_of_eq zq35.symm))
                          have ne_t29_b35 : t29 ≠ b35 := Nat.ne_of_lt (Nat.lt_of_lt_of_le S34_x29.ltt (Nat.le_of_eq zq35.symm))
                          have ne_x32_b35 : x32 ≠ b35 := Nat.ne_of_lt (Nat.lt_of_lt_of_le S34_x32.ltx (Nat.le_of_eq zq35.symm))
                          have ne_t32_b35 : t32 ≠ b35 := Nat.ne_of_lt (Nat.lt_of_lt_of_le S34_x32.ltt (Nat.le_of_eq zq35.symm))
                          have ne_x33_b35 : x33 ≠ b35 := Nat.ne_of_lt (Nat.lt_of_lt_of_le S34_x33.ltx (Nat.le_of_eq zq35.symm))
                          have ne_t33_b35 : t33 ≠ b35 := Nat.ne_of_lt (Nat.lt_of_lt_of_le S34_x33.ltt (Nat.le_of_eq zq35.symm))
                          have ne_b31_b35 : b31 ≠ b35 := Nat.ne_of_lt (Nat.lt_of_lt_of_le E34.lt (Nat.le_of_eq zq35.symm))
                          have g_b35 : n0 ≤ b35 := Nat.le_trans Z34 (Nat.le_of_eq zq35.symm)
                          have Z35 : n0 ≤ h35.size := Nat.le_trans Z34 E35.1
                          have hk35 : _ ≤ h35.size := Nat.le_trans (Nat.le_refl _) E35.1
                          have O_35_ := O_34_.ext E35
                          have E_35_b25 := E_34_b25.ext E35
                          have F_35_b25_value := F_34_b25_value.ext E35
                          have E_35_b28 := E_34_b28.ext E35
                          have F_35_b28_value := F_34_b28_value.ext E35
                          have E_35_b31 := E34.ext E35
                          have F_35_b31_scope := Fscope_34.ext E35
                          have F_35_b31_operation := Foperation_34.ext E35
                          have F_35_b31_key := Fkey_34.ext E35
                          have S35_x26 := S34_x26.ext E35
                          have S35_x29 := S34_x29.ext E35
                          have S35_x32 := S34_x32.ext E35
                          have S35_x33 := S34_x33.ext E35
                          have F_b35_scope : Fld Z h35 b35 "com/example/safe_retries/saferetries/identity/RequestIdentity" "scope" "Ljava/lang/String;" .null := D35 (Or.inr (hw _ (List.mem_of_getElem? (i := 100) rfl))) (ty := (.object "java/lang/String")) (by decide)
                          have F_b35_operation : Fld Z h35 b35 "com/example/safe_retries/saferetries/identity/RequestIdentity" "operation" "Ljava/lang/String;" .null := D35 (Or.inr (hw _ (List.mem_of_getElem? (i := 102) rfl))) (ty := (.object "java/lang/String")) (by decide)
                          have F_b35_key : Fld Z h35 b35 "com/example/safe_retries/saferetries/identity/RequestIdentity" "key" "Lcom/example/safe_retries/saferetries/identity/IdempotencyKey;" .null := D35 (Or.inr (hw _ (List.mem_of_getElem? (i := 104) rfl))) (ty := (.object "com/example/safe_retries/saferetries/identity/IdempotencyKey")) (by decide)
                          show Go p_ e_ below _ _ T35 (mkF m_ 446 #[.val (.int p0), .val (.int p1), .val (.int p2), .val (.int p3), .val (.int p4), .val (.int p5), .val (.int las), .val (.int lao), .val (.int lak), .val (.int ss), .val (.int so), .val (.int sk), .val (.int lbs), .val (.int lbo), .val (.int lbk), .val (.int as0), .val (.int as1), .val (.int bs0), .val (.int bs1), .val (.int ao0), .val (.int ao1), .val (.int bo0), .val (.int bo1), .val (.int ka0), .val (.int ka1), .val (.int kb0), .val (.int kb1), .val (.int ak0), .val (.int ak1), .val (.int bk0), .val (.int bk1), .val (.ref b25), .val (.ref b28), .val (.ref b31), .unset, .unset, .unset, .unset] [(.ref b35)])
                          refine Go.dup X35 hx (hb hby at_446) rfl ?_
                          refine Go.iload X35 hx (hb hby at_447) rfl ?_
                          refine Go.iload X35 hx (hb hby at_449) rfl ?_
                          refine Go.iload X35 hx (hb hby at_451) rfl ?_
                          refine Go.callS X35 hx hZ (rm1 l Z a0 hw [] bs0 bs1 lbs zc h35 n0 Z35 O_35_ Sco hzc (own_br r_bs0) (own_br r_bs1)) hown (hw _ (List.mem_of_getElem? (i := 3) rfl)) (hw _ (List.mem_of_getElem? (i := 4) rfl)) (hw _ (List.mem_of_getElem? (i := 5) rfl)) (hw _ (List.mem_of_getElem? (i := 6) rfl)) (by decide) e35 (W := 2) (by rw [hml]; rfl) (argsL := [(.int bs0), (.int bs1), (.int lbs)]) (S := [(.ref b35), (.ref b35)]) (Nat.le_of_ble_eq_true rfl) (by decide) (by decide) (by decide) (by decide) pd_oCCIcLjava_lang_String rfl rfl (hb hby at_453) ?_
                          rintro _ T36 L36 X36 ⟨x36, t36, kb36, rfl, N36q, K36, g_x36, g_t36, zx36, zt36, ne36, S_x36⟩
                          have N36 := Fr.app N34 N36q
                          have ne_b25_x36 : b25 ≠ x36 := Nat.ne_of_lt (Nat.lt_of_lt_of_le E_35_b25.lt zx36)
                          have ne_b28_x36 : b28 ≠ x36 := Nat.ne_of_lt (Nat.lt_of_lt_of_le E_35_b28.lt zx36)
                          have ne_b31_x36 : b31 ≠ x36 := Nat.ne_of_lt (Nat.lt_of_lt_of_le E_35_b31.lt zx36)
                          have ne_x26_x36 : x26 ≠ x36 := Nat.ne_of_lt (Nat.lt_of_lt_of_le S35_x26.ltx zx36)
                          have ne_t26_x36 : t26 ≠ x36 := Nat.ne_of_lt (Nat.lt_of_lt_of_le S35_x26.ltt zx36)
                          have ne_x29_x36 : x29 ≠ x36 := Nat.ne_of_lt (Nat.lt_of_lt_of_le S35_x29.ltx zx36)
                          have ne_t29_x36 : t29 ≠ x36 := Nat.ne_of_lt (Nat.lt_of_lt_of_le S35_x29.ltt zx36)
                          have ne_x32_x36 : x32 ≠ x36 := Nat.ne_of_lt (Nat.lt_of_lt_of_le S35_x32.ltx zx36)
                          have ne_t32_x36 : t32 ≠ x36 := Nat.ne_of_lt (Nat.lt_of_lt_of_le S35_x32.ltt zx36)
                          have ne_x33_x36 : x33 ≠ x36 := Nat.ne_of_lt (Nat.lt_of_lt_of_le S35_x33.ltx zx36)
                          have ne_t33_x36 : t33 ≠ x36 := Nat.ne_of_lt (Nat.lt_of_lt_of_le S35_x33.ltt zx36)
                          have ne_b35_x36 : b35 ≠ x36 := Nat.ne_of_lt (Nat.lt_of_lt_of_le A35.lt zx36)
                          have ne_b25_t36 : b25 ≠ t36 := Nat.ne_of_lt (Nat.lt_of_lt_of_le E_35_b25.lt zt36)
                          have ne_b28_t36 : b28 ≠ t36 := Nat.ne_of_lt (Nat.lt_of_lt_of_le E_35_b28.lt zt36)
                          have ne_b31_t36 : b31 ≠ t36 := Nat.ne_of_lt (Nat.lt_of_lt_of_le E_35_b31.lt zt36)
                          have ne_x26_t36 : x26 ≠ t36 := Nat.ne_of_lt (Nat.lt_of_lt_of_le S35_x26.ltx zt36)
                          have ne_t26_t36 : t26 ≠ t36 := Nat.ne_of_lt (Nat.lt_of_lt_of_le S35_x26.ltt zt36)
                          have ne_x29_t36 : x29 ≠ t36 := Nat.ne_of_lt (Nat.lt_of_lt_of_le S35_x29.ltx zt36)
                          have ne_t29_t36 : t29 ≠ t36 := Nat.ne_of_lt (Nat.lt_of_lt_of_le S35_x29.ltt zt36)
                          have ne_x32_t36 : x32 ≠ t36 := Nat.ne_of_lt (Nat.lt_of_lt_of_le S35_x32.ltx zt36)
                          have ne_t32_t36 : t32 ≠ t36 := Nat.ne_of_lt (Nat.lt_of_lt_of_le S35_x32.ltt zt36)
                          have ne_x33_t36 : x33 ≠ t36 := Nat.ne_of_lt (Nat.lt_of_lt_of_le S35_x33.ltx zt36)
                          have ne_t33_t36 : t33 ≠ t36 := Nat.ne_of_lt (Nat.lt_of_lt_of_le S35_x33.ltt zt36)
                          have ne_b35_t36 : b35 ≠ t36 := Nat.ne_of_lt (Nat.lt_of_lt_of_le A35.lt zt36)
                          have O_36_ := O_35_.keep K36 all0
                          have E_36_b25 := E_35_b25.keep K36
                          have F_36_b25_value := F_35_b25_value.keep K36 nin0
                          have E_36_b28 := E_35_b28.keep K36
                          have F_36_b28_value := F_35_b28_value.keep K36 nin0
                          have E_36_b31 := E_35_b31.keep K36
                          have F_36_b31_scope := F_35_b31_scope.keep K36 nin0
                          have F_36_b31_operation := F_35_b31_operation.keep K36 nin0
                          have F_36_b31_key := F_35_b31_key.keep K36 nin0
                          have E_36_b35 := A35.keep K36
                          have F_36_b35_scope := F_b35_scope.keep K36 nin0
                          have F_36_b35_operation := F_b35_operation.keep K36 nin0
                          have F_36_b35_key := F_b35_key.keep K36 nin0
                          have S36_x26 := S35_x26.keep K36 nin0 nin0
                          have S36_x29 := S35_x29.keep K36 nin0 nin0
                          have S36_x32 := S35_x32.keep K36 nin0 nin0
                          have S36_x33 := S35_x33.keep K36 nin0 nin0
                          have Z36 : n0 ≤ T36.heap.size := Nat.le_trans Z35 K36.1
                          have hk36 : _ ≤ T36.heap.size := Nat.le_trans hk35 K36.1
                          show Go p_ e_ below _ _ T36 (mkF m_ 456 #[.val (.int p0), .val (.int p1), .val (.int p2), .val (.int p3), .val (.int p4), .val (.int p5), .val (.int las), .val (.int lao), .val (.int lak), .val (.int ss), .val (.int so), .val (.int sk), .val (.int lbs), .val (.int lbo), .val (.int lbk), .val (.int as0), .val (.int as1), .val (.int bs0), .val (.int bs1), .val (.int ao0), .val (.int ao1), .val (.int bo0), .val (.int bo1), .val (.int ka0), .val (.int ka1), .val (.int kb0), .val (.int kb1), .val (.int ak0), .val (.int ak1), .val (.int bk0), .val (.int bk1), .val (.ref b25), .val (.ref b28), .val (.ref b31), .unset, .unset, .unset, .unset] [(.ref x36), (.ref b35), (.ref b35)])
                          refine Go.iload X36 hx (hb hby at_456) rfl ?_
                          refine Go.iload X36 hx (hb hby at_458) rfl ?_
                          refine Go.iload X36 hx (hb hby at_460) rfl ?_
                          refine Go.callS X36 hx hZ (rm1 l Z a0 hw [] bo0 bo1 lbo zc T36.heap n0 Z36 O_36_ Sco hzc (own_br r_bo0) (own_br r_bo1)) hown (hw _ (List.mem_of_getElem? (i := 3) rfl)) (hw _ (List.mem_of_getElem? (i := 4) rfl)) (hw _ (List.mem_of_getElem? (i := 5) rfl)) (hw _ (List.mem_of_getElem? (i := 6) rfl)) (by decide) rfl (W := 3) (by rw [hml]; rfl) (argsL := [(.int bo0), (.int bo1), (.int lbo)]) (S := [(.ref x36), (.ref b35), (.ref b35)]) (Nat.le_of_ble_eq_true rfl) (by decide) (by decide) (by decide) (by decide) pd_oCCIcLjava_lang_String rfl rfl (hb hby at_462) ?_
                          rintro _ T37 L37 X37 ⟨x37, t37, kb37, rfl, N37q, K37, g_x37, g_t37, zx37, zt37, ne37, S_x37⟩
                          have N37 := Fr.app N36 N37q
                          have ne_b25_x37 : b25 ≠ x37 := Nat.ne_of_lt (Nat.lt_of_lt_of_le E_36_b25.lt zx37)
                          have ne_b28_x37 : b28 ≠ x37 := Nat.ne_of_lt (Nat.lt_of_lt_of_le E_36_b28.lt zx37)
                          have ne_b31_x37 : b31 ≠ x37 := Nat.ne_of_lt (Nat.lt_of_lt_of_le E_36_b31.lt zx37)
                          have ne_b35_x37 : b35 ≠ x37 := Nat.ne_of_lt (Nat.lt_of_lt_of_le E_36_b35.lt zx37)
                          have ne_x26_x37 : x26 ≠ x37 := Nat.ne_of_lt (Nat.lt_of_lt_of_le S36_x26.ltx zx37)
                          have ne_t26_x37 : t26 ≠ x37 := Nat.ne_of_lt (Nat.lt_of_lt_of_le S36_x26.ltt zx37)
                          have ne_x29_x37 : x29 ≠ x37 := Nat.ne_of_lt (Nat.lt_of_lt_of_le S36_x29.ltx zx37)
                          have ne_t29_x37 : t29 ≠ x37 := Nat.ne_of_lt (Nat.lt_of_lt_of_le S36_x29.ltt zx37)
                          have ne_x32_x37 : x32 ≠ x37 := Nat.ne_of_lt (Nat.lt_of_lt_of_le S36_x32.ltx zx37)
                          have ne_t32_x37 : t32 ≠ x37 := Nat.ne_of_lt (Nat.lt_of_lt_of_le S36_x32.ltt zx37)
                          have ne_x33_x37 : x33 ≠ x37 := Nat.ne_of_lt (Nat.lt_of_lt_of_le S36_x33.ltx zx37)
                          have ne_t33_x37 : t33 ≠ x37 := Nat.ne_of_lt (Nat.lt_of_lt_of_le S36_x33.ltt zx37)
                          have ne_x36_x37 : x36 ≠ x37 := Nat.ne_of_lt (Nat.lt_of_lt_of_le S_x36.ltx zx37)
                          have ne_t36_x37 : t36 ≠ x37 := Nat.ne_of_lt (Nat.lt_of_lt_of_le S_x36.ltt zx37)
                          have ne_b25_t37 : b25 ≠ t37 := Nat.ne_of_lt (Nat.lt_of_lt_of_le E_36_b25.lt zt37)
                          have ne_b28_t37 : b28 ≠ t37 := Nat.ne_of_lt (Nat.lt_of_lt_of_le E_36_b28.lt zt37)
                          have ne_b31_t37 : b31 ≠ t37 := Nat.ne_of_lt (Nat.lt_of_lt_of_le E_36_b31.lt zt37)
                          have ne_b35_t37 : b35 ≠ t37 := Nat.ne_of_lt (Nat.lt_of_lt_of_le E_36_b35.lt zt37)
                          have ne_x26_t37 : x26 ≠ t37 := Nat.ne_of_lt (Nat.lt_of_lt_of_le S36_x26.ltx zt37)
                          have ne_t26_t37 : t26 ≠ t37 := Nat.ne_of_lt (Nat.lt_of_lt_of_le S36_x26.ltt zt37)
                          have ne_x29_t37 : x29 ≠ t37 := Nat.ne_of_lt (Nat.lt_of_lt_of_le S36_x29.ltx zt37)
                          have ne_t29_t37 : t29 ≠ t37 := Nat.ne_of_lt (Nat.lt_of_lt_of_le S36_x29.ltt zt37)
                          have ne_x32_t37 : x32 ≠ t37 := Nat.ne_of_lt (Nat.lt_of_lt_of_le S36_x32.ltx zt37)
                          have ne_t32_t37 : t32 ≠ t37 := Nat.ne_of_lt (Nat.lt_of_lt_of_le S36_x32.ltt zt37)
                          have ne_x33_t37 : x33 ≠ t37 := Nat.ne_of_lt (Nat.lt_of_lt_of_le S36_x33.ltx zt37)
                          have ne_t33_t37 : t33 ≠ t37 := Nat.ne_of_lt (Nat.lt_of_lt_of_le S36_x33.ltt zt37)
                          have ne_x36_t37 : x36 ≠ t37 := Nat.ne_of_lt (Nat.lt_of_lt_of_le S_x36.ltx zt37)
                          have ne_t36_t37 : t36 ≠ t37 := Nat.ne_of_lt (Nat.lt_of_lt_of_le S_x36.ltt zt37)
                          have O_37_ := O_36_.keep K37 all0
                          have E_37_b25 := E_36_b25.keep K37
                          have F_37_b25_value := F_36_b25_value.keep K37 nin0
                          have E_37_b28 := E_36_b28.keep K37
                          have F_37_b28_value := F_36_b28_value.keep K37 nin0
                          have E_37_b31 := E_36_b31.keep K37
                          have F_37_b31_scope := F_36_b31_scope.keep K37 nin0
                          have F_37_b31_operation := F_36_b31_operation.keep K37 nin0
                          have F_37_b31_key := F_36_b31_key.keep K37 nin0
                          have E_37_b35 := E_36_b35.keep K37
                          have F_37_b35_scope := F_36_b35_scope.keep K37 nin0
                          have F_37_b35_operation := F_36_b35_operation.keep K37 nin0
                          have F_37_b35_key := F_36_b35_key.keep K37 nin0
                          have S37_x26 := S36_x26.keep K37 nin0 nin0
                          have S37_x29 := S36_x29.keep K37 nin0 nin0
                          have S37_x32 := S36_x32.keep K37 nin0 nin0
                          have S37_x33 := S36_x33.keep K37 nin0 nin0
                          have S37_x36 := S_x36.keep K37 nin0 nin0
                          have Z37 : n0 ≤ T37.heap.size := Nat.le_trans Z36 K37.1
                          have hk37 : _ ≤ T37.heap.size := Nat.le_trans hk36 K37.1
                          show Go p_ e_ below _ _ T37 (mkF m_ 465 #[.val (.int p0), .val (.int p1), .val (.int p2), .val (.int p3), .val (.int p4), .val (.int p5), .val (.int las), .val (.int lao), .val (.int lak), .val (.int ss), .val (.int so), .val (.int sk), .val (.int lbs), .val (.int lbo), .val (.int lbk), .val (.int as0), .val (.int as1), .val (.int bs0), .val (.int bs1), .val (.int ao0), .val (.int ao1), .val (.int bo0), .val (.int bo1), .val (.int ka0), .val (.int ka1), .val (.int kb0), .val (.int kb1), .val (.int ak0), .val (.int ak1), .val (.int bk0), .val (.int bk1), .val (.ref b25), .val (.ref b28), .val (.ref b31), .unset, .unset, .unset, .unset] [(.ref x37), (.ref x36), (.ref b35), (.ref b35)])
                          refine Go.aload X37 hx (hb hby at_465) rfl rfl ?_
                          refine Go.callIS X37 hx hZ (rm18 l Z a0 hw [] b35 x36 x37 b28 t36 kb36 (own_cs bs0 bs1 lbs) t37 kb37 (own_cs bo0 bo1 lbo) zc T37.heap n0 Z37 O_37_ Sco hzc E_37_b35 F_37_b35_scope F_37_b35_operation F_37_b35_key g_b35 S37_x36 (own_all (P := fun c => ¬ c < 0 ∧ ¬ (255 : Int32) < c) (own_br r_bs0) (own_br r_bs1)) ⟨(own_csl _ _ _).1, Nat.le_trans (own_csl _ _ _).2 (by decide)⟩ S_x37 (own_all (P := fun c => ¬ c < 0 ∧ ¬ (255 : Int32) < c) (own_br r_bo0) (own_br r_bo1)) ⟨(own_csl _ _ _).1, Nat.le_trans (own_csl _ _ _).2 (by decide)⟩ (Ne.symm ne_b35_x36) (Ne.symm ne_b35_t36) (Ne.symm ne_b35_x37) (Ne.symm ne_b35_t37)) rfl hown (hw _ (List.mem_of_getElem? (i := 90) rfl)) (hw _ (List.mem_of_getElem? (i := 91) rfl)) (hw _ (List.mem_of_getElem? (i := 89) rfl)) (hw _ (List.mem_of_getElem? (i := 92) rfl)) (by decide) hS34 rfl hk37 (a := b35) (W := 1) (by rw [hml]; rfl) (argsL := [(.ref x36), (.ref x37), (.ref b28)]) (S := [(.ref b35)]) (Nat.le_of_ble_eq_true rfl) (by decide) (by decide) (by decide) (by decide) pd_oLjava_lang_StringLjava_lang_StringLcom_example_safe_retries_saferetries_identity_IdempotencyKeycV rfl rfl (hb hby at_467) ?_
                          rintro _ T38 L38 X38 ⟨rfl, N38q, K38, E38, Fscope_38, Foperation_38, Fkey_38⟩ hS38 hg38 hZ hown
                          have N38 := Fr.app N37 N38q
                          have O_38_ := O_37_.keep K38 (allS g_b35 all0)
                          have E_38_b25 := E_37_b25.keep K38
                          have F_38_b25_value := F_37_b25_value.keep K38 (ninS ne_b25_b35 nin0)
                          have E_38_b28 := E_37_b28.keep K38
                          have F_38_b28_value := F_37_b28_value.keep K38 (ninS ne_b28_b35 nin0)
                          have E_38_b31 := E_37_b31.keep K38
                          have F_38_b31_scope := F_37_b31_scope.keep K38 (ninS ne_b31_b35 nin0)
                          have F_38_b31_operation := F_37_b31_operation.keep K38 (ninS ne_b31_b35 nin0)
                          have F_38_b31_key := F_37_b31_key.keep K38 (ninS ne_b31_b35 nin0)
                          have S38_x26 := S37_x26.keep K38 (ninS ne_x26_b35 nin0) (ninS ne_t26_b35 nin0)
                          have S38_x29 := S37_x29.keep K38 (ninS ne_x29_b35 nin0) (ninS ne_t29_b35 nin0)
                          have S38_x32 := S37_x32.keep K38 (ninS ne_x32_b35 nin0) (ninS ne_t32_b35 nin0)
                          have S38_x33 := S37_x33.keep K38 (ninS ne_x33_b35 nin0) (ninS ne_t33_b35 nin0)
                          have S38_x36 := S37_x36.keep K38 (ninS (Ne.symm ne_b35_x36) nin0) (ninS (Ne.symm ne_b35_t36) nin0)
                          have S38_x37 := S_x37.keep K38 (ninS (Ne.symm ne_b35_x37) nin0) (ninS (Ne.symm ne_b35_t37) nin0)
                          have Z38 : n0 ≤ T38.heap.size := Nat.le_trans Z37 K38.1
                          have hk38 : _ ≤ T38.heap.size := Nat.le_trans hk37 K38.1
                          show Go p_ e_ below _ _ T38 (mkF m_ 470 #[.val (.int p0), .val (.int p1), .val (.int p2), .val (.int p3), .val (.int p4), .val (.int p5), .val (.int las), .val (.int lao), .val (.int lak), .val (.int ss), .val (.int so), .val (.int sk), .val (.int lbs), .val (.int lbo), .val (.int lbk), .val (.int as0), .val (.int as1), .val (.int bs0), .val (.int bs1), .val (.int ao0), .val (.int ao1), .val (.int bo0), .val (.int bo1), .val (.int ka0), .val (.int ka1), .val (.int kb0), .val (.int kb1), .val (.int ak0), .val (.int ak1), .val (.int bk0), .val (.int bk1), .val (.ref b25), .val (.ref b28), .val (.ref b31), .unset, .unset, .unset, .unset] [(.ref b35)])
                          refine Go.astore X38 hx (l' := #[.val (.int p0), .val (.int p1), .val (.int p2), .val (.int p3), .val (.int p4), .val (.int p5), .val (.int las), .val (.int lao), .val (.int lak), .val (.int ss), .val (.int so), .val (.int sk), .val (.int lbs), .val (.int lbo), .val (.int lbk), .val (.int as0), .val (.int as1), .val (.int bs0), .val (.int bs1), .val (.int ao0), .val (.int ao1), .val (.int bo0), .val (.int bo1), .val (.int ka0), .val (.int ka1), .val (.int kb0), .val (.int kb1), .val (.int ak0), .val (.int ak1), .val (.int bk0), .val (.int bk1), .val (.ref b25), .val (.ref b28), .val (.ref b31), .val (.ref b35), .unset, .unset, .unset]) (hb hby at_470) rfl rfl ?_
                          refine Go.iload X38 hx (hb hby at_472) rfl ?_
                          refine Go.bipush X38 hx (9 : Int32) (hb hby at_474) rfl ?_
                          refine Go.iushr X38 hx (hb hby at_476) ?_
                          refine Go.bipush X38 hx (7 : Int32) (hb hby at_477) rfl ?_
                          refine Go.iand X38 hx (hb hby at_479) ?_
                          refine Go.istore X38 hx (l' := #[.val (.int p0), .val (.int p1), .val (.int p2), .val (.int p3), .val (.int p4), .val (.int p5), .val (.int las), .val (.int lao), .val (.int lak), .val (.int ss), .val (.int so), .val (.int sk), .val (.int lbs), .val (.int lbo), .val (.int lbk), .val (.int as0), .val (.int as1), .val (.int bs0), .val (.int bs1), .val (.int ao0), .val (.int ao1), .val (.int bo0), .val (.int bo1), .val (.int ka0), .val (.int ka1), .val (.int kb0), .val (.int kb1), .val (.int ak0), .val (.int ak1), .val (.int bk0), .val (.int bk1), .val (.ref b25), .val (.ref b28), .val (.ref b31), .val (.ref b35), .val (.int (((p5.toUInt32 >>> ((9 : Int32) &&& 31).toUInt32).toInt32) &&& (7 : Int32))), .unset, .unset]) (hb hby at_480) rfl ?_
                          refine Go.iload X38 hx (hb hby at_482) rfl ?_
                          refine Go.iconst X38 hx (4 : Int32) (hb hby at_484) rfl ?_
                          by_cases hc485_39 : (4 : Int32) < (((p5.toUInt32 >>> ((9 : Int32) &&& 31).toUInt32).toInt32) &&& (7 : Int32))
                          · skip
                            refine Go.icmpYes X38 hx (pc' := 556) (hb hby at_485) (tlt hc485_39).2.2.1 (by decide) (by decide) ?_
                            show Go p_ e_ below _ _ T38 (mkF m_ 556 #[.val (.int p0), .val (.int p1), .val (.int p2), .val (.int p3), .val (.int p4), .val (.int p5), .val (.int las), .val (.int lao), .val (.int lak), .val (.int ss), .val (.int so), .val (.int sk), .val (.int lbs), .val (.int lbo), .val (.int lbk), .val (.int as0), .val (.int as1), .val (.int bs0), .val (.int bs1), .val (.int ao0), .val (.int ao1), .val (.int bo0), .val (.int bo1), .val (.int ka0), .val (.int ka1), .val (.int kb0), .val (.int kb1), .val (.int ak0), .val (.int ak1), .val (.int bk0), .val (.int bk1), .val (.ref b25), .val (.ref b28), .val (.ref b31), .val (.ref b35), .val (.int (((p5.toUInt32 >>> ((9 : Int32) &&& 31).toUInt32).toInt32) &&& (7 : Int32))), .unset, .unset] [])
                            refine Go.iload X38 hx (hb hby at_556) rfl ?_
                            refine Go.iconst X38 hx (5 : Int32) (hb hby at_558) rfl ?_
                            by_cases hc559_40 : (((p5.toUInt32 >>> ((9 : Int32) &&& 31).toUInt32).toInt32) &&& (7 : Int32)) = (5 : Int32)
                            · skip
                              refine Go.icmpNo X38 hx (hb hby at_559) (teq hc559_40).2 ?_
                              show Go p_ e_ below _ _ T38 (mkF m_ 562 #[.val (.int p0), .val (.int p1), .val (.int p2), .val (.int p3), .val (.int p4), .val (.int p5), .val (.int las), .val (.int lao), .val (.int lak), .val (.int ss), .val (.int so), .val (.int sk), .val (.int lbs), .val (.int lbo), .val (.int lbk), .val (.int as0), .val (.int as1), .val (.int bs0), .val (.int bs1), .val (.int ao0), .val (.int ao1), .val (.int bo0), .val (.int bo1), .val (.int ka0), .val (.int ka1), .val (.int kb0), .val (.int kb1), .val (.int ak0), .val (.int ak1), .val (.int bk0), .val (.int bk1), .val (.ref b25), .val (.ref b28), .val (.ref b31), .val (.ref b35), .val (.int (((p5.toUInt32 >>> ((9 : Int32) &&& 31).toUInt32).toInt32) &&& (7 : Int32))), .unset, .unset] [])
                              refine Go.aconstNull X38 hx (hb hby at_562) ?_
                              refine Go.astore X38 hx (l' := #[.val (.int p0), .val (.int p1), .val (.int p2), .val (.int p3), .val (.int p4), .val (.int p5), .val (.int las), .val (.int lao), .val (.int lak), .val (.int ss), .val (.int so), .val (.int sk), .val (.int lbs), .val (.int lbo), .val (.int lbk), .val (.int as0), .val (.int as1), .val (.int bs0), .val (.int bs1), .val (.int ao0), .val (.int ao1), .val (.int bo0), .val (.int bo1), .val (.int ka0), .val (.int ka1), .val (.int kb0), .val (.int kb1), .val (.int ak0), .val (.int ak1), .val (.int bk0), .val (.int bk1), .val (.ref b25), .val (.ref b28), .val (.ref b31), .val (.ref b35), .val (.int (((p5.toUInt32 >>> ((9 : Int32) &&& 31).toUInt32).toInt32) &&& (7 : Int32))), .val .null, .unset]) (hb hby at_563) rfl rfl ?_
                              refine Go.iconst X38 hx (0 : Int32) (hb hby at_565) rfl ?_
                              refine Go.istore X38 hx (l' := #[.val (.int p0), .val (.int p1), .val (.int p2), .val (.int p3), .val (.int p4), .val (.int p5), .val (.int las), .val (.int lao), .val (.int lak), .val (.int ss), .val (.int so), .val (.int sk), .val (.int lbs), .val (.int lbo), .val (.int lbk), .val (.int as0), .val (.int as1), .val (.int bs0), .val (.int bs1), .val (.int ao0), .val (.int ao1), .val (.int bo0), .val (.int bo1), .val (.int ka0), .val (.int ka1), .val (.int kb0), .val (.int kb1), .val (.int ak0), .val (.int ak1), .val (.int bk0), .val (.int bk1), .val (.ref b25), .val (.ref b28), .val (.ref b31), .val (.ref b35), .val (.int (((p5.toUInt32 >>> ((9 : Int32) &&& 31).toUInt32).toInt32) &&& (7 : Int32))), .val .null, .val (.int (0 : Int32))]) (hb hby at_566) rfl ?_
                              refine Go.goto X38 hx (pc' := 595) (hb hby at_568) (by decide) (by decide) ?_
                              refine Go.aload X38 hx (hb hby at_595) rfl rfl ?_
                              refine Go.aload X38 hx (hb hby at_597) rfl rfl ?_
                              refine Go.callV X38 hx hZ (y0 := (⟨"com/example/safe_retries/saferetries/identity/RequestIdentity", "equals", "(Ljava/lang/Object;)Z"⟩ : MethodName)) (rm20n l Z a0 hw [] b31 T38.heap n0 Z38) (by decide) hown (hw _ (List.mem_of_getElem? (i := 108) rfl)) (hw _ (List.mem_of_getElem? (i := 109) rfl)) (notFace_of_selects (args := #[]) (mvT hZ (hw _ (List.mem_of_getElem? (i := 111) rfl)))) (hw _ (List.mem_of_getElem? (i := 111) rfl)) (hw _ (List.mem_of_getElem? (i := 110) rfl)) (hw _ (List.mem_of_getElem? (i := 89) rfl)) (hw _ (List.mem_of_getElem? (i := 112) rfl)) rfl E_38_b31 (W := 0) (by rw [hml]; rfl) (argsL := [.null]) (S := []) (Nat.le_of_ble_eq_true rfl) (by decide) (by decide) (by decide) (by decide) pd_oLjava_lang_ObjectcZ rfl rfl (hb hby at_599) ?_
                              rintro _ T41 L41 X41 ⟨rfl, N41q, e41⟩
                              have N41 := Fr.app N38 N41q
                              show Go p_ e_ below _ _ T41 (mkF m_ 602 #[.val (.int p0), .val (.int p1), .val (.int p2), .val (.int p3), .val (.int p4), .val (.int p5), .val (.int las), .val (.int lao), .val (.int lak), .val (.int ss), .val (.int so), .val (.int sk), .val (.int lbs), .val (.int lbo), .val (.int lbk), .val (.int as0), .val (.int as1), .val (.int bs0), .val (.int bs1), .val (.int ao0), .val (.int ao1), .val (.int bo0), .val (.int bo1), .val (.int ka0), .val (.int ka1), .val (.int kb0), .val (.int kb1), .val (.int ak0), .val (.int ak1), .val (.int bk0), .val (.int bk1), .val (.ref b25), .val (.ref b28), .val (.ref b31), .val (.ref b35), .val (.int (((p5.toUInt32 >>> ((9 : Int32) &&& 31).toUInt32).toInt32) &&& (7 : Int32))), .val .null, .val (.int (0 : Int32))] [(.int (0 : Int32))])
                              refine Go.iload X41 hx (hb hby at_602) rfl ?_
                              refine Go.icmpNo X41 hx (hb hby at_604) (teq rfl).2 ?_
                              show Go p_ e_ below _ _ T41 (mkF m_ 607 #[.val (.int p0), .val (.int p1), .val (.int p2), .val (.int p3), .val (.int p4), .val (.int p5), .val (.int las), .val (.int lao), .val (.int lak), .val (.int ss), .val (.int so), .val (.int sk), .val (.int lbs), .val (.int lbo), .val (.int lbk), .val (.int as0), .val (.int as1), .val (.int bs0), .val (.int bs1), .val (.int ao0), .val (.int ao1), .val (.int bo0), .val (.int bo1), .val (.int ka0), .val (.int ka1), .val (.int kb0), .val (.int kb1), .val (.int ak0), .val (.int ak1), .val (.int bk0), .val (.int bk1), .val (.ref b25), .val (.ref b28), .val (.ref b31), .val (.ref b35), .val (.int (((p5.toUInt32 >>> ((9 : Int32) &&& 31).toUInt32).toInt32) &&& (7 : Int32))), .val .null, .val (.int (0 : Int32))] [])
                              refine Go.iconst X41 hx (1 : Int32) (hb hby at_607) rfl ?_
                              refine Go.goto X41 hx (pc' := 612) (hb hby at_608) (by decide) (by decide) ?_
                              refine Go.retNW X41 hx hS38 e41 (Nat.le_refl _) hret hlk (by simp) (hb hby at_612) (by decide) (by decide) ?_
                              exact ⟨rfl, N41⟩
                            · skip
                              refine Go.icmpYes X38 hx (pc' := 571) (hb hby at_559) (feq hc559_40).2 (by decide) (by decide) ?_
                              show Go p_ e_ below _ _ T38 (mkF m_ 571 #[.val (.int p0), .val (.int p1), .val (.int p2), .val (.int p3), .val (.int p4), .val (.int p5), .val (.int las), .val (.int lao), .val (.int lak), .val (.int ss), .val (.int so), .val (.int sk), .val (.int lbs), .val (.int lbo), .val (.int lbk), .val (.int as0), .val (.int as1), .val (.int bs0), .val (.int bs1), .val (.int ao0), .val (.int ao1), .val (.int bo0), .val (.int bo1), .val (.int ka0), .val (.int ka1), .val (.int kb0), .val (.int kb1), .val (.int ak0), .val (.int ak1), .val (.int bk0), .val (.int bk1), .val (.ref b25), .val (.ref b28), .val (.ref b31), .val (.ref b35), .val (.int (((p5.toUInt32 >>> ((9 : Int32) &&& 31).toUInt32).toInt32) &&& (7 : Int32))), .unset, .unset] [])
                              refine Go.iload X38 hx (hb hby at_571) rfl ?_
                              refine Go.bipush X38 hx (6 : Int32) (hb hby at_573) rfl ?_
                              by_cases hc575_42 : (((p5.toUInt32 >>> ((9 : Int32) &&& 31).toUInt32).toInt32) &&& (7 : Int32)) = (6 : Int32)
                              · skip
                                refine Go.icmpNo X38 hx (hb hby at_575) (teq hc575_42).2 ?_
                                show Go p_ e_ below _ _ T38 (mkF m_ 578 #[.val (.int p0), .val (.int p1), .val (.int p2), .val (.int p3), .val (.int p4), .val (.int p5), .val (.int las), .val (.int lao), .val (.int lak), .val (.int ss), .val (.int so), .val (.int sk), .val (.int lbs), .val (.int lbo), .val (.int lbk), .val (.int as0), .val (.int as1), .val (.int bs0), .val (.int bs1), .val (.int ao0), .val (.int ao1), .val (.int bo0), .val (.int bo1), .val (.int ka0), .val (.int ka1), .val (.int kb0), .val (.int kb1), .val (.int ak0), .val (.int ak1), .val (.int bk0), .val (.int bk1), .val (.ref b25), .val (.ref b28), .val (.ref b31), .val (.ref b35), .val (.int (((p5.toUInt32 >>> ((9 : Int32) &&& 31).toUInt32).toInt32) &&& (7 : Int32))), .unset, .unset] [])
                                refine Go.aload X38 hx (hb hby at_578) rfl rfl ?_
                                refine Go.astore X38 hx (l' := #[.val (.int p0), .val (.int p1), .val (.int p2), .val (.int p3), .val (.int p4), .val (.int p5), .val (.int las), .val (.int lao), .val (.int lak), .val (.int ss), .val (.int so), .val (.int sk), .val (.int lbs), .val (.int lbo), .val (.int lbk), .val (.int as0), .val (.int as1), .val (.int bs0), .val (.int bs1), .val (.int ao0), .val (.int ao1), .val (.int bo0), .val (.int bo1), .val (.int ka0), .val (.int ka1), .val (.int kb0), .val (.int kb1), .val (.int ak0), .val (.int ak1), .val (.int bk0), .val (.int bk1), .val (.ref b25), .val (.ref b28), .val (.ref b31), .val (.ref b35), .val (.int (((p5.toUInt32 >>> ((9 : Int32) &&& 31).toUInt32).toInt32) &&& (7 : Int32))), .val (.ref b25), .unset]) (hb hby at_580) rfl rfl ?_
                                refine Go.iconst X38 hx (0 : Int32) (hb hby at_582) rfl ?_
                                refine Go.istore X38 hx (l' := #[.val (.int p0), .val (.int p1), .val (.int p2), .val (.int p3), .val (.int p4), .val (.int p5), .val (.int las), .val (.int lao), .val (.int lak), .val (.int ss), .val (.int so), .val (.int sk), .val (.int lbs), .val (.int lbo), .val (.int lbk), .val (.int as0), .val (.int as1), .val (.int bs0), .val (.int bs1), .val (.int ao0), .val (.int ao1), .val (.int bo0), .val (.int bo1), .val (.int ka0), .val (.int ka1), .val (.int kb0), .val (.int kb1), .val (.int ak0), .val (.int ak1), .val (.int bk0), .val (.int bk1), .val (.ref b25), .val (.ref b28), .val (.ref b31), .val (.ref b35), .val (.int (((p5.toUInt32 >>> ((9 : Int32) &&& 31).toUInt32).toInt32) &&& (7 : Int32))), .val (.ref b25), .val (.int (0 : Int32))]) (hb hby at_583) rfl ?_
                                refine Go.goto X38 hx (pc' := 595) (hb hby at_585) (by decide) (by decide) ?_
                                refine Go.aload X38 hx (hb hby at_595) rfl rfl ?_
                                refine Go.aload X38 hx (hb hby at_597) rfl rfl ?_
                                refine Go.callV X38 hx hZ (y0 := (⟨"com/example/safe_retries/saferetries/identity/RequestIdentity", "equals", "(Ljava/lang/Object;)Z"⟩ : MethodName)) (rm20o l Z a0 hw [] b31 b25 T38.heap n0 Z38 E_38_b25) (by decide) hown (hw _ (List.mem_of_getElem? (i := 108) rfl)) (hw _ (List.mem_of_getElem? (i := 109) rfl)) (notFace_of_selects (args := #[]) (mvT hZ (hw _ (List.mem_of_getElem? (i := 111) rfl)))) (hw _ (List.mem_of_getElem? (i := 111) rfl)) (hw _ (List.mem_of_getElem? (i := 110) rfl)) (hw _ (List.mem_of_getElem? (i := 89) rfl)) (hw _ (List.mem_of_getElem? (i := 112) rfl)) rfl E_38_b31 (W := 0) (by rw [hml]; rfl) (argsL := [(.ref b25)]) (S := []) (Nat.le_of_ble_eq_true rfl) (by decide) (by decide) (by decide) (by decide) pd_oLjava_lang_ObjectcZ rfl rfl (hb hby at_599) ?_
                                rintro _ T43 L43 X43 ⟨rfl, N43q, e43⟩
                                have N43 := Fr.app N38 N43q
                                show Go p_ e_ below _ _ T43 (mkF m_ 602 #[.val (.int p0), .val (.int p1), .val (.int p2), .val (.int p3), .val (.int p4), .val (.int p5), .val (.int las), .val (.int lao), .val (.int lak), .val (.int ss), .val (.int so), .val (.int sk), .val (.int lbs), .val (.int lbo), .val (.int lbk), .val (.int as0), .val (.int as1), .val (.int bs0), .val (.int bs1), .val (.int ao0), .val (.int ao1), .val (.int bo0), .val (.int bo1), .val (.int ka0), .val (.int ka1), .val (.int kb0), .val (.int kb1), .val (.int ak0), .val (.int ak1), .val (.int bk0), .val (.int bk1), .val (.ref b25), .val (.ref b28), .val (.ref b31), .val (.ref b35), .val (.int (((p5.toUInt32 >>> ((9 : Int32) &&& 31).toUInt32).toInt32) &&& (7 : Int32))), .val (.ref b25), .val (.int (0 : Int32))] [(.int (0 : Int32))])
                                refine Go.iload X43 hx (hb hby at_602) rfl ?_
                                refine Go.icmpNo X43 hx (hb hby at_604) (teq rfl).2 ?_
                                show Go p_ e_ below _ _ T43 (mkF m_ 607 #[.val (.int p0), .val (.int p1), .val (.int p2), .val (.int p3), .val (.int p4), .val (.int p5), .val (.int las), .val (.int lao), .val (.int lak), .val (.int ss), .val (.int so), .val (.int sk), .val (.int lbs), .val (.int lbo), .val (.int lbk), .val (.int as0), .val (.int as1), .val (.int bs0), .val (.int bs1), .val (.int ao0), .val (.int ao1), .val (.int bo0), .val (.int bo1), .val (.int ka0), .val (.int ka1), .val (.int kb0), .val (.int kb1), .val (.int ak0), .val (.int ak1), .val (.int bk0), .val (.int bk1), .val (.ref b25), .val (.ref b28), .val (.ref b31), .val (.ref b35), .val (.int (((p5.toUInt32 >>> ((9 : Int32) &&& 31).toUInt32).toInt32) &&& (7 : Int32))), .val (.ref b25), .val (.int (0 : Int32))] [])
                                refine Go.iconst X43 hx (1 : Int32) (hb hby at_607) rfl ?_
                                refine Go.goto X43 hx (pc' := 612) (hb hby at_608) (by decide) (by decide) ?_
                                refine Go.retNW X43 hx hS38 e43 (Nat.le_refl _) hret hlk (by simp) (hb hby at_612) (by decide) (by decide) ?_
                                exact ⟨rfl, N43⟩
                              · skip
                                refine Go.icmpYes X38 hx (pc' := 588) (hb hby at_575) (feq hc575_42).2 (by decide) (by decide) ?_
                                show Go p_ e_ below _ _ T38 (mkF m_ 588 #[.val (.int p0), .val (.int p1), .val (.int p2), .val (.int p3), .val (.int p4), .val (.int p5), .val (.int las), .val (.int lao), .val (.int lak), .val (.int ss), .val (.int so), .val (.int sk), .val (.int lbs), .val (.int lbo), .val (.int lbk), .val (.int as0), .val (.int as1), .val (.int bs0), .val (.int bs1), .val (.int ao0), .val (.int ao1), .val (.int bo0), .val (.int bo1), .val (.int ka0), .val (.int ka1), .val (.int kb0), .val (.int kb1), .val (.int ak0), .val (.int ak1), .val (.int bk0), .val (.int bk1), .val (.ref b25), .val (.ref b28), .val (.ref b31), .val (.ref b35), .val (.int (((p5.toUInt32 >>> ((9 : Int32) &&& 31).toUInt32).toInt32) &&& (7 : Int32))), .unset, .unset] [])
                                refine Go.aload X38 hx (hb hby at_588) rfl rfl ?_
                                refine Go.astore X38 hx (l' := #[.val (.int p0), .val (.int p1), .val (.int p2), .val (.int p3), .val (.int p4), .val (.int p5), .val (.int las), .val (.int lao), .val (.int lak), .val (.int ss), .val (.int so), .val (.int sk), .val (.int lbs), .val (.int lbo), .val (.int lbk), .val (.int as0), .val (.int as1), .val (.int bs0), .val (.int bs1), .val (.int ao0), .val (.int ao1), .val (.int bo0), .val (.int bo1), .val (.int ka0), .val (.int ka1), .val (.int kb0), .val (.int kb1), .val (.int ak0), .val (.int ak1), .val (.int bk0), .val (.int bk1), .val (.ref b25), .val (.ref b28), .val (.ref b31), .val (.ref b35), .val (.int (((p5.toUInt32 >>> ((9 : Int32) &&& 31).toUInt32).toInt32) &&& (7 : Int32))), .val (.ref b31), .unset]) (hb hby at_590) rfl rfl ?_
                                refine Go.iconst X38 hx (1 : Int32) (hb hby at_592) rfl ?_
                                refine Go.istore X38 hx (l' := #[.val (.int p0), .val (.int p1), .val (.int p2), .val (.int p3), .val (.int p4), .val (.int p5), .val (.int las), .val (.int lao), .val (.int lak), .val (.int ss), .val (.int so), .val (.int sk), .val (.int lbs), .val (.int lbo), .val (.int lbk), .val (.int as0), .val (.int as1), .val (.int bs0), .val (.int bs1), .val (.int ao0), .val (.int ao1), .val (.int bo0), .val (.int bo1), .val (.int ka0), .val (.int ka1), .val (.int kb0), .val (.int kb1), .val (.int ak0), .val (.int ak1), .val (.int bk0), .val (.int bk1), .val (.ref b25), .val (.ref b28), .val (.ref b31), .val (.ref b35), .val (.int (((p5.toUInt32 >>> ((9 : Int32) &&& 31).toUInt32).toInt32) &&& (7 : Int32))), .val (.ref b31), .val (.int (1 : Int32))]) (hb hby at_593) rfl ?_
                                refine Go.aload X38 hx (hb hby at_595) rfl rfl ?_
                                refine Go.aload X38 hx (hb hby at_597) rfl rfl ?_
                                refine Go.callV X38 hx hZ (y0 := (⟨"com/example/safe_retries/saferetries/identity/RequestIdentity", "equals", "(Ljava/lang/Object;)Z"⟩ : MethodName)) (rm20 l Z a0 hw [] b31 b31 x32 t32 kb32 (own_cs as0 as1 las) x33 t33 kb33 (own_cs ao0 ao1 lao) x26 t26 kb26 (own_cs ak0 ak1 lak) x32 t32 kb32 (own_cs as0 as1 las) x33 t33 kb33 (own_cs ao0 ao1 lao) x26 t26 kb26 (own_cs ak0 ak1 lak) b25 b25 zc T38.heap n0 Z38 O_38_ Sco hzc E_38_b31 E_38_b25 E_38_b25 F_38_b31_scope F_38_b31_operation F_38_b31_key F_38_b25_value F_38_b31_scope F_38_b31_operation F_38_b31_key F_38_b25_value S38_x32 (own_all (P := fun c => ¬ c < 0 ∧ ¬ (255 : Int32) < c) (own_br r_as0) (own_br r_as1)) (Nat.le_trans (own_csl _ _ _).2 (by decide)) S38_x33 (own_all (P := fun c => ¬ c < 0 ∧ ¬ (255 : Int32) < c) (own_br r_ao0) (own_br r_ao1)) (Nat.le_trans (own_csl _ _ _).2 (by decide)) S38_x26 (own_all (P := fun c => ¬ c < 0 ∧ ¬ (255 : Int32) < c) (own_pr r_ak0).1 (own_pr r_ak1).1) (Nat.le_trans (own_csl _ _ _).2 (by decide)) S38_x32 (own_all (P := fun c => ¬ c < 0 ∧ ¬ (255 : Int32) < c) (own_br r_as0) (own_br r_as1)) (Nat.le_trans (own_csl _ _ _).2 (by decide)) S38_x33 (own_all (P := fun c => ¬ c < 0 ∧ ¬ (255 : Int32) < c) (own_br r_ao0) (own_br r_ao1)) (Nat.le_trans (own_csl _ _ _).2 (by decide)) S38_x26 (own_all (P := fun c => ¬ c < 0 ∧ ¬ (255 : Int32) < c) (own_pr r_ak0).1 (own_pr r_ak1).1) (Nat.le_trans (own_csl _ _ _).2 (by decide))) (by decide) hown (hw _ (List.mem_of_getElem? (i := 108) rfl)) (hw _ (List.mem_of_getElem? (i := 109) rfl)) (notFace_of_selects (args := #[]) (mvT hZ (hw _ (List.mem_of_getElem? (i := 111) rfl)))) (hw _ (List.mem_of_getElem? (i := 111) rfl)) (hw _ (List.mem_of_getElem? (i := 110) rfl)) (hw _ (List.mem_of_getElem? (i := 89) rfl)) (hw _ (List.mem_of_getElem? (i := 112) rfl)) rfl E_38_b31 (W := 0) (by rw [hml]; rfl) (argsL := [(.ref b31)]) (S := []) (Nat.le_of_ble_eq_true rfl) (by decide) (by decide) (by decide) (by decide) pd_oLjava_lang_ObjectcZ rfl rfl (hb hby at_599) ?_
                                rintro _ T44 L44 X44 ⟨rfl, N44q, e44⟩
                                have N44 := Fr.app N38 N44q
                                show Go p_ e_ below _ _ T44 (mkF m_ 602 #[.val (.int p0), .val (.int p1), .val (.int p2), .val (.int p3), .val (.int p4), .val (.int p5), .val (.int las), .val (.int lao), .val (.int lak), .val (.int ss), .val (.int so), .val (.int sk), .val (.int lbs), .val (.int lbo), .val (.int lbk), .val (.int as0), .val (.int as1), .val (.int bs0), .val (.int bs1), .val (.int ao0), .val (.int ao1), .val (.int bo0), .val (.int bo1), .val (.int ka0), .val (.int ka1), .val (.int kb0), .val (.int kb1), .val (.int ak0), .val (.int ak1), .val (.int bk0), .val (.int bk1), .val (.ref b25), .val (.ref b28), .val (.ref b31), .val (.ref b35), .val (.int (((p5.toUInt32 >>> ((9 : Int32) &&& 31).toUInt32).toInt32) &&& (7 : Int32))), .val (.ref b31), .val (.int (1 : Int32))] [(.int (own_re (own_cs as0 as1 las) (own_cs ao0 ao1 lao) (own_cs ak0 ak1 lak) (own_cs as0 as1 las) (own_cs ao0 ao1 lao) (own_cs ak0 ak1 lak)))])
                                refine Go.iload X44 hx (hb hby at_602) rfl ?_
                                refine Go.icmpNo X44 hx (hb hby at_604) (teq (own_self _ _ _)).2 ?_
                                show Go p_ e_ below _ _ T44 (mkF m_ 607 #[.val (.int p0), .val (.int p1), .val (.int p2), .val (.int p3), .val (.int p4), .val (.int p5), .val (.int las), .val (.int lao), .val (.int lak), .val (.int ss), .val (.int so), .val (.int sk), .val (.int lbs), .val (.int lbo), .val (.int lbk), .val (.int as0), .val (.int as1), .val (.int bs0), .val (.int bs1), .val (.int ao0), .val (.int ao1), .val (.int bo0), .val (.int bo1), .val (.int ka0), .val (.int ka1), .val (.int kb0), .val (.int kb1), .val (.int ak0), .val (.int ak1), .val (.int bk0), .val (.int bk1), .val (.ref b25), .val (.ref b28), .val (.ref b31), .val (.ref b35), .val (.int (((p5.toUInt32 >>> ((9 : Int32) &&& 31).toUInt32).toInt32) &&& (7 : Int32))), .val (.ref b31), .val (.int (1 : Int32))] [])
                                refine Go.iconst X44 hx (1 : Int32) (hb hby at_607) rfl ?_
                                refine Go.goto X44 hx (pc' := 612) (hb hby at_608) (by decide) (by decide) ?_
                                refine Go.retNW X44 hx hS38 e44 (Nat.le_refl _) hret hlk (by simp) (hb hby at_612) (by decide) (by decide) ?_
                                exact ⟨rfl, N44⟩
                          · skip
                            refine Go.icmpNo X38 hx (hb hby at_485) (flt hc485_39).2.2.1 ?_
                            show Go p_ e_ below _ _ T38 (mkF m_ 488 #[.val (.int p0), .val (.int p1), .val (.int p2), .val (.int p3), .val (.int p4), .val (.int p5), .val (.int las), .val (.int lao), .val (.int lak), .val (.int ss), .val (.int so), .val (.int sk), .val (.int lbs), .val (.int lbo), .val (.int lbk), .val (.int as0), .val (.int as1), .val (.int bs0), .val (.int bs1), .val (.int ao0), .val (.int ao1), .val (.int bo0), .val (.int bo1), .val (.int ka0), .val (.int ka1), .val (.int kb0), .val (.int kb1), .val (.int ak0), .val (.int ak1), .val (.int bk0), .val (.int bk1), .val (.ref b25), .val (.ref b28), .val (.ref b31), .val (.ref b35), .val (.int (((p5.toUInt32 >>> ((9 : Int32) &&& 31).toUInt32).toInt32) &&& (7 : Int32))), .unset, .unset] [])
                            refine Go.aload X38 hx (hb hby at_488) rfl rfl ?_
                            refine Go.astore X38 hx (l' := #[.val (.int p0), .val (.int p1), .val (.int p2), .val (.int p3), .val (.int p4), .val (.int p5), .val (.int las), .val (.int lao), .val (.int lak), .val (.int ss), .val (.int so), .val (.int sk), .val (.int lbs), .val (.int lbo), .val (.int lbk), .val (.int as0), .val (.int as1), .val (.int bs0), .val (.int bs1), .val (.int ao0), .val (.int ao1), .val (.int bo0), .val (.int bo1), .val (.int ka0), .val (.int ka1), .val (.int kb0), .val (.int kb1), .val (.int ak0), .val (.int ak1), .val (.int bk0), .val (.int bk1), .val (.ref b25), .val (.ref b28), .val (.ref b31), .val (.ref b35), .val (.int (((p5.toUInt32 >>> ((9 : Int32) &&& 31).toUInt32).toInt32) &&& (7 : Int32))), .val (.ref b35), .unset]) (hb hby at_490) rfl rfl ?_
                            have j45 : ∀ (T46 : State) (l46 : List Loc) (ex : Int32), Stand p_ l e_ room_1 (s_.setVm T38.vm) m_ #[(.int p0), (.int p1), (.int p2), (.int p3), (.int p4), (.int p5)] below meth c_ T46 l46 38 264 → Fr n0 l46 → T46.heap = T38.heap → (ex = (if (own_sm as0 as1 las bs0 bs1 lbs ) = (0 : Int32) then (0 : Int32) else (if (own_sm ao0 ao1 lao bo0 bo1 lbo ) = (0 : Int32) then (0 : Int32) else (if (own_sm ak0 ak1 lak bk0 bk1 lbk ) = (0 : Int32) then (0 : Int32) else (1 : Int32))))) → Go p_ e_ below (WE s_ room_1.cells room_1.slots) (Q0 Z p0 p1 p2 p3 p4 p5 zc fm h0 n0) T46 (mkF m_ 551 #[.val (.int p0), .val (.int p1), .val (.int p2), .val (.int p3), .val (.int p4), .val (.int p5), .val (.int las), .val (.int lao), .val (.int lak), .val (.int ss), .val (.int so), .val (.int sk), .val (.int lbs), .val (.int lbo), .val (.int lbk), .val (.int as0), .val (.int as1), .val (.int bs0), .val (.int bs1), .val (.int ao0), .val (.int ao1), .val (.int bo0), .val (.int bo1), .val (.int ka0), .val (.int ka1), .val (.int kb0), .val (.int kb1), .val (.int ak0), .val (.int ak1), .val (.int bk0), .val (.int bk1), .val (.ref b25), .val (.ref b28), .val (.ref b31), .val (.ref b35), .val (.int (((p5.toUInt32 >>> ((9 : Int32) &&& 31).toUInt32).toInt32) &&& (7 : Int32))), .val (.ref b35), .unset] [(.int ex)]) := by
                              intro T46 l46 ex X46 N46 e46  h_ex
                              refine Go.istore X46 hx (l' := #[.val (.int p0), .val (.int p1), .val (.int p2), .val (.int p3), .val (.int p4), .val (.int p5), .val (.int las), .val (.int lao), .val (.int lak), .val (.int ss), .val (.int so), .val (.int sk), .val (.int lbs), .val (.int lbo), .val (.int lbk), .val (.int as0), .val (.int as1), .val (.int bs0), .val (.int bs1), .val (.int ao0), .val (.int ao1), .val (.int bo0), .val (.int bo1), .val (.int ka0), .val (.int ka1), .val (.int kb0), .val (.int kb1), .val (.int ak0), .val (.int ak1), .val (.int bk0), .val (.int bk1), .val (.ref b25), .val (.ref b28), .val (.ref b31), .val (.ref b35), .val (.int (((p5.toUInt32 >>> ((9 : Int32) &&& 31).toUInt32).toInt32) &&& (7 : Int32))), .val (.ref b35), .val (.int ex)]) (hb hby at_551) rfl ?_
                              refine Go.goto X46 hx (pc' := 595) (hb hby at_553) (by decide) (by decide) ?_
                              refine Go.aload X46 hx (hb hby at_595) rfl rfl ?_
                              refine Go.aload X46 hx (hb hby at_597) rfl rfl ?_
                              refine Go.callV X46 hx hZ (y0 := (⟨"com/example/safe_retries/saferetries/identity/RequestIdentity", "equals", "(Ljava/lang/Object;)Z"⟩ : MethodName)) (rm20 l Z a0 hw [] b31 b35 x32 t32 kb32 (own_cs as0 as1 las) x33 t33 kb33 (own_cs ao0 ao1 lao) x26 t26 kb26 (own_cs ak0 ak1 lak) x36 t36 kb36 (own_cs bs0 bs1 lbs) x37 t37 kb37 (own_cs bo0 bo1 lbo) x29 t29 kb29 (own_cs bk0 bk1 lbk) b25 b28 zc T38.heap n0 Z38 O_38_ Sco hzc E38 E_38_b25 E_38_b28 F_38_b31_scope F_38_b31_operation F_38_b31_key F_38_b25_value Fscope_38 Foperation_38 Fkey_38 F_38_b28_value S38_x32 (own_all (P := fun c => ¬ c < 0 ∧ ¬ (255 : Int32) < c) (own_br r_as0) (own_br r_as1)) (Nat.le_trans (own_csl _ _ _).2 (by decide)) S38_x33 (own_all (P := fun c => ¬ c < 0 ∧ ¬ (255 : Int32) < c) (own_br r_ao0) (own_br r_ao1)) (Nat.le_trans (own_csl _ _ _).2 (by decide)) S38_x26 (own_all (P := fun c => ¬ c < 0 ∧ ¬ (255 : Int32) < c) (own_pr r_ak0).1 (own_pr r_ak1).1) (Nat.le_trans (own_csl _ _ _).2 (by decide)) S38_x36 (own_all (P := fun c => ¬ c < 0 ∧ ¬ (255 : Int32) < c) (own_br r_bs0) (own_br r_bs1)) (Nat.le_trans (own_csl _ _ _).2 (by decide)) S38_x37 (own_all (P := fun c => ¬ c < 0 ∧ ¬ (255 : Int32) < c) (own_br r_bo0) (own_br r_bo1)) (Nat.le_trans (own_csl _ _ _).2 (by decide)) S38_x29 (own_all (P := fun c => ¬ c < 0 ∧ ¬ (255 : Int32) < c) (own_pr r_bk0).1 (own_pr r_bk1).1) (Nat.le_trans (own_csl _ _ _).2 (by decide))) (by decide) hown (hw _ (List.mem_of_getElem? (i := 108) rfl)) (hw _ (List.mem_of_getElem? (i := 109) rfl)) (notFace_of_selects (args := #[]) (mvT hZ (hw _ (List.mem_of_getElem? (i := 111) rfl)))) (hw _ (List.mem_of_getElem? (i := 111) rfl)) (hw _ (List.mem_of_getElem? (i := 110) rfl)) (hw _ (List.mem_of_getElem? (i := 89) rfl)) (hw _ (List.mem_of_getElem? (i := 112) rfl)) e46 E_38_b31 (W := 0) (by rw [hml]; rfl) (argsL := [(.ref b35)]) (S := []) (Nat.le_of_ble_eq_true rfl) (by decide) (by decide) (by decide) (by decide) pd_oLjava_lang_ObjectcZ rfl rfl (hb hby at_599) ?_
                              rintro _ T47 L47 X47 ⟨rfl, N47q, e47⟩
                              have N47 := Fr.app N46 N47q
                              show Go p_ e_ below _ _ T47 (mkF m_ 602 #[.val (.int p0), .val (.int p1), .val (.int p2), .val (.int p3), .val (.int p4), .val (.int p5), .val (.int las), .val (.int lao), .val (.int lak), .val (.int ss), .val (.int so), .val (.int sk), .val (.int lbs), .val (.int lbo), .val (.int lbk), .val (.int as0), .val (.int as1), .val (.int bs0), .val (.int bs1), .val (.int ao0), .val (.int ao1), .val (.int bo0), .val (.int bo1), .val (.int ka0), .val (.int ka1), .val (.int kb0), .val (.int kb1), .val (.int ak0), .val (.int ak1), .val (.int bk0), .val (.int bk1), .val (.ref b25), .val (.ref b28), .val (.ref b31), .val (.ref b35), .val (.int (((p5.toUInt32 >>> ((9 : Int32) &&& 31).toUInt32).toInt32) &&& (7 : Int32))), .val (.ref b35), .val (.int ex)] [(.int (own_re (own_cs as0 as1 las) (own_cs ao0 ao1 lao) (own_cs ak0 ak1 lak) (own_cs bs0 bs1 lbs) (own_cs bo0 bo1 lbo) (own_cs bk0 bk1 lbk)))])
                              refine Go.iload X47 hx (hb hby at_602) rfl ?_
                              refine Go.icmpNo X47 hx (hb hby at_604) (teq (own_fin _ _ _ _ _ _ _ _ _ _ _ _ _ _ _ _ _ _ _ r_las r_lbs r_lao r_lbo r_lak r_lbk h_ex)).2 ?_
                              show Go p_ e_ below _ _ T47 (mkF m_ 607 #[.val (.int p0), .val (.int p1), .val (.int p2), .val (.int p3), .val (.int p4), .val (.int p5), .val (.int las), .val (.int lao), .val (.int lak), .val (.int ss), .val (.int so), .val (.int sk), .val (.int lbs), .val (.int lbo), .val (.int lbk), .val (.int as0), .val (.int as1), .val (.int bs0), .val (.int bs1), .val (.int ao0), .val (.int ao1), .val (.int bo0), .val (.int bo1), .val (.int ka0), .val (.int ka1), .val (.int kb0), .val (.int kb1), .val (.int ak0), .val (.int ak1), .val (.int bk0), .val (.int bk1), .val (.ref b25), .val (.ref b28), .val (.ref b31), .val (.ref b35), .val (.int (((p5.toUInt32 >>> ((9 : Int32) &&& 31).toUInt32).toInt32) &&& (7 : Int32))), .val (.ref b35), .val (.int ex)] [])
                              refine Go.iconst X47 hx (1 : Int32) (hb hby at_607) rfl ?_
                              refine Go.goto X47 hx (pc' := 612) (hb hby at_608) (by decide) (by decide) ?_
                              refine Go.retNW X47 hx hS38 e47 (Nat.le_refl _) hret hlk (by simp) (hb hby at_612) (by decide) (by decide) ?_
                              exact ⟨rfl, N47⟩
                            refine Go.iload X38 hx (hb hby at_492) rfl ?_
                            refine Go.iload X38 hx (hb hby at_494) rfl ?_
                            refine Go.iload X38 hx (hb hby at_496) rfl ?_
                            refine Go.iload X38 hx (hb hby at_498) rfl ?_
                            refine Go.iload X38 hx (hb hby at_500) rfl ?_
                            refine Go.iload X38 hx (hb hby at_502) rfl ?_
                            refine Go.callS X38 hx hZ (rm19 l Z a0 hw [] as0 as1 las bs0 bs1 lbs  T38.heap n0 Z38 ) hown (hw _ (List.mem_of_getElem? (i := 105) rfl)) (hw _ (List.mem_of_getElem? (i := 106) rfl)) (hw _ (List.mem_of_getElem? (i := 5) rfl)) (hw _ (List.mem_of_getElem? (i := 107) rfl)) (by decide) rfl (W := 0) (by rw [hml]; rfl) (argsL := [(.int as0), (.int as1), (.int las), (.int bs0), (.int bs1), (.int lbs)]) (S := []) (Nat.le_of_ble_eq_true rfl) (by decide) (by decide) (by decide) (by decide) pd_oCCICCIcZ rfl rfl (hb hby at_504) ?_
                            rintro _ T48 L48 X48 ⟨rfl, N48q, e48⟩
                            have N48 := Fr.app N38 N48q
                            show Go p_ e_ below _ _ T48 (mkF m_ 507 #[.val (.int p0), .val (.int p1), .val (.int p2), .val (.int p3), .val (.int p4), .val (.int p5), .val (.int las), .val (.int lao), .val (.int lak), .val (.int ss), .val (.int so), .val (.int sk), .val (.int lbs), .val (.int lbo), .val (.int lbk), .val (.int as0), .val (.int as1), .val (.int bs0), .val (.int bs1), .val (.int ao0), .val (.int ao1), .val (.int bo0), .val (.int bo1), .val (.int ka0), .val (.int ka1), .val (.int kb0), .val (.int kb1), .val (.int ak0), .val (.int ak1), .val (.int bk0), .val (.int bk1), .val (.ref b25), .val (.ref b28), .val (.ref b31), .val (.ref b35), .val (.int (((p5.toUInt32 >>> ((9 : Int32) &&& 31).toUInt32).toInt32) &&& (7 : Int32))), .val (.ref b35), .unset] [(.int (own_sm as0 as1 las bs0 bs1 lbs ))])
                            by_cases hc507_49 : (own_sm as0 as1 las bs0 bs1 lbs ) = (0 : Int32)
                            · skip
                              refine Go.ifYes X48 hx (pc' := 550) (hb hby at_507) ((if0 _ _).trans (teq hc507_49).1) (by decide) (by decide) ?_
                              show Go p_ e_ below _ _ T48 (mkF m_ 550 #[.val (.int p0), .val (.int p1), .val (.int p2), .val (.int p3), .val (.int p4), .val (.int p5), .val (.int las), .val (.int lao), .val (.int lak), .val (.int ss), .val (.int so), .val (.int sk), .val (.int lbs), .val (.int lbo), .val (.int lbk), .val (.int as0), .val (.int as1), .val (.int bs0), .val (.int bs1), .val (.int ao0), .val (.int ao1), .val (.int bo0), .val (.int bo1), .val (.int ka0), .val (.int ka1), .val (.int kb0), .val (.int kb1), .val (.int ak0), .val (.int ak1), .val (.int bk0), .val (.int bk1), .val (.ref b25), .val (.ref b28), .val (.ref b31), .val (.ref b35), .val (.int (((p5.toUInt32 >>> ((9 : Int32) &&& 31).toUInt32).toInt32) &&& (7 : Int32))), .val (.ref b35), .unset] [])
                              refine Go.iconst X48 hx (0 : Int32) (hb hby at_550) rfl ?_
                              show Go p_ e_ below _ _ T48 (mkF m_ 551 #[.val (.int p0), .val (.int p1), .val (.int p2), .val (.int p3), .val (.int p4), .val (.int p5), .val (.int las), .val (.int lao), .val (.int lak), .val (.int ss), .val (.int so), .val (.int sk), .val (.int lbs), .val (.int lbo), .val (.int lbk), .val (.int as0), .val (.int as1), .val (.int bs0), .val (.int bs1), .val (.int ao0), .val (.int ao1), .val (.int bo0), .val (.int bo1), .val (.int ka0), .val (.int ka1), .val (.int kb0), .val (.int kb1), .val (.int ak0), .val (.int ak1), .val (.int bk0), .val (.int bk1), .val (.ref b25), .val (.ref b28), .val (.ref b31), .val (.ref b35), .val (.int (((p5.toUInt32 >>> ((9 : Int32) &&& 31).toUInt32).toInt32) &&& (7 : Int32))), .val (.ref b35), .unset] [(.int (0 : Int32))])
                              exact j45 _ _ _ X48 N48 e48 (by rw [if_pos hc507_49])
                            · skip
                              refine Go.ifNo X48 hx (hb hby at_507) ((if0 _ _).trans (feq hc507_49).1) ?_
                              show Go p_ e_ below _ _ T48 (mkF m_ 510 #[.val (.int p0), .val (.int p1), .val (.int p2), .val (.int p3), .val (.int p4), .val (.int p5), .val (.int las), .val (.int lao), .val (.int lak), .val (.int ss), .val (.int so), .val (.int sk), .val (.int lbs), .val (.int lbo), .val (.int lbk), .val (.int as0), .val (.int as1), .val (.int bs0), .val (.int bs1), .val (.int ao0), .val (.int ao1), .val (.int bo0), .val (.int bo1), .val (.int ka0), .val (.int ka1), .val (.int kb0), .val (.int kb1), .val (.int ak0), .val (.int ak1), .val (.int bk0), .val (.int bk1), .val (.ref b25), .val (.ref b28), .val (.ref b31), .val (.ref b35), .val (.int (((p5.toUInt32 >>> ((9 : Int32) &&& 31).toUInt32).toInt32) &&& (7 : Int32))), .val (.ref b35), .unset] [])
                              refine Go.iload X48 hx (hb hby at_510) rfl ?_
                              refine Go.iload X48 hx (hb hby at_512) rfl ?_
                              refine Go.iload X48 hx (hb hby at_514) rfl ?_
                              refine Go.iload X48 hx (hb hby at_516) rfl ?_
                              refine Go.iload X48 hx (hb hby at_518) rfl ?_
                              refine Go.iload X48 hx (hb hby at_520) rfl ?_
                              refine Go.callS X48 hx hZ (rm19 l Z a0 hw [] ao0 ao1 lao bo0 bo1 lbo  T38.heap n0 Z38 ) hown (hw _ (List.mem_of_getElem? (i := 105) rfl)) (hw _ (List.mem_of_getElem? (i := 106) rfl)) (hw _ (List.mem_of_getElem? (i := 5) rfl)) (hw _ (List.mem_of_getElem? (i := 107) rfl)) (by decide) e48 (W := 0) (by rw [hml]; rfl) (argsL := [(.int ao0), (.int ao1), (.int lao), (.int bo0), (.int bo1), (.int lbo)]) (S := []) (Nat.le_of_ble_eq_true rfl) (by decide) (by decide) (by decide) (by decide) pd_oCCICCIcZ rfl rfl (hb hby at_522) ?_
                              rintro _ T50 L50 X50 ⟨rfl, N50q, e50⟩
                              have N50 := Fr.app N48 N50q
                              show Go p_ e_ below _ _ T50 (mkF m_ 525 #[.val (.int p0), .val (.int p1), .val (.int p2), .val (.int p3), .val (.int p4), .val (.int p5), .val (.int las), .val (.int lao), .val (.int lak), .val (.int ss), .val (.int so), .val (.int sk), .val (.int lbs), .val (.int lbo), .val (.int lbk), .val (.int as0), .val (.int as1), .val (.int bs0), .val (.int bs1), .val (.int ao0), .val (.int ao1), .val (.int bo0), .val (.int bo1), .val (.int ka0), .val (.int ka1), .val (.int kb0), .val (.int kb1), .val (.int ak0), .val (.int ak1), .val (.int bk0), .val (.int bk1), .val (.ref b25), .val (.ref b28), .val (.ref b31), .val (.ref b35), .val (.int (((p5.toUInt32 >>> ((9 : Int32) &&& 31).toUInt32).toInt32) &&& (7 : Int32))), .val (.ref b35), .unset] [(.int (own_sm ao0 ao1 lao bo0 bo1 lbo ))])
                              by_cases hc525_51 : (own_sm ao0 ao1 lao bo0 bo1 lbo ) = (0 : Int32)
                              · skip
                                refine Go.ifYes X50 hx (pc' := 550) (hb hby at_525) ((if0 _ _).trans (teq hc525_51).1) (by decide) (by decide) ?_
                                show Go p_ e_ below _ _ T50 (mkF m_ 550 #[.val (.int p0), .val (.int p1), .val (.int p2), .val (.int p3), .val (.int p4), .val (.int p5), .val (.int las), .val (.int lao), .val (.int lak), .val (.int ss), .val (.int so), .val (.int sk), .val (.int lbs), .val (.int lbo), .val (.int lbk), .val (.int as0), .val (.int as1), .val (.int bs0), .val (.int bs1), .val (.int ao0), .val (.int ao1), .val (.int bo0), .val (.int bo1), .val (.int ka0), .val (.int ka1), .val (.int kb0), .val (.int kb1), .val (.int ak0), .val (.int ak1), .val (.int bk0), .val (.int bk1), .val (.ref b25), .val (.ref b28), .val (.ref b31), .val (.ref b35), .val (.int (((p5.toUInt32 >>> ((9 : Int32) &&& 31).toUInt32).toInt32) &&& (7 : Int32))), .val (.ref b35), .unset] [])
                                refine Go.iconst X50 hx (0 : Int32) (hb hby at_550) rfl ?_
                                show Go p_ e_ below _ _ T50 (mkF m_ 551 #[.val (.int p0), .val (.int p1), .val (.int p2), .val (.int p3), .val (.int p4), .val (.int p5), .val (.int las), .val (.int lao), .val (.int lak), .val (.int ss), .val (.int so), .val (.int sk), .val (.int lbs), .val (.int lbo), .val (.int lbk), .val (.int as0), .val (.int as1), .val (.int bs0), .val (.int bs1), .val (.int ao0), .val (.int ao1), .val (.int bo0), .val (.int bo1), .val (.int ka0), .val (.int ka1), .val (.int kb0), .val (.int kb1), .val (.int ak0), .val (.int ak1), .val (.int bk0), .val (.int bk1), .val (.ref b25), .val (.ref b28), .val (.ref b31), .val (.ref b35), .val (.int (((p5.toUInt32 >>> ((9 : Int32) &&& 31).toUInt32).toInt32) &&& (7 : Int32))), .val (.ref b35), .unset] [(.int (0 : Int32))])
                                exact j45 _ _ _ X50 N50 e50 (by rw [if_neg hc507_49, if_pos hc525_51])
                              · skip
                                refine Go.ifNo X50 hx (hb hby at_525) ((if0 _ _).trans (feq hc525_51).1) ?_
                                show Go p_ e_ below _ _ T50 (mkF m_ 528 #[.val (.int p0), .val (.int p1), .val (.int p2), .val (.int p3), .val (.int p4), .val (.int p5), .val (.int las), .val (.int lao), .val (.int lak), .val (.int ss), .val (.int so), .val (.int sk), .val (.int lbs), .val (.int lbo), .val (.int lbk), .val (.int as0), .val (.int as1), .val (.int bs0), .val (.int bs1), .val (.int ao0), .val (.int ao1), .val (.int bo0), .val (.int bo1), .val (.int ka0), .val (.int ka1), .val (.int kb0), .val (.int kb1), .val (.int ak0), .val (.int ak1), .val (.int bk0), .val (.int bk1), .val (.ref b25), .val (.ref b28), .val (.ref b31), .val (.ref b35), .val (.int (((p5.toUInt32 >>> ((9 : Int32) &&& 31).toUInt32).toInt32) &&& (7 : Int32))), .val (.ref b35), .unset] [])
                                refine Go.iload X50 hx (hb hby at_528) rfl ?_
                                refine Go.iload X50 hx (hb hby at_530) rfl ?_
                                refine Go.iload X50 hx (hb hby at_532) rfl ?_
                                refine Go.iload X50 hx (hb hby at_534) rfl ?_
                                refine Go.iload X50 hx (hb hby at_536) rfl ?_
                                refine Go.iload X50 hx (hb hby at_538) rfl ?_
                                refine Go.callS X50 hx hZ (rm19 l Z a0 hw [] ak0 ak1 lak bk0 bk1 lbk  T38.heap n0 Z38 ) hown (hw _ (List.mem_of_getElem? (i := 105) rfl)) (hw _ (List.mem_of_getElem? (i := 106) rfl)) (hw _ (List.mem_of_getElem? (i := 5) rfl)) (hw _ (List.mem_of_getElem? (i := 107) rfl)) (by decide) e50 (W := 0) (by rw [hml]; rfl) (argsL := [(.int ak0), (.int ak1), (.int lak), (.int bk0), (.int bk1), (.int lbk)]) (S := []) (Nat.le_of_ble_eq_true rfl) (by decide) (by decide) (by decide) (by decide) pd_oCCICCIcZ rfl rfl (hb hby at_540) ?_
                                rintro _ T52 L52 X52 ⟨rfl, N52q, e52⟩
                                have N52 := Fr.app N50 N52q
                                show Go p_ e_ below _ _ T52 (mkF m_ 543 #[.val (.int p0), .val (.int p1), .val (.int p2), .val (.int p3), .val (.int p4), .val (.int p5), .val (.int las), .val (.int lao), .val (.int lak), .val (.int ss), .val (.int so), .val (.int sk), .val (.int lbs), .val (.int lbo), .val (.int lbk), .val (.int as0), .val (.int as1), .val (.int bs0), .val (.int bs1), .val (.int ao0), .val (.int ao1), .val (.int bo0), .val (.int bo1), .val (.int ka0), .val (.int ka1), .val (.int kb0), .val (.int kb1), .val (.int ak0), .val (.int ak1), .val (.int bk0), .val (.int bk1), .val (.ref b25), .val (.ref b28), .val (.ref b31), .val (.ref b35), .val (.int (((p5.toUInt32 >>> ((9 : Int32) &&& 31).toUInt32).toInt32) &&& (7 : Int32))), .val (.ref b35), .unset] [(.int (own_sm ak0 ak1 lak bk0 bk1 lbk ))])
                                by_cases hc543_53 : (own_sm ak0 ak1 lak bk0 bk1 lbk ) = (0 : Int32)
                                · skip
                                  refine Go.ifYes X52 hx (pc' := 550) (hb hby at_543) ((if0 _ _).trans (teq hc543_53).1) (by decide) (by decide) ?_
                                  show Go p_ e_ below _ _ T52 (mkF m_ 550 #[.val (.int p0), .val (.int p1), .val (.int p2), .val (.int p3), .val (.int p4), .val (.int p5), .val (.int las), .val (.int lao), .val (.int lak), .val (.int ss), .val (.int so), .val (.int sk), .val (.int lbs), .val (.int lbo), .val (.int lbk), .val (.int as0), .val (.int as1), .val (.int bs0), .val (.int bs1), .val (.int ao0), .val (.int ao1), .val (.int bo0), .val (.int bo1), .val (.int ka0), .val (.int ka1), .val (.int kb0), .val (.int kb1), .val (.int ak0), .val (.int ak1), .val (.int bk0), .val (.int bk1), .val (.ref b25), .val (.ref b28), .val (.ref b31), .val (.ref b35), .val (.int (((p5.toUInt32 >>> ((9 : Int32) &&& 31).toUInt32).toInt32) &&& (7 : Int32))), .val (.ref b35), .unset] [])
                                  refine Go.iconst X52 hx (0 : Int32) (hb hby at_550) rfl ?_
                                  show Go p_ e_ below _ _ T52 (mkF m_ 551 #[.val (.int p0), .val (.int p1), .val (.int p2), .val (.int p3), .val (.int p4), .val (.int p5), .val (.int las), .val (.int lao), .val (.int lak), .val (.int ss), .val (.int so), .val (.int sk), .val (.int lbs), .val (.int lbo), .val (.int lbk), .val (.int as0), .val (.int as1), .val (.int bs0), .val (.int bs1), .val (.int ao0), .val (.int ao1), .val (.int bo0), .val (.int bo1), .val (.int ka0), .val (.int ka1), .val (.int kb0), .val (.int kb1), .val (.int ak0), .val (.int ak1), .val (.int bk0), .val (.int bk1), .val (.ref b25), .val (.ref b28), .val (.ref b31), .val (.ref b35), .val (.int (((p5.toUInt32 >>> ((9 : Int32) &&& 31).toUInt32).toInt32) &&& (7 : Int32))), .val (.ref b35), .unset] [(.int (0 : Int32))])
                                  exact j45 _ _ _ X52 N52 e52 (by rw [if_neg hc507_49, if_neg hc525_51, if_pos hc543_53])
                                · skip
                                  refine Go.ifNo X52 hx (hb hby at_543) ((if0 _ _).trans (feq hc543_53).1) ?_
                                  show Go p_ e_ below _ _ T52 (mkF m_ 546 #[.val (.int p0), .val (.int p1), .val (.int p2), .val (.int p3), .val (.int p4), .val (.int p5), .val (.int las), .val (.int lao), .val (.int lak), .val (.int ss), .val (.int so), .val (.int sk), .val (.int lbs), .val (.int lbo), .val (.int lbk), .val (.int as0), .val (.int as1), .val (.int bs0), .val (.int bs1), .val (.int ao0), .val (.int ao1), .val (.int bo0), .val (.int bo1), .val (.int ka0), .val (.int ka1), .val (.int kb0), .val (.int kb1), .val (.int ak0), .val (.int ak1), .val (.int bk0), .val (.int bk1), .val (.ref b25), .val (.ref b28), .val (.ref b31), .val (.ref b35), .val (.int (((p5.toUInt32 >>> ((9 : Int32) &&& 31).toUInt32).toInt32) &&& (7 : Int32))), .val (.ref b35), .unset] [])
                                  refine Go.iconst X52 hx (1 : Int32) (hb hby at_546) rfl ?_
                                  refine Go.goto X52 hx (pc' := 551) (hb hby at_547) (by decide) (by decide) ?_
                                  show Go p_ e_ below _ _ T52 (mkF m_ 551 #[.val (.int p0), .val (.int p1), .val (.int p2), .val (.int p3), .val (.int p4), .val (.int p5), .val (.int las), .val (.int lao), .val (.int lak), .val (.int ss), .val (.int so), .val (.int sk), .val (.int lbs), .val (.int lbo), .val (.int lbk), .val (.int as0), .val (.int as1), .val (.int bs0), .val (.int bs1), .val (.int ao0), .val (.int ao1), .val (.int bo0), .val (.int bo1), .val (.int ka0), .val (.int ka1), .val (.int kb0), .val (.int kb1), .val (.int ak0), .val (.int ak1), .val (.int bk0), .val (.int bk1), .val (.ref b25), .val (.ref b28), .val (.ref b31), .val (.ref b35), .val (.int (((p5.toUInt32 >>> ((9 : Int32) &&& 31).toUInt32).toInt32) &&& (7 : Int32))), .val (.ref b35), .unset] [(.int (1 : Int32))])
                                  exact j45 _ _ _ X52 N52 e52 (by rw [if_neg hc507_49, if_neg hc525_51, if_neg hc543_53])
                        refine Go.iload X22 hx (hb hby at_317) rfl ?_
                        by_cases hc319_54 : sk = (0 : Int32)
                        · skip
                          refine Go.ifYes X22 hx (pc' := 327) (hb hby at_319) ((if0 _ _).trans (teq hc319_54).1) (by decide) (by decide) ?_
                          show Go p_ e_ below _ _ T22 (mkF m_ 327 #[.val (.int p0), .val (.int p1), .val (.int p2), .val (.int p3), .val (.int p4), .val (.int p5), .val (.int las), .val (.int lao), .val (.int lak), .val (.int ss), .val (.int so), .val (.int sk), .val (.int lbs), .val (.int lbo), .val (.int lbk), .val (.int as0), .val (.int as1), .val (.int bs0), .val (.int bs1), .val (.int ao0), .val (.int ao1), .val (.int bo0), .val (.int bo1), .val (.int ka0), .val (.int ka1), .val (.int kb0), .unset, .unset, .unset, .unset, .unset, .unset, .unset, .unset, .unset, .unset, .unset, .unset] [])
                          refine Go.iload X22 hx (hb hby at_327) rfl ?_
                          refine Go.iload X22 hx (hb hby at_329) rfl ?_
                          refine Go.bipush X22 hx (8 : Int32) (hb hby at_331) rfl ?_
                          refine Go.iushr X22 hx (hb hby at_333) ?_
                          refine Go.bipush X22 hx (127 : Int32) (hb hby at_334) rfl ?_
                          refine Go.iand X22 hx (hb hby at_336) ?_
                          refine Go.bipush X22 hx (95 : Int32) (hb hby at_337) rfl ?_
                          refine Go.irem X22 hx (hb hby at_339) (by decide) ?_
                          refine Go.iadd X22 hx (hb hby at_340) ?_
                          refine Go.bipush X22 hx (95 : Int32) (hb hby at_341) rfl ?_
                          refine Go.irem X22 hx (hb hby at_343) (by decide) ?_
                          show Go p_ e_ below _ _ T22 (mkF m_ 344 #[.val (.int p0), .val (.int p1), .val (.int p2), .val (.int p3), .val (.int p4), .val (.int p5), .val (.int las), .val (.int lao), .val (.int lak), .val (.int ss), .val (.int so), .val (.int sk), .val (.int lbs), .val (.int lbo), .val (.int lbk), .val (.int as0), .val (.int as1), .val (.int bs0), .val (.int bs1), .val (.int ao0), .val (.int ao1), .val (.int bo0), .val (.int bo1), .val (.int ka0), .val (.int ka1), .val (.int kb0), .unset, .unset, .unset, .unset, .unset, .unset, .unset, .unset, .unset, .unset, .unset, .unset] [(.int ((ka1 + ((((p4.toUInt32 >>> ((8 : Int32) &&& 31).toUInt32).toInt32) &&& (127 : Int32)) % (95 : Int32))) % (95 : Int32)))])
                          exact j23 _ _ _ X22 N22 e22 (own_95b r_ka1 (own_95 _))
                        · skip
                          refine Go.ifNo X22 hx (hb hby at_319) ((if0 _ _).trans (feq hc319_54).1) ?_
                          show Go p_ e_ below _ _ T22 (mkF m_ 322 #[.val (.int p0), .val (.int p1), .val (.int p2), .val (.int p3), .val (.int p4), .val (.int p5), .val (.int las), .val (.int lao), .val (.int lak), .val (.int ss), .val (.int so), .val (.int sk), .val (.int lbs), .val (.int lbo), .val (.int lbk), .val (.int as0), .val (.int as1), .val (.int bs0), .val (.int bs1), .val (.int ao0), .val (.int ao1), .val (.int bo0), .val (.int bo1), .val (.int ka0), .val (.int ka1), .val (.int kb0), .unset, .unset, .unset, .unset, .unset, .unset, .unset, .unset, .unset, .unset, .unset, .unset] [])
                          refine Go.iload X22 hx (hb hby at_322) rfl ?_
                          refine Go.goto X22 hx (pc' := 344) (hb hby at_324) (by decide) (by decide) ?_
                          show Go p_ e_ below _ _ T22 (mkF m_ 344 #[.val (.int p0), .val (.int p1), .val (.int p2), .val (.int p3), .val (.int p4), .val (.int p5), .val (.int las), .val (.int lao), .val (.int lak), .val (.int ss), .val (.int so), .val (.int sk), .val (.int lbs), .val (.int lbo), .val (.int lbk), .val (.int as0), .val (.int as1), .val (.int bs0), .val (.int bs1), .val (.int ao0), .val (.int ao1), .val (.int bo0), .val (.int bo1), .val (.int ka0), .val (.int ka1), .val (.int kb0), .unset, .unset, .unset, .unset, .unset, .unset, .unset, .unset, .unset, .unset, .unset, .unset] [(.int ka1)])
                          exact j23 _ _ _ X22 N22 e22 r_ka1
                      show Go p_ e_ below _ _ T20 (mkF m_ 291 #[.val (.int p0), .val (.int p1), .val (.int p2), .val (.int p3), .val (.int p4), .val (.int p5), .val (.int las), .val (.int lao), .val (.int lak), .val (.int ss), .val (.int so), .val (.int sk), .val (.int lbs), .val (.int lbo), .val (.int lbk), .val (.int as0), .val (.int as1), .val (.int bs0), .val (.int bs1), .val (.int ao0), .val (.int ao1), .val (.int bo0), .val (.int bo1), .val (.int ka0), .val (.int ka1), .unset, .unset, .unset, .unset, .unset, .unset, .unset, .unset, .unset, .unset, .unset, .unset, .unset] [])
                      refine Go.iload X20 hx (hb hby at_291) rfl ?_
                      by_cases hc293_55 : sk = (0 : Int32)
                      · skip
                        refine Go.ifYes X20 hx (pc' := 301) (hb hby at_293) ((if0 _ _).trans (teq hc293_55).1) (by decide) (by decide) ?_
                        show Go p_ e_ below _ _ T20 (mkF m_ 301 #[.val (.int p0), .val (.int p1), .val (.int p2), .val (.int p3), .val (.int p4), .val (.int p5), .val (.int las), .val (.int lao), .val (.int lak), .val (.int ss), .val (.int so), .val (.int sk), .val (.int lbs), .val (.int lbo), .val (.int lbk), .val (.int as0), .val (.int as1), .val (.int bs0), .val (.int bs1), .val (.int ao0), .val (.int ao1), .val (.int bo0), .val (.int bo1), .val (.int ka0), .val (.int ka1), .unset, .unset, .unset, .unset, .unset, .unset, .unset, .unset, .unset, .unset, .unset, .unset, .unset] [])
                        refine Go.iload X20 hx (hb hby at_301) rfl ?_
                        refine Go.iload X20 hx (hb hby at_303) rfl ?_
                        refine Go.bipush X20 hx (127 : Int32) (hb hby at_305) rfl ?_
                        refine Go.iand X20 hx (hb hby at_307) ?_
                        refine Go.bipush X20 hx (95 : Int32) (hb hby at_308) rfl ?_
                        refine Go.irem X20 hx (hb hby at_310) (by decide) ?_
                        refine Go.iadd X20 hx (hb hby at_311) ?_
                        refine Go.bipush X20 hx (95 : Int32) (hb hby at_312) rfl ?_
                        refine Go.irem X20 hx (hb hby at_314) (by decide) ?_
                        show Go p_ e_ below _ _ T20 (mkF m_ 315 #[.val (.int p0), .val (.int p1), .val (.int p2), .val (.int p3), .val (.int p4), .val (.int p5), .val (.int las), .val (.int lao), .val (.int lak), .val (.int ss), .val (.int so), .val (.int sk), .val (.int lbs), .val (.int lbo), .val (.int lbk), .val (.int as0), .val (.int as1), .val (.int bs0), .val (.int bs1), .val (.int ao0), .val (.int ao1), .val (.int bo0), .val (.int bo1), .val (.int ka0), .val (.int ka1), .unset, .unset, .unset, .unset, .unset, .unset, .unset, .unset, .unset, .unset, .unset, .unset, .unset] [(.int ((ka0 + ((p4 &&& (127 : Int32)) % (95 : Int32))) % (95 : Int32)))])
                        exact j21 _ _ _ X20 N20 e20 (own_95b r_ka0 (own_95 _))
                      · skip
                        refine Go.ifNo X20 hx (hb hby at_293) ((if0 _ _).trans (feq hc293_55).1) ?_
                        show Go p_ e_ below _ _ T20 (mkF m_ 296 #[.val (.int p0), .val (.int p1), .val (.int p2), .val (.int p3), .val (.int p4), .val (.int p5), .val (.int las), .val (.int lao), .val (.int lak), .val (.int ss), .val (.int so), .val (.int sk), .val (.int lbs), .val (.int lbo), .val (.int lbk), .val (.int as0), .val (.int as1), .val (.int bs0), .val (.int bs1), .val (.int ao0), .val (.int ao1), .val (.int bo0), .val (.int bo1), .val (.int ka0), .val (.int ka1), .unset, .unset, .unset, .unset, .unset, .unset, .unset, .unset, .unset, .unset, .unset, .unset, .unset] [])
                        refine Go.iload X20 hx (hb hby at_296) rfl ?_
                        refine Go.goto X20 hx (pc' := 315) (hb hby at_298) (by decide) (by decide) ?_
                        show Go p_ e_ below _ _ T20 (mkF m_ 315 #[.val (.int p0), .val (.int p1), .val (.int p2), .val (.int p3), .val (.int p4), .val (.int p5), .val (.int las), .val (.int lao), .val (.int lak), .val (.int ss), .val (.int so), .val (.int sk), .val (.int lbs), .val (.int lbo), .val (.int lbk), .val (.int as0), .val (.int as1), .val (.int bs0), .val (.int bs1), .val (.int ao0), .val (.int ao1), .val (.int bo0), .val (.int bo1), .val (.int ka0), .val (.int ka1), .unset, .unset, .unset, .unset, .unset, .unset, .unset, .unset, .unset, .unset, .unset, .unset, .unset] [(.int ka0)])
                        exact j21 _ _ _ X20 N20 e20 r_ka0
                    refine Go.iload X18 hx (hb hby at_246) rfl ?_
                    by_cases hc248_56 : so = (0 : Int32)
                    · skip
                      refine Go.ifYes X18 hx (pc' := 256) (hb hby at_248) ((if0 _ _).trans (teq hc248_56).1) (by decide) (by decide) ?_
                      show Go p_ e_ below _ _ T18 (mkF m_ 256 #[.val (.int p0), .val (.int p1), .val (.int p2), .val (.int p3), .val (.int p4), .val (.int p5), .val (.int las), .val (.int lao), .val (.int lak), .val (.int ss), .val (.int so), .val (.int sk), .val (.int lbs), .val (.int lbo), .val (.int lbk), .val (.int as0), .val (.int as1), .val (.int bs0), .val (.int bs1), .val (.int ao0), .val (.int ao1), .val (.int bo0), .unset, .unset, .unset, .unset, .unset, .unset, .unset, .unset, .unset, .unset, .unset, .unset, .unset, .unset, .unset, .unset] [])
                      refine Go.iload X18 hx (hb hby at_256) rfl ?_
                      refine Go.iloadN X18 hx (hb hby at_258) rfl ?_
                      refine Go.bipush X18 hx (24 : Int32) (hb hby at_259) rfl ?_
                      refine Go.iushr X18 hx (hb hby at_261) ?_
                      refine Go.sipush X18 hx (255 : Int32) (hb hby at_262) rfl ?_
                      refine Go.iand X18 hx (hb hby at_265) ?_
                      refine Go.ixor X18 hx (hb hby at_266) ?_
                      refine Go.i2c X18 hx (hb hby at_267) ?_
                      show Go p_ e_ below _ _ T18 (mkF m_ 268 #[.val (.int p0), .val (.int p1), .val (.int p2), .val (.int p3), .val (.int p4), .val (.int p5), .val (.int las), .val (.int lao), .val (.int lak), .val (.int ss), .val (.int so), .val (.int sk), .val (.int lbs), .val (.int lbo), .val (.int lbk), .val (.int as0), .val (.int as1), .val (.int bs0), .val (.int bs1), .val (.int ao0), .val (.int ao1), .val (.int bo0), .unset, .unset, .unset, .unset, .unset, .unset, .unset, .unset, .unset, .unset, .unset, .unset, .unset, .unset, .unset, .unset] [(.int ((ao1 ^^^ (((p3.toUInt32 >>> ((24 : Int32) &&& 31).toUInt32).toInt32) &&& (255 : Int32))).toUInt32.toUInt16.toUInt32.toInt32))])
                      exact j19 _ _ _ X18 N18 e18 (own_xor r_ao1 (own_and8 _))
                    · skip
                      refine Go.ifNo X18 hx (hb hby at_248) ((if0 _ _).trans (feq hc248_56).1) ?_
                      show Go p_ e_ below _ _ T18 (mkF m_ 251 #[.val (.int p0), .val (.int p1), .val (.int p2), .val (.int p3), .val (.int p4), .val (.int p5), .val (.int las), .val (.int lao), .val (.int lak), .val (.int ss), .val (.int so), .val (.int sk), .val (.int lbs), .val (.int lbo), .val (.int lbk), .val (.int as0), .val (.int as1), .val (.int bs0), .val (.int bs1), .val (.int ao0), .val (.int ao1), .val (.int bo0), .unset, .unset, .unset, .unset, .unset, .unset, .unset, .unset, .unset, .unset, .unset, .unset, .unset, .unset, .unset, .unset] [])
                      refine Go.iload X18 hx (hb hby at_251) rfl ?_
                      refine Go.goto X18 hx (pc' := 268) (hb hby at_253) (by decide) (by decide) ?_
                      show Go p_ e_ below _ _ T18 (mkF m_ 268 #[.val (.int p0), .val (.int p1), .val (.int p2), .val (.int p3), .val (.int p4), .val (.int p5), .val (.int las), .val (.int lao), .val (.int lak), .val (.int ss), .val (.int so), .val (.int sk), .val (.int lbs), .val (.int lbo), .val (.int lbk), .val (.int as0), .val (.int as1), .val (.int bs0), .val (.int bs1), .val (.int ao0), .val (.int ao1), .val (.int bo0), .unset, .unset, .unset, .unset, .unset, .unset, .unset, .unset, .unset, .unset, .unset, .unset, .unset, .unset, .unset, .unset] [(.int ao1)])
                      exact j19 _ _ _ X18 N18 e18 r_ao1
                  show Go p_ e_ below _ _ T16 (mkF m_ 222 #[.val (.int p0), .val (.int p1), .val (.int p2), .val (.int p3), .val (.int p4), .val (.int p5), .val (.int las), .val (.int lao), .val (.int lak), .val (.int ss), .val (.int so), .val (.int sk), .val (.int lbs), .val (.int lbo), .val (.int lbk), .val (.int as0), .val (.int as1), .val (.int bs0), .val (.int bs1), .val (.int ao0), .val (.int ao1), .unset, .unset, .unset, .unset, .unset, .unset, .unset, .unset, .unset, .unset, .unset, .unset, .unset, .unset, .unset, .unset, .unset] [])
                  refine Go.iload X16 hx (hb hby at_222) rfl ?_
                  by_cases hc224_57 : so = (0 : Int32)
                  · skip
                    refine Go.ifYes X16 hx (pc' := 232) (hb hby at_224) ((if0 _ _).trans (teq hc224_57).1) (by decide) (by decide) ?_
                    show Go p_ e_ below _ _ T16 (mkF m_ 232 #[.val (.int p0), .val (.int p1), .val (.int p2), .val (.int p3), .val (.int p4), .val (.int p5), .val (.int las), .val (.int lao), .val (.int lak), .val (.int ss), .val (.int so), .val (.int sk), .val (.int lbs), .val (.int lbo), .val (.int lbk), .val (.int as0), .val (.int as1), .val (.int bs0), .val (.int bs1), .val (.int ao0), .val (.int ao1), .unset, .unset, .unset, .unset, .unset, .unset, .unset, .unset, .unset, .unset, .unset, .unset, .unset, .unset, .unset, .unset, .unset] [])
                    refine Go.iload X16 hx (hb hby at_232) rfl ?_
                    refine Go.iloadN X16 hx (hb hby at_234) rfl ?_
                    refine Go.bipush X16 hx (16 : Int32) (hb hby at_235) rfl ?_
                    refine Go.iushr X16 hx (hb hby at_237) ?_
                    refine Go.sipush X16 hx (255 : Int32) (hb hby at_238) rfl ?_
                    refine Go.iand X16 hx (hb hby at_241) ?_
                    refine Go.ixor X16 hx (hb hby at_242) ?_
                    refine Go.i2c X16 hx (hb hby at_243) ?_
                    show Go p_ e_ below _ _ T16 (mkF m_ 244 #[.val (.int p0), .val (.int p1), .val (.int p2), .val (.int p3), .val (.int p4), .val (.int p5), .val (.int las), .val (.int lao), .val (.int lak), .val (.int ss), .val (.int so), .val (.int sk), .val (.int lbs), .val (.int lbo), .val (.int lbk), .val (.int as0), .val (.int as1), .val (.int bs0), .val (.int bs1), .val (.int ao0), .val (.int ao1), .unset, .unset, .unset, .unset, .unset, .unset, .unset, .unset, .unset, .unset, .unset, .unset, .unset, .unset, .unset, .unset, .unset] [(.int ((ao0 ^^^ (((p3.toUInt32 >>> ((16 : Int32) &&& 31).toUInt32).toInt32) &&& (255 : Int32))).toUInt32.toUInt16.toUInt32.toInt32))])
                    exact j17 _ _ _ X16 N16 e16 (own_xor r_ao0 (own_and8 _))
                  · skip
                    refine Go.ifNo X16 hx (hb hby at_224) ((if0 _ _).trans (feq hc224_57).1) ?_
                    show Go p_ e_ below _ _ T16 (mkF m_ 227 #[.val (.int p0), .val (.int p1), .val (.int p2), .val (.int p3), .val (.int p4), .val (.int p5), .val (.int las), .val (.int lao), .val (.int lak), .val (.int ss), .val (.int so), .val (.int sk), .val (.int lbs), .val (.int lbo), .val (.int lbk), .val (.int as0), .val (.int as1), .val (.int bs0), .val (.int bs1), .val (.int ao0), .val (.int ao1), .unset, .unset, .unset, .unset, .unset, .unset, .unset, .unset, .unset, .unset, .unset, .unset, .unset, .unset, .unset, .unset, .unset] [])
                    refine Go.iload X16 hx (hb hby at_227) rfl ?_
                    refine Go.goto X16 hx (pc' := 244) (hb hby at_229) (by decide) (by decide) ?_
                    show Go p_ e_ below _ _ T16 (mkF m_ 244 #[.val (.int p0), .val (.int p1), .val (.int p2), .val (.int p3), .val (.int p4), .val (.int p5), .val (.int las), .val (.int lao), .val (.int lak), .val (.int ss), .val (.int so), .val (.int sk), .val (.int lbs), .val (.int lbo), .val (.int lbk), .val (.int as0), .val (.int as1), .val (.int bs0), .val (.int bs1), .val (.int ao0), .val (.int ao1), .unset, .unset, .unset, .unset, .unset, .unset, .unset, .unset, .unset, .unset, .unset, .unset, .unset, .unset, .unset, .unset, .unset] [(.int ao0)])
                    exact j17 _ _ _ X16 N16 e16 r_ao0
                refine Go.iload X14 hx (hb hby at_179) rfl ?_
                by_cases hc181_58 : ss = (0 : Int32)
                · skip
                  refine Go.ifYes X14 hx (pc' := 189) (hb hby at_181) ((if0 _ _).trans (teq hc181_58).1) (by decide) (by decide) ?_
                  show Go p_ e_ below _ _ T14 (mkF m_ 189 #[.val (.int p0), .val (.int p1), .val (.int p2), .val (.int p3), .val (.int p4), .val (.int p5), .val (.int las), .val (.int lao), .val (.int lak), .val (.int ss), .val (.int so), .val (.int sk), .val (.int lbs), .val (.int lbo), .val (.int lbk), .val (.int as0), .val (.int as1), .val (.int bs0), .unset, .unset, .unset, .unset, .unset, .unset, .unset, .unset, .unset, .unset, .unset, .unset, .unset, .unset, .unset, .unset, .unset, .unset, .unset, .unset] [])
                  refine Go.iload X14 hx (hb hby at_189) rfl ?_
                  refine Go.iloadN X14 hx (hb hby at_191) rfl ?_
                  refine Go.bipush X14 hx (8 : Int32) (hb hby at_192) rfl ?_
                  refine Go.iushr X14 hx (hb hby at_194) ?_
                  refine Go.sipush X14 hx (255 : Int32) (hb hby at_195) rfl ?_
                  refine Go.iand X14 hx (hb hby at_198) ?_
                  refine Go.ixor X14 hx (hb hby at_199) ?_
                  refine Go.i2c X14 hx (hb hby at_200) ?_
                  show Go p_ e_ below _ _ T14 (mkF m_ 201 #[.val (.int p0), .val (.int p1), .val (.int p2), .val (.int p3), .val (.int p4), .val (.int p5), .val (.int las), .val (.int lao), .val (.int lak), .val (.int ss), .val (.int so), .val (.int sk), .val (.int lbs), .val (.int lbo), .val (.int lbk), .val (.int as0), .val (.int as1), .val (.int bs0), .unset, .unset, .unset, .unset, .unset, .unset, .unset, .unset, .unset, .unset, .unset, .unset, .unset, .unset, .unset, .unset, .unset, .unset, .unset, .unset] [(.int ((as1 ^^^ (((p3.toUInt32 >>> ((8 : Int32) &&& 31).toUInt32).toInt32) &&& (255 : Int32))).toUInt32.toUInt16.toUInt32.toInt32))])
                  exact j15 _ _ _ X14 N14 e14 (own_xor r_as1 (own_and8 _))
                · skip
                  refine Go.ifNo X14 hx (hb hby at_181) ((if0 _ _).trans (feq hc181_58).1) ?_
                  show Go p_ e_ below _ _ T14 (mkF m_ 184 #[.val (.int p0), .val (.int p1), .val (.int p2), .val (.int p3), .val (.int p4), .val (.int p5), .val (.int las), .val (.int lao), .val (.int lak), .val (.int ss), .val (.int so), .val (.int sk), .val (.int lbs), .val (.int lbo), .val (.int lbk), .val (.int as0), .val (.int as1), .val (.int bs0), .unset, .unset, .unset, .unset, .unset, .unset, .unset, .unset, .unset, .unset, .unset, .unset, .unset, .unset, .unset, .unset, .unset, .unset, .unset, .unset] [])
                  refine Go.iload X14 hx (hb hby at_184) rfl ?_
                  refine Go.goto X14 hx (pc' := 201) (hb hby at_186) (by decide) (by decide) ?_
                  show Go p_ e_ below _ _ T14 (mkF m_ 201 #[.val (.int p0), .val (.int p1), .val (.int p2), .val (.int p3), .val (.int p4), .val (.int p5), .val (.int las), .val (.int lao), .val (.int lak), .val (.int ss), .val (.int so), .val (.int sk), .val (.int lbs), .val (.int lbo), .val (.int lbk), .val (.int as0), .val (.int as1), .val (.int bs0), .unset, .unset, .unset, .unset, .unset, .unset, .unset, .unset, .unset, .unset, .unset, .unset, .unset, .unset, .unset, .unset, .unset, .unset, .unset, .unset] [(.int as1)])
                  exact j15 _ _ _ X14 N14 e14 r_as1
              show Go p_ e_ below _ _ T12 (mkF m_ 158 #[.val (.int p0), .val (.int p1), .val (.int p2), .val (.int p3), .val (.int p4), .val (.int p5), .val (.int las), .val (.int lao), .val (.int lak), .val (.int ss), .val (.int so), .val (.int sk), .val (.int lbs), .val (.int lbo), .val (.int lbk), .val (.int as0), .val (.int as1), .unset, .unset, .unset, .unset, .unset, .unset, .unset, .unset, .unset, .unset, .unset, .unset, .unset, .unset, .unset, .unset, .unset, .unset, .unset, .unset, .unset] [])
              refine Go.iload X12 hx (hb hby at_158) rfl ?_
              by_cases hc160_59 : ss = (0 : Int32)
              · skip
                refine Go.ifYes X12 hx (pc' := 168) (hb hby at_160) ((if0 _ _).trans (teq hc160_59).1) (by decide) (by decide) ?_
                show Go p_ e_ below _ _ T12 (mkF m_ 168 #[.val (.int p0), .val (.int p1), .val (.int p2), .val (.int p3), .val (.int p4), .val (.int p5), .val (.int las), .val (.int lao), .val (.int lak), .val (.int ss), .val (.int so), .val (.int sk), .val (.int lbs), .val (.int lbo), .val (.int lbk), .val (.int as0), .val (.int as1), .unset, .unset, .unset, .unset, .unset, .unset, .unset, .unset, .unset, .unset, .unset, .unset, .unset, .unset, .unset, .unset, .unset, .unset, .unset, .unset, .unset] [])
                refine Go.iload X12 hx (hb hby at_168) rfl ?_
                refine Go.iloadN X12 hx (hb hby at_170) rfl ?_
                refine Go.sipush X12 hx (255 : Int32) (hb hby at_171) rfl ?_
                refine Go.iand X12 hx (hb hby at_174) ?_
                refine Go.ixor X12 hx (hb hby at_175) ?_
                refine Go.i2c X12 hx (hb hby at_176) ?_
                show Go p_ e_ below _ _ T12 (mkF m_ 177 #[.val (.int p0), .val (.int p1), .val (.int p2), .val (.int p3), .val (.int p4), .val (.int p5), .val (.int las), .val (.int lao), .val (.int lak), .val (.int ss), .val (.int so), .val (.int sk), .val (.int lbs), .val (.int lbo), .val (.int lbk), .val (.int as0), .val (.int as1), .unset, .unset, .unset, .unset, .unset, .unset, .unset, .unset, .unset, .unset, .unset, .unset, .unset, .unset, .unset, .unset, .unset, .unset, .unset, .unset, .unset] [(.int ((as0 ^^^ (p3 &&& (255 : Int32))).toUInt32.toUInt16.toUInt32.toInt32))])
                exact j13 _ _ _ X12 N12 e12 (own_xor r_as0 (own_and8 _))
              · skip
                refine Go.ifNo X12 hx (hb hby at_160) ((if0 _ _).trans (feq hc160_59).1) ?_
                show Go p_ e_ below _ _ T12 (mkF m_ 163 #[.val (.int p0), .val (.int p1), .val (.int p2), .val (.int p3), .val (.int p4), .val (.int p5), .val (.int las), .val (.int lao), .val (.int lak), .val (.int ss), .val (.int so), .val (.int sk), .val (.int lbs), .val (.int lbo), .val (.int lbk), .val (.int as0), .val (.int as1), .unset, .unset, .unset, .unset, .unset, .unset, .unset, .unset, .unset, .unset, .unset, .unset, .unset, .unset, .unset, .unset, .unset, .unset, .unset, .unset, .unset] [])
                refine Go.iload X12 hx (hb hby at_163) rfl ?_
                refine Go.goto X12 hx (pc' := 177) (hb hby at_165) (by decide) (by decide) ?_
                show Go p_ e_ below _ _ T12 (mkF m_ 177 #[.val (.int p0), .val (.int p1), .val (.int p2), .val (.int p3), .val (.int p4), .val (.int p5), .val (.int las), .val (.int lao), .val (.int lak), .val (.int ss), .val (.int so), .val (.int sk), .val (.int lbs), .val (.int lbo), .val (.int lbk), .val (.int as0), .val (.int as1), .unset, .unset, .unset, .unset, .unset, .unset, .unset, .unset, .unset, .unset, .unset, .unset, .unset, .unset, .unset, .unset, .unset, .unset, .unset, .unset, .unset] [(.int as0)])
                exact j13 _ _ _ X12 N12 e12 r_as0
            refine Go.iload X10 hx (hb hby at_119) rfl ?_
            by_cases hc121_60 : sk = (0 : Int32)
            · skip
              refine Go.ifYes X10 hx (pc' := 129) (hb hby at_121) ((if0 _ _).trans (teq hc121_60).1) (by decide) (by decide) ?_
              show Go p_ e_ below _ _ T10 (mkF m_ 129 #[.val (.int p0), .val (.int p1), .val (.int p2), .val (.int p3), .val (.int p4), .val (.int p5), .val (.int las), .val (.int lao), .val (.int lak), .val (.int ss), .val (.int so), .val (.int sk), .val (.int lbs), .val (.int lbo), .unset, .unset, .unset, .unset, .unset, .unset, .unset, .unset, .unset, .unset, .unset, .unset, .unset, .unset, .unset, .unset, .unset, .unset, .unset, .unset, .unset, .unset, .unset, .unset] [])
              refine Go.iconst X10 hx (1 : Int32) (hb hby at_129) rfl ?_
              refine Go.iload X10 hx (hb hby at_130) rfl ?_
              refine Go.iconst X10 hx (5 : Int32) (hb hby at_132) rfl ?_
              refine Go.iushr X10 hx (hb hby at_133) ?_
              refine Go.iconst X10 hx (1 : Int32) (hb hby at_134) rfl ?_
              refine Go.iand X10 hx (hb hby at_135) ?_
              refine Go.iadd X10 hx (hb hby at_136) ?_
              show Go p_ e_ below _ _ T10 (mkF m_ 137 #[.val (.int p0), .val (.int p1), .val (.int p2), .val (.int p3), .val (.int p4), .val (.int p5), .val (.int las), .val (.int lao), .val (.int lak), .val (.int ss), .val (.int so), .val (.int sk), .val (.int lbs), .val (.int lbo), .unset, .unset, .unset, .unset, .unset, .unset, .unset, .unset, .unset, .unset, .unset, .unset, .unset, .unset, .unset, .unset, .unset, .unset, .unset, .unset, .unset, .unset, .unset, .unset] [(.int ((1 : Int32) + (((p5.toUInt32 >>> ((5 : Int32) &&& 31).toUInt32).toInt32) &&& (1 : Int32))))])
              exact j11 _ _ _ X10 N10 e10 (own_12 _)
            · skip
              refine Go.ifNo X10 hx (hb hby at_121) ((if0 _ _).trans (feq hc121_60).1) ?_
              show Go p_ e_ below _ _ T10 (mkF m_ 124 #[.val (.int p0), .val (.int p1), .val (.int p2), .val (.int p3), .val (.int p4), .val (.int p5), .val (.int las), .val (.int lao), .val (.int lak), .val (.int ss), .val (.int so), .val (.int sk), .val (.int lbs), .val (.int lbo), .unset, .unset, .unset, .unset, .unset, .unset, .unset, .unset, .unset, .unset, .unset, .unset, .unset, .unset, .unset, .unset, .unset, .unset, .unset, .unset, .unset, .unset, .unset, .unset] [])
              refine Go.iload X10 hx (hb hby at_124) rfl ?_
              refine Go.goto X10 hx (pc' := 137) (hb hby at_126) (by decide) (by decide) ?_
              show Go p_ e_ below _ _ T10 (mkF m_ 137 #[.val (.int p0), .val (.int p1), .val (.int p2), .val (.int p3), .val (.int p4), .val (.int p5), .val (.int las), .val (.int lao), .val (.int lak), .val (.int ss), .val (.int so), .val (.int sk), .val (.int lbs), .val (.int lbo), .unset, .unset, .unset, .unset, .unset, .unset, .unset, .unset, .unset, .unset, .unset, .unset, .unset, .unset, .unset, .unset, .unset, .unset, .unset, .unset, .unset, .unset, .unset, .unset] [(.int lak)])
              exact j11 _ _ _ X10 N10 e10 r_lak
          refine Go.iload X8 hx (hb hby at_99) rfl ?_
          by_cases hc101_61 : so = (0 : Int32)
          · skip
            refine Go.ifYes X8 hx (pc' := 109) (hb hby at_101) ((if0 _ _).trans (teq hc101_61).1) (by decide) (by decide) ?_
            show Go p_ e_ below _ _ T8 (mkF m_ 109 #[.val (.int p0), .val (.int p1), .val (.int p2), .val (.int p3), .val (.int p4), .val (.int p5), .val (.int las), .val (.int lao), .val (.int lak), .val (.int ss), .val (.int so), .val (.int sk), .val (.int lbs), .unset, .unset, .unset, .unset, .unset, .unset, .unset, .unset, .unset, .unset, .unset, .unset, .unset, .unset, .unset, .unset, .unset, .unset, .unset, .unset, .unset, .unset, .unset, .unset, .unset] [])
            refine Go.iconst X8 hx (1 : Int32) (hb hby at_109) rfl ?_
            refine Go.iload X8 hx (hb hby at_110) rfl ?_
            refine Go.iconst X8 hx (4 : Int32) (hb hby at_112) rfl ?_
            refine Go.iushr X8 hx (hb hby at_113) ?_
            refine Go.iconst X8 hx (1 : Int32) (hb hby at_114) rfl ?_
            refine Go.iand X8 hx (hb hby at_115) ?_
            refine Go.iadd X8 hx (hb hby at_116) ?_
            show Go p_ e_ below _ _ T8 (mkF m_ 117 #[.val (.int p0), .val (.int p1), .val (.int p2), .val (.int p3), .val (.int p4), .val (.int p5), .val (.int las), .val (.int lao), .val (.int lak), .val (.int ss), .val (.int so), .val (.int sk), .val (.int lbs), .unset, .unset, .unset, .unset, .unset, .unset, .unset, .unset, .unset, .unset, .unset, .unset, .unset, .unset, .unset, .unset, .unset, .unset, .unset, .unset, .unset, .unset, .unset, .unset, .unset] [(.int ((1 : Int32) + (((p5.toUInt32 >>> ((4 : Int32) &&& 31).toUInt32).toInt32) &&& (1 : Int32))))])
            exact j9 _ _ _ X8 N8 e8 (own_12 _)
          · skip
            refine Go.ifNo X8 hx (hb hby at_101) ((if0 _ _).trans (feq hc101_61).1) ?_
            show Go p_ e_ below _ _ T8 (mkF m_ 104 #[.val (.int p0), .val (.int p1), .val (.int p2), .val (.int p3), .val (.int p4), .val (.int p5), .val (.int las), .val (.int lao), .val (.int lak), .val (.int ss), .val (.int so), .val (.int sk), .val (.int lbs), .unset, .unset, .unset, .unset, .unset, .unset, .unset, .unset, .unset, .unset, .unset, .unset, .unset, .unset, .unset, .unset, .unset, .unset, .unset, .unset, .unset, .unset, .unset, .unset, .unset] [])
            refine Go.iload X8 hx (hb hby at_104) rfl ?_
            refine Go.goto X8 hx (pc' := 117) (hb hby at_106) (by decide) (by decide) ?_
            show Go p_ e_ below _ _ T8 (mkF m_ 117 #[.val (.int p0), .val (.int p1), .val (.int p2), .val (.int p3), .val (.int p4), .val (.int p5), .val (.int las), .val (.int lao), .val (.int lak), .val (.int ss), .val (.int so), .val (.int sk), .val (.int lbs), .unset, .unset, .unset, .unset, .unset, .unset, .unset, .unset, .unset, .unset, .unset, .unset, .unset, .unset, .unset, .unset, .unset, .unset, .unset, .unset, .unset, .unset, .unset, .unset, .unset] [(.int lao)])
            exact j9 _ _ _ X8 N8 e8 r_lao
        refine Go.iload X6 hx (hb hby at_79) rfl ?_
        by_cases hc81_62 : ss = (0 : Int32)
        · skip
          refine Go.ifYes X6 hx (pc' := 89) (hb hby at_81) ((if0 _ _).trans (teq hc81_62).1) (by decide) (by decide) ?_
          show Go p_ e_ below _ _ T6 (mkF m_ 89 #[.val (.int p0), .val (.int p1), .val (.int p2), .val (.int p3), .val (.int p4), .val (.int p5), .val (.int las), .val (.int lao), .val (.int lak), .val (.int ss), .val (.int so), .val (.int sk), .unset, .unset, .unset, .unset, .unset, .unset, .unset, .unset, .unset, .unset, .unset, .unset, .unset, .unset, .unset, .unset, .unset, .unset, .unset, .unset, .unset, .unset, .unset, .unset, .unset, .unset] [])
          refine Go.iconst X6 hx (1 : Int32) (hb hby at_89) rfl ?_
          refine Go.iload X6 hx (hb hby at_90) rfl ?_
          refine Go.iconst X6 hx (3 : Int32) (hb hby at_92) rfl ?_
          refine Go.iushr X6 hx (hb hby at_93) ?_
          refine Go.iconst X6 hx (1 : Int32) (hb hby at_94) rfl ?_
          refine Go.iand X6 hx (hb hby at_95) ?_
          refine Go.iadd X6 hx (hb hby at_96) ?_
          show Go p_ e_ below _ _ T6 (mkF m_ 97 #[.val (.int p0), .val (.int p1), .val (.int p2), .val (.int p3), .val (.int p4), .val (.int p5), .val (.int las), .val (.int lao), .val (.int lak), .val (.int ss), .val (.int so), .val (.int sk), .unset, .unset, .unset, .unset, .unset, .unset, .unset, .unset, .unset, .unset, .unset, .unset, .unset, .unset, .unset, .unset, .unset, .unset, .unset, .unset, .unset, .unset, .unset, .unset, .unset, .unset] [(.int ((1 : Int32) + (((p5.toUInt32 >>> ((3 : Int32) &&& 31).toUInt32).toInt32) &&& (1 : Int32))))])
          exact j7 _ _ _ X6 N6 e6 (own_12 _)
        · skip
          refine Go.ifNo X6 hx (hb hby at_81) ((if0 _ _).trans (feq hc81_62).1) ?_
          show Go p_ e_ below _ _ T6 (mkF m_ 84 #[.val (.int p0), .val (.int p1), .val (.int p2), .val (.int p3), .val (.int p4), .val (.int p5), .val (.int las), .val (.int lao), .val (.int lak), .val (.int ss), .val (.int so), .val (.int sk), .unset, .unset, .unset, .unset, .unset, .unset, .unset, .unset, .unset, .unset, .unset, .unset, .unset, .unset, .unset, .unset, .unset, .unset, .unset, .unset, .unset, .unset, .unset, .unset, .unset, .unset] [])
          refine Go.iload X6 hx (hb hby at_84) rfl ?_
          refine Go.goto X6 hx (pc' := 97) (hb hby at_86) (by decide) (by decide) ?_
          show Go p_ e_ below _ _ T6 (mkF m_ 97 #[.val (.int p0), .val (.int p1), .val (.int p2), .val (.int p3), .val (.int p4), .val (.int p5), .val (.int las), .val (.int lao), .val (.int lak), .val (.int ss), .val (.int so), .val (.int sk), .unset, .unset, .unset, .unset, .unset, .unset, .unset, .unset, .unset, .unset, .unset, .unset, .unset, .unset, .unset, .unset, .unset, .unset, .unset, .unset, .unset, .unset, .unset, .unset, .unset, .unset] [(.int las)])
          exact j7 _ _ _ X6 N6 e6 r_las
      refine Go.iload X4 hx (hb hby at_62) rfl ?_
      refine Go.bipush X4 hx (8 : Int32) (hb hby at_64) rfl ?_
      refine Go.iushr X4 hx (hb hby at_66) ?_
      refine Go.iconst X4 hx (1 : Int32) (hb hby at_67) rfl ?_
      refine Go.iand X4 hx (hb hby at_68) ?_
      by_cases hc69_63 : (((p5.toUInt32 >>> ((8 : Int32) &&& 31).toUInt32).toInt32) &&& (1 : Int32)) = (0 : Int32)
      · skip
        refine Go.ifYes X4 hx (pc' := 76) (hb hby at_69) ((if0 _ _).trans (teq hc69_63).1) (by decide) (by decide) ?_
        show Go p_ e_ below _ _ T4 (mkF m_ 76 #[.val (.int p0), .val (.int p1), .val (.int p2), .val (.int p3), .val (.int p4), .val (.int p5), .val (.int las), .val (.int lao), .val (.int lak), .val (.int ss), .val (.int so), .unset, .unset, .unset, .unset, .unset, .unset, .unset, .unset, .unset, .unset, .unset, .unset, .unset, .unset, .unset, .unset, .unset, .unset, .unset, .unset, .unset, .unset, .unset, .unset, .unset, .unset, .unset] [])
        refine Go.iconst X4 hx (0 : Int32) (hb hby at_76) rfl ?_
        show Go p_ e_ below _ _ T4 (mkF m_ 77 #[.val (.int p0), .val (.int p1), .val (.int p2), .val (.int p3), .val (.int p4), .val (.int p5), .val (.int las), .val (.int lao), .val (.int lak), .val (.int ss), .val (.int so), .unset, .unset, .unset, .unset, .unset, .unset, .unset, .unset, .unset, .unset, .unset, .unset, .unset, .unset, .unset, .unset, .unset, .unset, .unset, .unset, .unset, .unset, .unset, .unset, .unset, .unset, .unset] [(.int (0 : Int32))])
        exact j5 _ _ _ X4 N4 e4 (by rw [if_pos hc69_63])
      · skip
        refine Go.ifNo X4 hx (hb hby at_69) ((if0 _ _).trans (feq hc69_63).1) ?_
        show Go p_ e_ below _ _ T4 (mkF m_ 72 #[.val (.int p0), .val (.int p1), .val (.int p2), .val (.int p3), .val (.int p4), .val (.int p5), .val (.int las), .val (.int lao), .val (.int lak), .val (.int ss), .val (.int so), .unset, .unset, .unset, .unset, .unset, .unset, .unset, .unset, .unset, .unset, .unset, .unset, .unset, .unset, .unset, .unset, .unset, .unset, .unset, .unset, .unset, .unset, .unset, .unset, .unset, .unset, .unset] [])
        refine Go.iconst X4 hx (1 : Int32) (hb hby at_72) rfl ?_
        refine Go.goto X4 hx (pc' := 77) (hb hby at_73) (by decide) (by decide) ?_
        show Go p_ e_ below _ _ T4 (mkF m_ 77 #[.val (.int p0), .val (.int p1), .val (.int p2), .val (.int p3), .val (.int p4), .val (.int p5), .val (.int las), .val (.int lao), .val (.int lak), .val (.int ss), .val (.int so), .unset, .unset, .unset, .unset, .unset, .unset, .unset, .unset, .unset, .unset, .unset, .unset, .unset, .unset, .unset, .unset, .unset, .unset, .unset, .unset, .unset, .unset, .unset, .unset, .unset, .unset, .unset] [(.int (1 : Int32))])
        exact j5 _ _ _ X4 N4 e4 (by rw [if_neg hc69_63])
    refine Go.iload X2 hx (hb hby at_45) rfl ?_
    refine Go.bipush X2 hx (7 : Int32) (hb hby at_47) rfl ?_
    refine Go.iushr X2 hx (hb hby at_49) ?_
    refine Go.iconst X2 hx (1 : Int32) (hb hby at_50) rfl ?_
    refine Go.iand X2 hx (hb hby at_51) ?_
    by_cases hc52_64 : (((p5.toUInt32 >>> ((7 : Int32) &&& 31).toUInt32).toInt32) &&& (1 : Int32)) = (0 : Int32)
    · skip
      refine Go.ifYes X2 hx (pc' := 59) (hb hby at_52) ((if0 _ _).trans (teq hc52_64).1) (by decide) (by decide) ?_
      show Go p_ e_ below _ _ T2 (mkF m_ 59 #[.val (.int p0), .val (.int p1), .val (.int p2), .val (.int p3), .val (.int p4), .val (.int p5), .val (.int las), .val (.int lao), .val (.int lak), .val (.int ss), .unset, .unset, .unset, .unset, .unset, .unset, .unset, .unset, .unset, .unset, .unset, .unset, .unset, .unset, .unset, .unset, .unset, .unset, .unset, .unset, .unset, .unset, .unset, .unset, .unset, .unset, .unset, .unset] [])
      refine Go.iconst X2 hx (0 : Int32) (hb hby at_59) rfl ?_
      show Go p_ e_ below _ _ T2 (mkF m_ 60 #[.val (.int p0), .val (.int p1), .val (.int p2), .val (.int p3), .val (.int p4), .val (.int p5), .val (.int las), .val (.int lao), .val (.int lak), .val (.int ss), .unset, .unset, .unset, .unset, .unset, .unset, .unset, .unset, .unset, .unset, .unset, .unset, .unset, .unset, .unset, .unset, .unset, .unset, .unset, .unset, .unset, .unset, .unset, .unset, .unset, .unset, .unset, .unset] [(.int (0 : Int32))])
      exact j3 _ _ _ X2 N2 e2 (by rw [if_pos hc52_64])
    · skip
      refine Go.ifNo X2 hx (hb hby at_52) ((if0 _ _).trans (feq hc52_64).1) ?_
      show Go p_ e_ below _ _ T2 (mkF m_ 55 #[.val (.int p0), .val (.int p1), .val (.int p2), .val (.int p3), .val (.int p4), .val (.int p5), .val (.int las), .val (.int lao), .val (.int lak), .val (.int ss), .unset, .unset, .unset, .unset, .unset, .unset, .unset, .unset, .unset, .unset, .unset, .unset, .unset, .unset, .unset, .unset, .unset, .unset, .unset, .unset, .unset, .unset, .unset, .unset, .unset, .unset, .unset, .unset] [])
      refine Go.iconst X2 hx (1 : Int32) (hb hby at_55) rfl ?_
      refine Go.goto X2 hx (pc' := 60) (hb hby at_56) (by decide) (by decide) ?_
      show Go p_ e_ below _ _ T2 (mkF m_ 60 #[.val (.int p0), .val (.int p1), .val (.int p2), .val (.int p3), .val (.int p4), .val (.int p5), .val (.int las), .val (.int lao), .val (.int lak), .val (.int ss), .unset, .unset, .unset, .unset, .unset, .unset, .unset, .unset, .unset, .unset, .unset, .unset, .unset, .unset, .unset, .unset, .unset, .unset, .unset, .unset, .unset, .unset, .unset, .unset, .unset, .unset, .unset, .unset] [(.int (1 : Int32))])
      exact j3 _ _ _ X2 N2 e2 (by rw [if_neg hc52_64])
  show Go p_ e_ below _ _ s₁ (mkF m_ 28 #[.val (.int p0), .val (.int p1), .val (.int p2), .val (.int p3), .val (.int p4), .val (.int p5), .val (.int las), .val (.int lao), .val (.int lak), .unset, .unset, .unset, .unset, .unset, .unset, .unset, .unset, .unset, .unset, .unset, .unset, .unset, .unset, .unset, .unset, .unset, .unset, .unset, .unset, .unset, .unset, .unset, .unset, .unset, .unset, .unset, .unset, .unset] [])
  refine Go.iload X0 hx (hb hby at_28) rfl ?_
  refine Go.bipush X0 hx (6 : Int32) (hb hby at_30) rfl ?_
  refine Go.iushr X0 hx (hb hby at_32) ?_
  refine Go.iconst X0 hx (1 : Int32) (hb hby at_33) rfl ?_
  refine Go.iand X0 hx (hb hby at_34) ?_
  by_cases hc35_65 : (((p5.toUInt32 >>> ((6 : Int32) &&& 31).toUInt32).toInt32) &&& (1 : Int32)) = (0 : Int32)
  · skip
    refine Go.ifYes X0 hx (pc' := 42) (hb hby at_35) ((if0 _ _).trans (teq hc35_65).1) (by decide) (by decide) ?_
    show Go p_ e_ below _ _ s₁ (mkF m_ 42 #[.val (.int p0), .val (.int p1), .val (.int p2), .val (.int p3), .val (.int p4), .val (.int p5), .val (.int las), .val (.int lao), .val (.int lak), .unset, .unset, .unset, .unset, .unset, .unset, .unset, .unset, .unset, .unset, .unset, .unset, .unset, .unset, .unset, .unset, .unset, .unset, .unset, .unset, .unset, .unset, .unset, .unset, .unset, .unset, .unset, .unset, .unset] [])
    refine Go.iconst X0 hx (0 : Int32) (hb hby at_42) rfl ?_
    show Go p_ e_ below _ _ s₁ (mkF m_ 43 #[.val (.int p0), .val (.int p1), .val (.int p2), .val (.int p3), .val (.int p4), .val (.int p5), .val (.int las), .val (.int lao), .val (.int lak), .unset, .unset, .unset, .unset, .unset, .unset, .unset, .unset, .unset, .unset, .unset, .unset, .unset, .unset, .unset, .unset, .unset, .unset, .unset, .unset, .unset, .unset, .unset, .unset, .unset, .unset, .unset, .unset, .unset] [(.int (0 : Int32))])
    exact j1 _ _ _ X0 N0 e0 (by rw [if_pos hc35_65])
  · skip
    refine Go.ifNo X0 hx (hb hby at_35) ((if0 _ _).trans (feq hc35_65).1) ?_
    show Go p_ e_ below _ _ s₁ (mkF m_ 38 #[.val (.int p0), .val (.int p1), .val (.int p2), .val (.int p3), .val (.int p4), .val (.int p5), .val (.int las), .val (.int lao), .val (.int lak), .unset, .unset, .unset, .unset, .unset, .unset, .unset, .unset, .unset, .unset, .unset, .unset, .unset, .unset, .unset, .unset, .unset, .unset, .unset, .unset, .unset, .unset, .unset, .unset, .unset, .unset, .unset, .unset, .unset] [])
    refine Go.iconst X0 hx (1 : Int32) (hb hby at_38) rfl ?_
    refine Go.goto X0 hx (pc' := 43) (hb hby at_39) (by decide) (by decide) ?_
    show Go p_ e_ below _ _ s₁ (mkF m_ 43 #[.val (.int p0), .val (.int p1), .val (.int p2), .val (.int p3), .val (.int p4), .val (.int p5), .val (.int las), .val (.int lao), .val (.int lak), .unset, .unset, .unset, .unset, .unset, .unset, .unset, .unset, .unset, .unset, .unset, .unset, .unset, .unset, .unset, .unset, .unset, .unset, .unset, .unset, .unset, .unset, .unset, .unset, .unset, .unset, .unset, .unset, .unset] [(.int (1 : Int32))])
    exact j1 _ _ _ X0 N0 e0 (by rw [if_neg hc35_65])
set_option maxRecDepth 65536 in
set_option maxHeartbeats 40000000 in
theorem comes_1 {Post : Tables → Env → Array Value → State → Outcome → State → Prop} (hpost : ∀ tb e args s v u, (limb_1_1.after args s (.returned v) u = true ∧ limb_1_2.after args s (.returned v) u = true ∧ True) → ReturnedEndW s (.returned v) u (Jvm.fieldLocs frame_1_writes args s ++ Jvm.arrayLocs frame_1_arrays args s ++ Jvm.staticLocs frame_1_statics s) 64 4288 → Post tb e args s (.returned v) u) :
    ArmFor flags0 classFile x code maxLocals ret World_1 tables_1 room_1 Calls_1 rest_1 Pre_1 Post := by
  intro l hfl _ _ p e ha hc hk s m args below hf hA hF happ hP
  obtain ⟨hcalls, hrest, hpre⟩ := hP
  obtain ⟨-, -, -, hnamed, -, -, -, hat⟩ := (Spec.applies_iff hf).mp happ
  obtain ⟨hg, hn⟩ := and_e (Cond.before_iff.mp (show (Jvm.Cond.and given_1 narrow_1).before args s = true from hpre))
  obtain ⟨g1, g2⟩ := and_e hg
  obtain ⟨g3, g4⟩ := and_e g2
  obtain ⟨g5, g6⟩ := and_e g4
  obtain ⟨g7, g8⟩ := and_e g6
  obtain ⟨g9, g10⟩ := and_e g8
  obtain ⟨g11, g12⟩ := and_e g10
  obtain ⟨w0, w1, w2, w3, w4, w5, rfl⟩ : ∃ w0 w1 w2 w3 w4 w5 : Value, args = #[w0, w1, w2, w3, w4, w5] := by
    have hs : args.size = 6 := by simpa [Cond.value, given_1] using g1
    obtain ⟨L⟩ := args
    match L, hs with
    | [w0, w1, w2, w3, w4, w5], _ => exact ⟨w0, w1, w2, w3, w4, w5, rfl⟩
  have hw := fun d (hd : d ∈ tables_1) => atoms_spec (ws := Jvm.Cond.code x code maxLocals ret :: tables_1) hat d (List.mem_cons_of_mem _ hd)
  have hfit : Fit s := fun {y c} hc i hi => by
    obtain ⟨ha, rfl⟩ := Array.getElem?_eq_some_iff.mp hc
    have q := List.all_eq_true.mp ((Array.all_eq_true_iff_forall_mem.mp hF) _ (Array.getElem_mem ha)) i (List.mem_range.mpr hi)
    simpa [Array.getElem?_eq_getElem hi] using q
  obtain ⟨i0, ei0⟩ := is_v g3
  obtain rfl : w0 = (.int i0) := Option.some.inj ei0
  obtain ⟨i1, ei1⟩ := is_v g5
  obtain rfl : w1 = (.int i1) := Option.some.inj ei1
  obtain ⟨i2, ei2⟩ := is_v g7
  obtain rfl : w2 = (.int i2) := Option.some.inj ei2
  obtain ⟨i3, ei3⟩ := is_v g9
  obtain rfl : w3 = (.int i3) := Option.some.inj ei3
  obtain ⟨i4, ei4⟩ := is_v g11
  obtain rfl : w4 = (.int i4) := Option.some.inj ei4
  obtain ⟨i5, ei5⟩ := is_v g12
  obtain rfl : w5 = (.int i5) := Option.some.inj ei5
  obtain ⟨hsets, hown0⟩ := atoms_of _ (rest_1_c_eq ▸ (show rest_1_c.before _ s = true from hrest))
  obtain ⟨zc, ezc⟩ := is_v (Cond.before_iff.mp (hsets _ (List.mem_of_getElem? (i := 1) rfl)))
  have Sco := Sta.start ezc (Or.inl (hsets _ (List.mem_of_getElem? (i := 0) rfl)))
  have hzc : ¬ zc = 0 := gotF (Cond.eq_ints ezc (Term.int_eval (0))) (not_v (Cond.before_iff.mp (hsets _ (List.mem_of_getElem? (i := 2) rfl))))
  obtain ⟨fm, efm, rfm⟩ := isR_v (Cond.before_iff.mp (hsets _ (List.mem_of_getElem? (i := 8) rfl)))
  have Sfm := Sta.start efm (Or.inl (hsets _ (List.mem_of_getElem? (i := 7) rfl)))
  obtain ⟨n, o, h1, h2, h3, _, L, rfl, ⟨rfl, N⟩, hq⟩ := rm0 l s _ hw tables_1 i0 i1 i2 i3 i4 i5 zc fm s.heap s.heap.size (Nat.le_refl _) (Old.start s) Sco hzc Sfm rfm p e ha hc hk s m _ below hf ((Spec.applies_iff_loose hf).mp happ).1 ⟨rfl, State.Warmed39.refl s, rfl⟩ trivial
  refine ⟨n, _, h1, h2, h3, hpost _ _ _ _ _ _ ⟨Cond.after_iff.mpr rfl, Cond.after_iff.mpr (eq_i res_at (Term.int_eval (1)) rfl), trivial⟩ ⟨hq.1, hq.2.1, hq.2.2.1, (hq.2.2.2.sift fun y hy => Or.inr (N y hy)).mono (by decide) (by decide)⟩⟩
theorem main_1_1 : Claimed_1_1 := comes_1 fun _ _ _ _ _ _ h hF => ⟨h.1, hF⟩
theorem main_1_2 : Claimed_1_2 := comes_1 fun _ _ _ _ _ _ h hF => ⟨h.2.1, hF⟩
end Jvm.Pilot.@@N@@
namespace Jvm.Pilot.@@N@@
open Jvm Jvm.ClassFile Sem Op Lib Jvm.Free Jvm.Stand Jvm.Pilot.@@N@@.Jvm.D
/-! MADE BY PROGRAM (witnessworld.py) out of the Statement's table words and the real class files: 22 classes; the members and pool entries that the words name. The judged class is class 1, her method 3. -/
namespace start1
open Jvm.ClassFile
def u (s : String) : CpInfo := .utf8 (stringToUtf16 s)
/-- a pool by its gaps: so many unusable entries, then the entry; so many at the end -/
def gap : Nat → List CpInfo → List CpInfo
  | 0, r => r
  | n + 1, r => .unusable :: gap n r
def poolList (es : List (Nat × CpInfo)) (last : Nat) : List CpInfo := es.foldr (fun e r => gap e.1 (e.2 :: r)) (gap last [])
def pool (es : List (Nat × CpInfo)) (last : Nat) : Array CpInfo := ⟨poolList es last⟩
def fileOf (pool : Array CpInfo) (this : Nat) (attrs : Array Attribute := #[]) (ms : Array MethodInfo := #[]) (fl : Nat := 33) (sup : Nat := 0) (ifs : Array Nat := #[]) (fds : Array FieldInfo := #[]) : ClassFile where
  minorVersion := 0
  majorVersion := 65
  constantPool := pool
  accessFlags := fl
  thisClass := this
  superClass := sup
  interfaces := ifs
  fields := fds
  methods := ms
  attributes := attrs
def plain (name : String) (sup : Option ClassId) : Class where
  name := name
  kind := .ordinary
  loader := none
  accessFlags := 33
  super := sup
  interfaces := #[]
  cf := none
  fields := #[]
  methods := #[]
  instanceTypes := #[]
  staticTypes := #[]
  resolved := #[]
  callSites := []
  init := .initialized
  statics := none
  mirror := none

def pool0 : Array CpInfo := pool [(5, u "<init>"), (0, u "()V"), (1, .class_ 10), (1, u "java/lang/Object")] 113

def k0c0 : Code := { maxStack := 0, maxLocals := 1, code := object_method_1_code, exceptionTable := #[], attributes := #[] }
def k0m0 : Method := { name := "<init>", desc := "()V", sig := { parameters := [], returnType := none }, accessFlags := 1, code := some k0c0 }
/-- java/lang/Object -/
def k0 : Class := { plain "java/lang/Object" none with
  accessFlags := 33
  interfaces := #[]
  cf := some (fileOf pool0 8 #[] #[{ accessFlags := 1, nameIndex := 5, descriptorIndex := 6, attributes := #[] }] 33 0 #[] #[])
  fields := #[]
  methods := #[k0m0]
  instanceTypes := #[]
  staticTypes := #[]
  resolved := Array.replicate 124 none
  statics := none }

def pool1 : Array CpInfo := pool [(2, .class_ 4), (1, u "java/lang/Object"), (0, u "<init>"), (0, u "()V"), (0, .class_ 8), (0, u "java/lang/String"), (0, .methodref 7 10), (0, .nameAndType 5 11), (0, u "([C)V"), (0, .class_ 13), (0, u "com/example/safe_retries/saferetries/identity/IdempotencyKey"), (0, .methodref 15 16), (0, .class_ 17), (0, .nameAndType 18 19), (0, u "com/example/safe_retries/saferetries/identity/RequestIdentityEqualsPinLaw"), (0, u "str"), (0, u "(CCI)Ljava/lang/String;"), (0, .methodref 12 21), (0, .nameAndType 5 22), (0, u "(Ljava/lang/String;)V"), (0, .class_ 24), (0, u "com/example/safe_retries/saferetries/identity/RequestIdentity"), (0, .methodref 23 26), (0, .nameAndType 5 27), (0, u "(Ljava/lang/String;Ljava/lang/String;Lcom/example/safe_retries/saferetries/identity/IdempotencyKey;)V"), (0, .methodref 15 29), (0, .nameAndType 30 31), (0, u "same"), (0, u "(CCICCI)Z"), (0, .methodref 23 33), (0, .nameAndType 34 35), (0, u "equals"), (0, u "(Ljava/lang/Object;)Z"), (5, u "law"), (0, u "(IIIIII)Z")] 2

def k1m0 : Method := { name := "<init>", desc := "()V", sig := { parameters := [], returnType := none }, accessFlags := 1, code := none }
def k1c1 : Code := { maxStack := 4, maxLocals := 4, code := method_2_code, exceptionTable := #[], attributes := #[] }
def k1m1 : Method := { name := "str", desc := "(CCI)Ljava/lang/String;", sig := { parameters := [.char, .char, .int], returnType := some (.object "java/lang/String") }, accessFlags := 10, code := some k1c1 }
def k1c2 : Code := { maxStack := 2, maxLocals := 6, code := method_3_code, exceptionTable := #[], attributes := #[] }
def k1m2 : Method := { name := "same", desc := "(CCICCI)Z", sig := { parameters := [.char, .char, .int, .char, .char, .int], returnType := some .boolean }, accessFlags := 10, code := some k1c2 }
def k1c3 : Code := { maxStack := 6, maxLocals := 38, code := code, exceptionTable := #[], attributes := #[] }
def k1m3 : Method := { name := "law", desc := "(IIIIII)Z", sig := { parameters := [.int, .int, .int, .int, .int, .int], returnType := some .boolean }, accessFlags := 9, code := some k1c3 }
/-- com/example/safe_retries/saferetries/identity/RequestIdentityEqualsPinLaw -/
def k1 : Class := { plain "com/example/safe_retries/saferetries/identity/RequestIdentityEqualsPinLaw" (some 0) with
  accessFlags := 49
  interfaces := #[]
  cf := some (fileOf pool1 15 #[] #[{ accessFlags := 1, nameIndex := 5, descriptorIndex := 6, attributes := #[] }, { accessFlags := 10, nameIndex := 18, descriptorIndex := 19, attributes := #[] }, { accessFlags := 10, nameIndex := 30, descriptorIndex := 31, attributes := #[] }, { accessFlags := 9, nameIndex := 41, descriptorIndex := 42, attributes := #[] }] 49 2 #[] #[])
  fields := #[]
  methods := #[k1m0, k1m1, k1m2, k1m3]
  instanceTypes := #[]
  staticTypes := #[]
  resolved := Array.replicate 45 none
  statics := none }

def pool2 : Array CpInfo := pool [(1, .methodref 2 3), (0, .class_ 4), (0, .nameAndType 5 6), (0, u "java/lang/Object"), (0, u "<init>"), (0, u "()V"), (0, .string 8), (0, u "value"), (0, .methodref 10 11), (0, .class_ 12), (0, .nameAndType 13 14), (0, u "java/util/Objects"), (0, u "requireNonNull"), (0, u "(Ljava/lang/Object;Ljava/lang/String;)Ljava/lang/Object;"), (0, .methodref 16 17), (0, .class_ 18), (0, .nameAndType 19 20), (0, u "java/lang/String"), (0, u "isEmpty"), (0, u "()Z"), (6, u "(Ljava/lang/String;)V"), (0, .methodref 16 29), (0, .nameAndType 30 31), (0, u "length"), (0, u "()I"), (0, .class_ 33), (0, u "com/example/safe_retries/saferetries/identity/IdempotencyKey"), (4, .methodref 16 39), (0, .nameAndType 40 41), (0, u "charAt"), (0, u "(I)C"), (12, .fieldref 32 55), (0, .nameAndType 8 56), (0, u "Ljava/lang/String;"), (11, .methodref 16 69), (0, .nameAndType 70 71), (0, u "equals"), (0, u "(Ljava/lang/Object;)Z"), (3, u "MAX_LENGTH"), (0, u "I"), (2, u "LOWEST_CHARACTER"), (0, u "C"), (1, u "HIGHEST_CHARACTER")] 24

def k2c0 : Code := { maxStack := 7, maxLocals := 4, code := prog_16_method_1_code, exceptionTable := #[], attributes := #[] }
def k2m0 : Method := { name := "<init>", desc := "(Ljava/lang/String;)V", sig := { parameters := [(.object "java/lang/String")], returnType := none }, accessFlags := 1, code := some k2c0 }
def k2c1 : Code := { maxStack := 2, maxLocals := 3, code := prog_16_method_4_code, exceptionTable := #[], attributes := #[] }
def k2m1 : Method := { name := "equals", desc := "(Ljava/lang/Object;)Z", sig := { parameters := [(.object "java/lang/Object")], returnType := some .boolean }, accessFlags := 1, code := some k2c1 }
/-- com/example/safe_retries/saferetries/identity/IdempotencyKey -/
def k2 : Class := { plain "com/example/safe_retries/saferetries/identity/IdempotencyKey" (some 0) with
  accessFlags := 49
  interfaces := #[]
  cf := some (fileOf pool2 32 #[] #[{ accessFlags := 1, nameIndex := 5, descriptorIndex := 27, attributes := #[] }, { accessFlags := 1, nameIndex := 70, descriptorIndex := 71, attributes := #[] }] 49 2 #[] #[{ accessFlags := 25, nameIndex := 75, descriptorIndex := 76, attributes := #[] }, { accessFlags := 26, nameIndex := 79, descriptorIndex := 80, attributes := #[] }, { accessFlags := 26, nameIndex := 82, descriptorIndex := 80, attributes := #[] }, { accessFlags := 18, nameIndex := 8, descriptorIndex := 56, attributes := #[] }])
  fields := #[{ name := "MAX_LENGTH", type := .int, accessFlags := 25, slot := 0, constantValue := 0 }, { name := "LOWEST_CHARACTER", type := .char, accessFlags := 26, slot := 1, constantValue := 0 }, { name := "HIGHEST_CHARACTER", type := .char, accessFlags := 26, slot := 2, constantValue := 0 }, { name := "value", type := (.object "java/lang/String"), accessFlags := 18, slot := 0, constantValue := 0 }]
  methods := #[k2m0, k2m1]
  instanceTypes := #[(.object "java/lang/String")]
  staticTypes := #[.int, .char, .char]
  resolved := Array.replicate 107 none
  statics := none }

def pool3 : Array CpInfo := pool [(1, .class_ 2), (0, u "java/io/Serializable"), (0, .class_ 4), (0, u "java/lang/Object")] 2

/-- java/io/Serializable -/
def k3 : Class := { plain "java/io/Serializable" (some 0) with
  accessFlags := 1537
  interfaces := #[]
  cf := some (fileOf pool3 1 #[] #[] 1537 3 #[] #[])
  fields := #[]
  methods := #[]
  instanceTypes := #[]
  staticTypes := #[]
  resolved := Array.replicate 7 none
  statics := none }

def pool4 : Array CpInfo := pool [(1, .class_ 2), (0, u "java/lang/Comparable"), (0, .class_ 4), (0, u "java/lang/Object")] 7

/-- java/lang/Comparable -/
def k4 : Class := { plain "java/lang/Comparable" (some 0) with
  accessFlags := 1537
  interfaces := #[]
  cf := some (fileOf pool4 1 #[] #[] 1537 3 #[] #[])
  fields := #[]
  methods := #[]
  instanceTypes := #[]
  staticTypes := #[]
  resolved := Array.replicate 12 none
  statics := none }

def pool5 : Array CpInfo := pool [(2, .class_ 4), (1, u "java/lang/CharSequence"), (42, .class_ 48), (0, u "java/lang/CharSequence$1CodePointIterator"), (10, .class_ 60), (0, u "java/lang/CharSequence$1CharIterator"), (5, .class_ 67), (0, u "java/lang/Object")] 63

/-- java/lang/CharSequence -/
def k5 : Class := { plain "java/lang/CharSequence" (some 0) with
  accessFlags := 1537
  interfaces := #[]
  cf := some (fileOf pool5 2 #[.nestMembers #[47, 59]] #[] 1537 66 #[] #[])
  fields := #[]
  methods := #[]
  instanceTypes := #[]
  staticTypes := #[]
  resolved := Array.replicate 131 none
  statics := none }

def pool6 : Array CpInfo := pool [(1, .class_ 2), (0, u "java/lang/constant/Constable"), (0, .class_ 4), (0, u "java/lang/Object")] 6

/-- java/lang/constant/Constable -/
def k6 : Class := { plain "java/lang/constant/Constable" (some 0) with
  accessFlags := 1537
  interfaces := #[]
  cf := some (fileOf pool6 1 #[] #[] 1537 3 #[] #[])
  fields := #[]
  methods := #[]
  instanceTypes := #[]
  staticTypes := #[]
  resolved := Array.replicate 11 none
  statics := none }

def pool7 : Array CpInfo := pool [(1, .class_ 2), (0, u "java/lang/constant/ConstantDesc"), (0, .class_ 4), (0, u "java/lang/Object")] 32

/-- java/lang/constant/ConstantDesc -/
def k7 : Class := { plain "java/lang/constant/ConstantDesc" (some 0) with
  accessFlags := 1537
  interfaces := #[]
  cf := some (fileOf pool7 1 #[] #[] 1537 3 #[] #[])
  fields := #[]
  methods := #[]
  instanceTypes := #[]
  staticTypes := #[]
  resolved := Array.replicate 37 none
  statics := none }

def pool8 : Array CpInfo := pool [(1, .methodref 2 3), (0, .class_ 4), (0, .nameAndType 5 6), (0, u "java/lang/Object"), (0, u "<init>"), (0, u "()V"), (2, .fieldref 10 11), (0, .class_ 12), (0, .nameAndType 13 14), (0, u "java/lang/String"), (0, u "value"), (0, u "[B"), (0, .fieldref 10 16), (0, .nameAndType 17 18), (0, u "coder"), (0, u "B"), (2, u "hash"), (0, u "I"), (2, u "hashIsZero"), (0, u "Z"), (0, .methodref 10 28), (0, .nameAndType 5 29), (0, u "([CIILjava/lang/Void;)V"), (8, .fieldref 10 39), (0, .nameAndType 40 26), (0, u "COMPACT_STRINGS"), (1, .class_ 44), (1, u "java/lang/StringUTF16"), (0, u "compress"), (1, .methodref 42 48), (0, .nameAndType 49 50), (0, u "coderFromArrayLen"), (0, u "([BI)B"), (56, .class_ 109), (1, u "java/lang/StringLatin1"), (32, u "()Z"), (34, .methodref 42 178), (0, .nameAndType 45 179), (0, u "([CII)[B"), (154, u "()I"), (0, .methodref 10 336), (0, .nameAndType 17 337), (0, u "()B"), (25, u "([BI)C"), (27, u "(II)V"), (35, u "(I)C"), (64, .methodref 10 493), (0, .nameAndType 494 142), (0, u "isLatin1"), (0, .methodref 107 496), (0, .nameAndType 497 363), (0, u "charAt"), (3, u "checkIndex"), (5, u "length"), (33, .methodref 107 542), (0, .nameAndType 543 544), (0, u "equals"), (0, u "([B[B)Z"), (28, u "(Ljava/lang/Object;)Z"), (1, .class_ 576), (0, u "java/lang/CharSequence"), (22, u "CASE_INSENSITIVE_ORDER"), (0, u "Ljava/util/Comparator;"), (91, u "isEmpty"), (317, u "([C)V"), (42, .fieldref 1054 1055), (0, .class_ 1056), (0, .nameAndType 1057 1058), (0, u "jdk/internal/util/Preconditions"), (0, u "SIOOBE_FORMATTER"), (0, u "Ljava/util/function/BiFunction;"), (0, .methodref 1054 1060), (0, .nameAndType 501 1061), (0, u "(IILjava/util/function/BiFunction;)I"), (39, u "serialPersistentFields"), (0, u "[Ljava/io/ObjectStreamField;"), (0, .class_ 1104), (0, u "java/lang/String$CaseInsensitiveComparator"), (1, .class_ 1107), (0, u "java/io/Serializable"), (0, .class_ 1109), (0, u "java/lang/Comparable"), (0, .class_ 1111), (0, u "java/lang/constant/Constable"), (0, .class_ 1113), (0, u "java/lang/constant/ConstantDesc"), (2, u "serialVersionUID"), (0, u "J"), (3, u "REPL"), (0, u "C"), (2, u "LATIN1"), (1, u "UTF16")] 323

def k8m0 : Method := { name := "<init>", desc := "()V", sig := { parameters := [], returnType := none }, accessFlags := 1, code := none }
def k8c1 : Code := { maxStack := 5, maxLocals := 2, code := jdk_42_method_3_code, exceptionTable := #[], attributes := #[] }
def k8m1 : Method := { name := "<init>", desc := "([C)V", sig := { parameters := [(.array .char)], returnType := none }, accessFlags := 1, code := some k8c1 }
def k8c2 : Code := { maxStack := 2, maxLocals := 1, code := jdk_42_method_54_code, exceptionTable := #[], attributes := #[] }
def k8m2 : Method := { name := "length", desc := "()I", sig := { parameters := [], returnType := some .int }, accessFlags := 1, code := some k8c2 }
def k8c3 : Code := { maxStack := 1, maxLocals := 1, code := jdk_42_method_55_code, exceptionTable := #[], attributes := #[] }
def k8m3 : Method := { name := "isEmpty", desc := "()Z", sig := { parameters := [], returnType := some .boolean }, accessFlags := 1, code := some k8c3 }
def k8c4 : Code := { maxStack := 2, maxLocals := 2, code := jdk_42_method_56_code, exceptionTable := #[], attributes := #[] }
def k8m4 : Method := { name := "charAt", desc := "(I)C", sig := { parameters := [.int], returnType := some .char }, accessFlags := 1, code := some k8c4 }
def k8c5 : Code := { maxStack := 2, maxLocals := 3, code := jdk_42_method_66_code, exceptionTable := #[], attributes := #[] }
def k8m5 : Method := { name := "equals", desc := "(Ljava/lang/Object;)Z", sig := { parameters := [(.object "java/lang/Object")], returnType := some .boolean }, accessFlags := 1, code := some k8c5 }
def k8c6 : Code := { maxStack := 4, maxLocals := 6, code := jdk_42_method_149_code, exceptionTable := #[], attributes := #[] }
def k8m6 : Method := { name := "<init>", desc := "([CIILjava/lang/Void;)V", sig := { parameters := [(.array .char), .int, .int, (.object "java/lang/Void")], returnType := none }, accessFlags := 2, code := some k8c6 }
def k8c7 : Code := { maxStack := 1, maxLocals := 1, code := jdk_42_method_152_code, exceptionTable := #[], attributes := #[] }
def k8m7 : Method := { name := "coder", desc := "()B", sig := { parameters := [], returnType := some .byte }, accessFlags := 0, code := some k8c7 }
def k8c8 : Code := { maxStack := 1, maxLocals := 1, code := jdk_42_method_154_code, exceptionTable := #[], attributes := #[] }
def k8m8 : Method := { name := "isLatin1", desc := "()Z", sig := { parameters := [], returnType := some .boolean }, accessFlags := 0, code := some k8c8 }
def k8c9 : Code := { maxStack := 3, maxLocals := 2, code := jdk_42_method_155_code, exceptionTable := #[], attributes := #[] }
def k8m9 : Method := { name := "checkIndex", desc := "(II)V", sig := { parameters := [.int, .int], returnType := none }, accessFlags := 8, code := some k8c9 }
/-- java/lang/String -/
def k8 : Class := { plain "java/lang/String" (some 0) with
  accessFlags := 49
  interfaces := #[3, 4, 5, 6, 7]
  cf := some (fileOf pool8 10 #[.nestMembers #[1103]] #[{ accessFlags := 1, nameIndex := 5, descriptorIndex := 6, attributes := #[] }, { accessFlags := 1, nameIndex := 5, descriptorIndex := 1010, attributes := #[] }, { accessFlags := 1, nameIndex := 507, descriptorIndex := 334, attributes := #[] }, { accessFlags := 1, nameIndex := 692, descriptorIndex := 142, attributes := #[] }, { accessFlags := 1, nameIndex := 497, descriptorIndex := 427, attributes := #[] }, { accessFlags := 1, nameIndex := 543, descriptorIndex := 573, attributes := #[] }, { accessFlags := 2, nameIndex := 5, descriptorIndex := 29, attributes := #[] }, { accessFlags := 0, nameIndex := 17, descriptorIndex := 337, attributes := #[] }, { accessFlags := 0, nameIndex := 494, descriptorIndex := 142, attributes := #[] }, { accessFlags := 8, nameIndex := 501, descriptorIndex := 391, attributes := #[] }] 49 2 #[1106, 1108, 575, 1110, 1112] #[{ accessFlags := 18, nameIndex := 13, descriptorIndex := 14, attributes := #[] }, { accessFlags := 18, nameIndex := 17, descriptorIndex := 18, attributes := #[] }, { accessFlags := 2, nameIndex := 21, descriptorIndex := 22, attributes := #[] }, { accessFlags := 2, nameIndex := 25, descriptorIndex := 26, attributes := #[] }, { accessFlags := 26, nameIndex := 1116, descriptorIndex := 1117, attributes := #[] }, { accessFlags := 24, nameIndex := 40, descriptorIndex := 26, attributes := #[] }, { accessFlags := 26, nameIndex := 1101, descriptorIndex := 1102, attributes := #[] }, { accessFlags := 26, nameIndex := 1121, descriptorIndex := 1122, attributes := #[] }, { accessFlags := 25, nameIndex := 599, descriptorIndex := 600, attributes := #[] }, { accessFlags := 24, nameIndex := 1125, descriptorIndex := 18, attributes := #[] }, { accessFlags := 24, nameIndex := 1127, descriptorIndex := 18, attributes := #[] }])
  fields := #[{ name := "value", type := (.array .byte), accessFlags := 18, slot := 0, constantValue := 0 }, { name := "coder", type := .byte, accessFlags := 18, slot := 1, constantValue := 0 }, { name := "hash", type := .int, accessFlags := 2, slot := 2, constantValue := 0 }, { name := "hashIsZero", type := .boolean, accessFlags := 2, slot := 3, constantValue := 0 }, { name := "serialVersionUID", type := .long, accessFlags := 26, slot := 0, constantValue := 0 }, { name := "COMPACT_STRINGS", type := .boolean, accessFlags := 24, slot := 1, constantValue := 0 }, { name := "serialPersistentFields", type := (.array (.object "java/io/ObjectStreamField")), accessFlags := 26, slot := 2, constantValue := 0 }, { name := "REPL", type := .char, accessFlags := 26, slot := 3, constantValue := 0 }, { name := "CASE_INSENSITIVE_ORDER", type := (.object "java/util/Comparator"), accessFlags := 25, slot := 4, constantValue := 0 }, { name := "LATIN1", type := .byte, accessFlags := 24, slot := 5, constantValue := 0 }, { name := "UTF16", type := .byte, accessFlags := 24, slot := 6, constantValue := 0 }]
  methods := #[k8m0, k8m1, k8m2, k8m3, k8m4, k8m5, k8m6, k8m7, k8m8, k8m9]
  instanceTypes := #[(.array .byte), .byte, .int, .boolean]
  staticTypes := #[.long, .boolean, (.array (.object "java/io/ObjectStreamField")), .char, (.object "java/util/Comparator"), .byte, .byte]
  resolved := Array.replicate 1451 none
  statics := some 0 }

def pool9 : Array CpInfo := pool [(6, .class_ 8), (1, u "java/lang/Object"), (0, u "<init>"), (0, u "()V"), (1, .class_ 14), (1, u "java/lang/StringUTF16"), (31, u "$assertionsDisabled"), (0, u "Z"), (13, u "HI_BYTE_SHIFT"), (0, u "I"), (2, u "LO_BYTE_SHIFT"), (49, .methodref 12 116), (0, .nameAndType 117 118), (0, u "compress"), (0, u "([CI[BII)I"), (3, u "([CII)[B"), (138, u "coderFromArrayLen"), (0, u "([BI)B"), (106, .class_ 371), (1, u "java/lang/StringUTF16$LinesSpliterator"), (58, u "MAX_LENGTH"), (196, .class_ 628), (0, u "java/lang/StringUTF16$CodePointsSpliterator"), (0, .class_ 630), (0, u "java/lang/StringUTF16$CharsSpliterator")] 4

def k9m0 : Method := { name := "<init>", desc := "()V", sig := { parameters := [], returnType := none }, accessFlags := 0, code := none }
def k9c1 : Code := { maxStack := 2, maxLocals := 2, code := jdk_52_method_15_code, exceptionTable := #[], attributes := #[] }
def k9m1 : Method := { name := "coderFromArrayLen", desc := "([BI)B", sig := { parameters := [(.array .byte), .int], returnType := some .byte }, accessFlags := 8, code := some k9c1 }
def k9c2 : Code := { maxStack := 5, maxLocals := 6, code := jdk_52_method_16_code, exceptionTable := #[], attributes := #[] }
def k9m2 : Method := { name := "compress", desc := "([CII)[B", sig := { parameters := [(.array .char), .int, .int], returnType := some (.array .byte) }, accessFlags := 9, code := some k9c2 }
def k9c3 : Code := { maxStack := 3, maxLocals := 7, code := jdk_52_method_21_code, exceptionTable := #[], attributes := #[] }
def k9m3 : Method := { name := "compress", desc := "([CI[BII)I", sig := { parameters := [(.array .char), .int, (.array .byte), .int, .int], returnType := some .int }, accessFlags := 9, code := some k9c3 }
/-- java/lang/StringUTF16 -/
def k9 : Class := { plain "java/lang/StringUTF16" (some 0) with
  accessFlags := 48
  interfaces := #[]
  cf := some (fileOf pool9 12 #[.nestMembers #[627, 629, 369]] #[{ accessFlags := 0, nameIndex := 9, descriptorIndex := 10, attributes := #[] }, { accessFlags := 8, nameIndex := 261, descriptorIndex := 262, attributes := #[] }, { accessFlags := 9, nameIndex := 117, descriptorIndex := 122, attributes := #[] }, { accessFlags := 9, nameIndex := 117, descriptorIndex := 118, attributes := #[] }] 48 6 #[] #[{ accessFlags := 26, nameIndex := 61, descriptorIndex := 62, attributes := #[] }, { accessFlags := 26, nameIndex := 65, descriptorIndex := 62, attributes := #[] }, { accessFlags := 24, nameIndex := 430, descriptorIndex := 62, attributes := #[] }, { accessFlags := 4120, nameIndex := 46, descriptorIndex := 47, attributes := #[] }])
  fields := #[{ name := "HI_BYTE_SHIFT", type := .int, accessFlags := 26, slot := 0, constantValue := 0 }, { name := "LO_BYTE_SHIFT", type := .int, accessFlags := 26, slot := 1, constantValue := 0 }, { name := "MAX_LENGTH", type := .int, accessFlags := 24, slot := 2, constantValue := 0 }, { name := "$assertionsDisabled", type := .boolean, accessFlags := 4120, slot := 3, constantValue := 0 }]
  methods := #[k9m0, k9m1, k9m2, k9m3]
  instanceTypes := #[]
  staticTypes := #[.int, .int, .int, .boolean]
  resolved := Array.replicate 635 none
  statics := none }

def pool10 : Array CpInfo := pool [(2, .class_ 4), (1, u "java/lang/Object"), (0, u "<init>"), (0, u "()V"), (35, .class_ 44), (1, u "java/util/Objects"), (0, u "requireNonNull"), (48, u "(Ljava/lang/Object;Ljava/lang/String;)Ljava/lang/Object;")] 89

def k10m0 : Method := { name := "<init>", desc := "()V", sig := { parameters := [], returnType := none }, accessFlags := 2, code := none }
def k10c1 : Code := { maxStack := 3, maxLocals := 2, code := jdk_31_method_11_code, exceptionTable := #[], attributes := #[] }
def k10m1 : Method := { name := "requireNonNull", desc := "(Ljava/lang/Object;Ljava/lang/String;)Ljava/lang/Object;", sig := { parameters := [(.object "java/lang/Object"), (.object "java/lang/String")], returnType := some (.object "java/lang/Object") }, accessFlags := 9, code := some k10c1 }
/-- java/util/Objects -/
def k10 : Class := { plain "java/util/Objects" (some 0) with
  accessFlags := 49
  interfaces := #[]
  cf := some (fileOf pool10 42 #[] #[{ accessFlags := 2, nameIndex := 5, descriptorIndex := 6, attributes := #[] }, { accessFlags := 9, nameIndex := 45, descriptorIndex := 94, attributes := #[] }] 49 2 #[] #[])
  fields := #[]
  methods := #[k10m0, k10m1]
  instanceTypes := #[]
  staticTypes := #[]
  resolved := Array.replicate 184 none
  statics := none }

def pool11 : Array CpInfo := pool [(1, .class_ 2), (0, u "java/lang/String"), (1, .class_ 6), (1, u "java/lang/Object"), (0, u "<init>"), (0, u "()V"), (0, .methodref 1 10), (0, .nameAndType 11 12), (0, u "checkIndex"), (0, u "(II)V"), (1, .class_ 16), (1, u "java/lang/StringLatin1"), (36, u "([BI)C"), (67, u "$assertionsDisabled"), (0, u "Z"), (98, .class_ 223), (1, u "java/lang/StringLatin1$LinesSpliterator"), (28, u "charAt"), (28, u "equals"), (0, u "([B[B)Z"), (107, .class_ 391), (0, u "java/lang/StringLatin1$CharsSpliterator")] 3

def k11m0 : Method := { name := "<init>", desc := "()V", sig := { parameters := [], returnType := none }, accessFlags := 0, code := none }
def k11c1 : Code := { maxStack := 2, maxLocals := 2, code := jdk_43_method_2_code, exceptionTable := #[], attributes := #[] }
def k11m1 : Method := { name := "charAt", desc := "([BI)C", sig := { parameters := [(.array .byte), .int], returnType := some .char }, accessFlags := 9, code := some k11c1 }
def k11c2 : Code := { maxStack := 3, maxLocals := 3, code := jdk_43_method_13_code, exceptionTable := #[], attributes := #[] }
def k11m2 : Method := { name := "equals", desc := "([B[B)Z", sig := { parameters := [(.array .byte), (.array .byte)], returnType := some .boolean }, accessFlags := 9, code := some k11c2 }
/-- java/lang/StringLatin1 -/
def k11 : Class := { plain "java/lang/StringLatin1" (some 0) with
  accessFlags := 48
  interfaces := #[]
  cf := some (fileOf pool11 14 #[.nestMembers #[390, 221]] #[{ accessFlags := 0, nameIndex := 7, descriptorIndex := 8, attributes := #[] }, { accessFlags := 9, nameIndex := 252, descriptorIndex := 53, attributes := #[] }, { accessFlags := 9, nameIndex := 281, descriptorIndex := 282, attributes := #[] }] 48 4 #[] #[{ accessFlags := 4120, nameIndex := 121, descriptorIndex := 122, attributes := #[] }])
  fields := #[{ name := "$assertionsDisabled", type := .boolean, accessFlags := 4120, slot := 0, constantValue := 0 }]
  methods := #[k11m0, k11m1, k11m2]
  instanceTypes := #[]
  staticTypes := #[.boolean]
  resolved := Array.replicate 395 none
  statics := none }

def pool12 : Array CpInfo := pool [(2, .class_ 4), (1, u "java/lang/Object"), (0, u "<init>"), (0, u "()V"), (17, .class_ 26), (1, u "jdk/internal/util/Preconditions"), (6, u "checkIndex"), (21, .class_ 56), (0, u "jdk/internal/util/Preconditions$4"), (57, .class_ 115), (0, u "jdk/internal/util/Preconditions$1"), (7, u "SIOOBE_FORMATTER"), (0, u "Ljava/util/function/BiFunction;"), (0, .class_ 126), (0, u "jdk/internal/util/Preconditions$2"), (3, u "AIOOBE_FORMATTER"), (0, .class_ 132), (0, u "jdk/internal/util/Preconditions$3"), (3, u "IOOBE_FORMATTER"), (41, u "(IILjava/util/function/BiFunction;)I")] 15

def k12m0 : Method := { name := "<init>", desc := "()V", sig := { parameters := [], returnType := none }, accessFlags := 1, code := none }
def k12c1 : Code := { maxStack := 3, maxLocals := 3, code := jdk_41_method_11_code, exceptionTable := #[], attributes := #[] }
def k12m1 : Method := { name := "checkIndex", desc := "(IILjava/util/function/BiFunction;)I", sig := { parameters := [.int, .int, (.object "java/util/function/BiFunction")], returnType := some .int }, accessFlags := 9, code := some k12c1 }
/-- jdk/internal/util/Preconditions -/
def k12 : Class := { plain "jdk/internal/util/Preconditions" (some 0) with
  accessFlags := 33
  interfaces := #[]
  cf := some (fileOf pool12 24 #[.nestMembers #[55, 131, 125, 114]] #[{ accessFlags := 1, nameIndex := 5, descriptorIndex := 6, attributes := #[] }, { accessFlags := 9, nameIndex := 33, descriptorIndex := 178, attributes := #[] }] 33 2 #[] #[{ accessFlags := 25, nameIndex := 123, descriptorIndex := 124, attributes := #[] }, { accessFlags := 25, nameIndex := 130, descriptorIndex := 124, attributes := #[] }, { accessFlags := 25, nameIndex := 136, descriptorIndex := 124, attributes := #[] }])
  fields := #[{ name := "SIOOBE_FORMATTER", type := (.object "java/util/function/BiFunction"), accessFlags := 25, slot := 0, constantValue := 0 }, { name := "AIOOBE_FORMATTER", type := (.object "java/util/function/BiFunction"), accessFlags := 25, slot := 1, constantValue := 0 }, { name := "IOOBE_FORMATTER", type := (.object "java/util/function/BiFunction"), accessFlags := 25, slot := 2, constantValue := 0 }]
  methods := #[k12m0, k12m1]
  instanceTypes := #[]
  staticTypes := #[(.object "java/util/function/BiFunction"), (.object "java/util/function/BiFunction"), (.object "java/util/function/BiFunction")]
  resolved := Array.replicate 194 none
  statics := some 1 }

def pool13 : Array CpInfo := pool [(1, .methodref 2 3), (0, .class_ 4), (0, .nameAndType 5 6), (0, u "java/lang/Object"), (0, u "<init>"), (0, u "()V"), (0, .string 8), (0, u "scope"), (0, .methodref 10 11), (0, .class_ 12), (0, .nameAndType 13 14), (0, u "java/util/Objects"), (0, u "requireNonNull"), (0, u "(Ljava/lang/Object;Ljava/lang/String;)Ljava/lang/Object;"), (0, .string 16), (0, u "operation"), (0, .string 18), (0, u "key"), (0, .methodref 20 21), (0, .class_ 22), (0, .nameAndType 23 24), (0, u "java/lang/String"), (0, u "isEmpty"), (0, u "()Z"), (9, .fieldref 35 36), (0, .class_ 37), (0, .nameAndType 8 38), (0, u "com/example/safe_retries/saferetries/identity/RequestIdentity"), (0, u "Ljava/lang/String;"), (0, .fieldref 35 40), (0, .nameAndType 16 38), (0, .fieldref 35 42), (0, .nameAndType 18 43), (0, u "Lcom/example/safe_retries/saferetries/identity/IdempotencyKey;"), (0, .methodref 20 45), (0, .nameAndType 46 47), (0, u "equals"), (0, u "(Ljava/lang/Object;)Z"), (0, .methodref 49 45), (0, .class_ 50), (0, u "com/example/safe_retries/saferetries/identity/IdempotencyKey"), (12, u "(Ljava/lang/String;Ljava/lang/String;Lcom/example/safe_retries/saferetries/identity/IdempotencyKey;)V")] 28

def k13c0 : Code := { maxStack := 3, maxLocals := 4, code := prog_20_method_1_code, exceptionTable := #[], attributes := #[] }
def k13m0 : Method := { name := "<init>", desc := "(Ljava/lang/String;Ljava/lang/String;Lcom/example/safe_retries/saferetries/identity/IdempotencyKey;)V", sig := { parameters := [(.object "java/lang/String"), (.object "java/lang/String"), (.object "com/example/safe_retries/saferetries/identity/IdempotencyKey")], returnType := none }, accessFlags := 1, code := some k13c0 }
def k13c1 : Code := { maxStack := 2, maxLocals := 3, code := prog_20_method_5_code, exceptionTable := #[], attributes := #[] }
def k13m1 : Method := { name := "equals", desc := "(Ljava/lang/Object;)Z", sig := { parameters := [(.object "java/lang/Object")], returnType := some .boolean }, accessFlags := 1, code := some k13c1 }
/-- com/example/safe_retries/saferetries/identity/RequestIdentity -/
def k13 : Class := { plain "com/example/safe_retries/saferetries/identity/RequestIdentity" (some 0) with
  accessFlags := 49
  interfaces := #[]
  cf := some (fileOf pool13 35 #[] #[{ accessFlags := 1, nameIndex := 5, descriptorIndex := 63, attributes := #[] }, { accessFlags := 1, nameIndex := 46, descriptorIndex := 47, attributes := #[] }] 49 2 #[] #[{ accessFlags := 18, nameIndex := 8, descriptorIndex := 38, attributes := #[] }, { accessFlags := 18, nameIndex := 16, descriptorIndex := 38, attributes := #[] }, { accessFlags := 18, nameIndex := 18, descriptorIndex := 43, attributes := #[] }])
  fields := #[{ name := "scope", type := (.object "java/lang/String"), accessFlags := 18, slot := 0, constantValue := 0 }, { name := "operation", type := (.object "java/lang/String"), accessFlags := 18, slot := 1, constantValue := 0 }, { name := "key", type := (.object "com/example/safe_retries/saferetries/identity/IdempotencyKey"), accessFlags := 18, slot := 2, constantValue := 0 }]
  methods := #[k13m0, k13m1]
  instanceTypes := #[(.object "java/lang/String"), (.object "java/lang/String"), (.object "com/example/safe_retries/saferetries/identity/IdempotencyKey")]
  staticTypes := #[]
  resolved := Array.replicate 92 none
  statics := none }

def pool14 : Array CpInfo := pool [(9, u "<init>"), (6, .class_ 18), (1, u "java/lang/Object"), (0, u "()V"), (1, .class_ 23), (1, u "jdk/internal/util/ArraysSupport"), (0, u "LOG2_ARRAY_LONG_INDEX_SCALE"), (0, u "I"), (2, u "U"), (0, u "Ljdk/internal/misc/Unsafe;"), (8, u "BIG_ENDIAN"), (0, u "Z"), (8, u "LOG2_BYTE_BIT_SIZE"), (4, u "LOG2_ARRAY_INT_INDEX_SCALE"), (54, u "JLA"), (0, u "Ljdk/internal/access/JavaLangAccess;"), (11, u "LOG2_ARRAY_BOOLEAN_INDEX_SCALE"), (9, u "LOG2_ARRAY_BYTE_INDEX_SCALE"), (5, u "LOG2_ARRAY_CHAR_INDEX_SCALE"), (5, u "LOG2_ARRAY_SHORT_INDEX_SCALE"), (18, u "LOG2_ARRAY_FLOAT_INDEX_SCALE"), (24, u "LOG2_ARRAY_DOUBLE_INDEX_SCALE"), (89, u "T_BOOLEAN"), (2, u "T_CHAR"), (1, u "T_FLOAT"), (1, u "T_DOUBLE"), (1, u "T_BYTE"), (1, u "T_SHORT"), (1, u "T_INT"), (1, u "T_LONG"), (1, u "SOFT_MAX_ARRAY_LENGTH")] 83

def k14m0 : Method := { name := "<init>", desc := "()V", sig := { parameters := [], returnType := none }, accessFlags := 2, code := none }
/-- jdk/internal/util/ArraysSupport -/
def k14 : Class := { plain "jdk/internal/util/ArraysSupport" (some 0) with
  accessFlags := 33
  interfaces := #[]
  cf := some (fileOf pool14 21 #[] #[{ accessFlags := 2, nameIndex := 9, descriptorIndex := 19, attributes := #[] }] 33 16 #[] #[{ accessFlags := 24, nameIndex := 28, descriptorIndex := 29, attributes := #[] }, { accessFlags := 26, nameIndex := 38, descriptorIndex := 39, attributes := #[] }, { accessFlags := 25, nameIndex := 121, descriptorIndex := 25, attributes := #[] }, { accessFlags := 25, nameIndex := 131, descriptorIndex := 25, attributes := #[] }, { accessFlags := 25, nameIndex := 137, descriptorIndex := 25, attributes := #[] }, { accessFlags := 25, nameIndex := 143, descriptorIndex := 25, attributes := #[] }, { accessFlags := 25, nameIndex := 53, descriptorIndex := 25, attributes := #[] }, { accessFlags := 25, nameIndex := 24, descriptorIndex := 25, attributes := #[] }, { accessFlags := 25, nameIndex := 162, descriptorIndex := 25, attributes := #[] }, { accessFlags := 25, nameIndex := 187, descriptorIndex := 25, attributes := #[] }, { accessFlags := 26, nameIndex := 48, descriptorIndex := 25, attributes := #[] }, { accessFlags := 25, nameIndex := 277, descriptorIndex := 25, attributes := #[] }, { accessFlags := 25, nameIndex := 280, descriptorIndex := 25, attributes := #[] }, { accessFlags := 25, nameIndex := 282, descriptorIndex := 25, attributes := #[] }, { accessFlags := 25, nameIndex := 284, descriptorIndex := 25, attributes := #[] }, { accessFlags := 25, nameIndex := 286, descriptorIndex := 25, attributes := #[] }, { accessFlags := 25, nameIndex := 288, descriptorIndex := 25, attributes := #[] }, { accessFlags := 25, nameIndex := 290, descriptorIndex := 25, attributes := #[] }, { accessFlags := 25, nameIndex := 292, descriptorIndex := 25, attributes := #[] }, { accessFlags := 26, nameIndex := 108, descriptorIndex := 109, attributes := #[] }, { accessFlags := 25, nameIndex := 294, descriptorIndex := 25, attributes := #[] }])
  fields := #[{ name := "U", type := (.object "jdk/internal/misc/Unsafe"), accessFlags := 24, slot := 0, constantValue := 0 }, { name := "BIG_ENDIAN", type := .boolean, accessFlags := 26, slot := 1, constantValue := 0 }, { name := "LOG2_ARRAY_BOOLEAN_INDEX_SCALE", type := .int, accessFlags := 25, slot := 2, constantValue := 0 }, { name := "LOG2_ARRAY_BYTE_INDEX_SCALE", type := .int, accessFlags := 25, slot := 3, constantValue := 0 }, { name := "LOG2_ARRAY_CHAR_INDEX_SCALE", type := .int, accessFlags := 25, slot := 4, constantValue := 0 }, { name := "LOG2_ARRAY_SHORT_INDEX_SCALE", type := .int, accessFlags := 25, slot := 5, constantValue := 0 }, { name := "LOG2_ARRAY_INT_INDEX_SCALE", type := .int, accessFlags := 25, slot := 6, constantValue := 0 }, { name := "LOG2_ARRAY_LONG_INDEX_SCALE", type := .int, accessFlags := 25, slot := 7, constantValue := 0 }, { name := "LOG2_ARRAY_FLOAT_INDEX_SCALE", type := .int, accessFlags := 25, slot := 8, constantValue := 0 }, { name := "LOG2_ARRAY_DOUBLE_INDEX_SCALE", type := .int, accessFlags := 25, slot := 9, constantValue := 0 }, { name := "LOG2_BYTE_BIT_SIZE", type := .int, accessFlags := 26, slot := 10, constantValue := 0 }, { name := "T_BOOLEAN", type := .int, accessFlags := 25, slot := 11, constantValue := 0 }, { name := "T_CHAR", type := .int, accessFlags := 25, slot := 12, constantValue := 0 }, { name := "T_FLOAT", type := .int, accessFlags := 25, slot := 13, constantValue := 0 }, { name := "T_DOUBLE", type := .int, accessFlags := 25, slot := 14, constantValue := 0 }, { name := "T_BYTE", type := .int, accessFlags := 25, slot := 15, constantValue := 0 }, { name := "T_SHORT", type := .int, accessFlags := 25, slot := 16, constantValue := 0 }, { name := "T_INT", type := .int, accessFlags := 25, slot := 17, constantValue := 0 }, { name := "T_LONG", type := .int, accessFlags := 25, slot := 18, constantValue := 0 }, { name := "JLA", type := (.object "jdk/internal/access/JavaLangAccess"), accessFlags := 26, slot := 19, constantValue := 0 }, { name := "SOFT_MAX_ARRAY_LENGTH", type := .int, accessFlags := 25, slot := 20, constantValue := 0 }]
  methods := #[k14m0]
  instanceTypes := #[]
  staticTypes := #[(.object "jdk/internal/misc/Unsafe"), .boolean, .int, .int, .int, .int, .int, .int, .int, .int, .int, .int, .int, .int, .int, .int, .int, .int, .int, (.object "jdk/internal/access/JavaLangAccess"), .int]
  resolved := Array.replicate 378 none
  statics := none }

def pool15 : Array CpInfo := pool [(1, u "java/lang/Cloneable"), (0, .class_ 1), (0, u "java/lang/Object"), (0, .class_ 3)] 3

/-- java/lang/Cloneable -/
def k15 : Class := { plain "java/lang/Cloneable" (some 0) with
  accessFlags := 1537
  interfaces := #[]
  cf := some (fileOf pool15 2 #[] #[] 1537 4 #[] #[])
  fields := #[]
  methods := #[]
  instanceTypes := #[]
  staticTypes := #[]
  resolved := Array.replicate 8 none
  statics := none }

/-- the primitive byte -/
def k16 : Class := { plain "byte" none with kind := .primitive 'B', accessFlags := 0x411 }
/-- [B -/
def k17 : Class := { plain "[B" (some 0) with kind := .array 16 .byte, interfaces := #[15, 3], accessFlags := 1041 }

/-- the primitive char -/
def k18 : Class := { plain "char" none with kind := .primitive 'C', accessFlags := 0x411 }
/-- [C -/
def k19 : Class := { plain "[C" (some 0) with kind := .array 18 .char, interfaces := #[15, 3], accessFlags := 1041 }

/-- the primitive int -/
def k20 : Class := { plain "int" none with kind := .primitive 'I', accessFlags := 0x411 }
/-- [I -/
def k21 : Class := { plain "[I" (some 0) with kind := .array 20 .int, interfaces := #[15, 3], accessFlags := 1041 }

def heap : Heap := #[{ cls := 8, slots := #[.long 0, .int 1, .null, .int 0, .null, .int 0, .int 0], vm := .statics 8 },
  { cls := 12, slots := #[.null, .null, .null], vm := .statics 12 }]
def classes : Array Class := #[k0, k1, k2, k3, k4, k5, k6, k7, k8, k9, k10, k11, k12, k13, k14, k15, k16, k17, k18, k19, k20, k21]
def interned : List (Array UInt16 × Addr) := []
def slotsUsed : Nat := 10
def theMethod : MethodId := ⟨1, 3⟩
def args0 : Array Value := #[.int 5, .int 9, .int 7, .int 3, .int 2, .int 1]
def aboutOver (below : List Frame) : State where
  vm := { classes := classes, interned := interned.toArray }
  heap := heap
  slotsUsed := slotsUsed
  threads := #[{ frames := .invoking theMethod args0 :: below }]
def below0 : List Frame := [.native { method := ⟨0, 0⟩, args := #[] }]
def about1 : State := aboutOver below0
def p0 : Program := .bare "" "" ""
def e0 : Env := launch0.env 0 0 0
theorem w_frames : about1.frames = Frame.invoking theMethod args0 :: below0 := rfl
set_option maxRecDepth 65536 in
theorem w_args : argsFit about1.vm theMethod args0 = true := by decide +kernel
set_option maxRecDepth 65536 in
theorem w_heap : heapFits about1 = true := by decide +kernel
set_option maxRecDepth 65536 in
theorem w_runnable : about1.curStatus? = some .runnable := by decide +kernel
set_option maxRecDepth 65536 in
theorem w_alone : about1.alone = true := by decide +kernel
set_option maxRecDepth 65536 in
theorem w_named : about1.methodNamed? x = some theMethod := by decide +kernel
set_option maxRecDepth 65536 in
theorem w_hears : about1.hears theMethod below0 = true := by decide +kernel
set_option maxRecDepth 65536 in
theorem w_ripe : about1.ripe theMethod args0 below0 = true := by decide +kernel
theorem w_running : about1.status = .running := rfl
set_option maxRecDepth 65536 in
theorem w_room : about1.hasRoom e0.platform room_1 = true :=
  launch0.hasRoom_least _ room_1 (by decide +kernel) (by decide +kernel) (by decide +kernel) (by decide +kernel) (by decide +kernel) (by decide +kernel)
theorem allAtoms_all (ts : List Jvm.Cond) (a : Array Jvm.Value) (st : Jvm.State) : (allAtoms ts).before a st = ts.all (fun c => c.before a st) := by
  induction ts with
  | nil => rfl
  | cons c t ih =>
    show (Jvm.Cond.and c (allAtoms t)).before a st = _
    rw [Jvm.Cond.before_and, ih, List.all_cons]
def words1 : List Jvm.Cond := Jvm.Cond.code x code maxLocals ret :: tables_1
/-- a 'code' word, met by the world's own term for the bytes: nothing is compared byte by byte -/
theorem code_word {y : MethodName} {bytes : ByteArray} {mx : Nat} {rt : Option FieldType} {a : Array Value} {s : State} {m : MethodId} {meth : Method} {c : Code} (h1 : s.methodNamed? y = some m) (h2 : s.vm.method? m = some meth) (h3 : meth.code = some c) (h4 : c.code = bytes)
    (h5 : (c.maxLocals == mx && c.exceptionTable.isEmpty && decide (c.maxStack ≤ mostOperands) && decide (meth.sig.returnType = rt) && !meth.locks && decide (parseMethodDescriptor y.desc = some meth.sig)) = true) : (Jvm.Cond.code y bytes mx rt).before a s = true := by
  simp only [Bool.and_eq_true, beq_iff_eq, Bool.not_eq_true', decide_eq_true_eq] at h5
  obtain ⟨⟨⟨⟨⟨g1, g2⟩, g3⟩, g4⟩, g5⟩, g6⟩ := h5
  simp [Cond.before, Cond.holds, Cond.value, h1, h2, h3, h4, g1, g2, g3, g4, g5, g6]
def isCode : Jvm.Cond → Bool
  | .code _ _ _ _ => true
  | _ => false
theorem all_split {L : List Jvm.Cond} {P : Jvm.Cond → Bool} (h1 : L.all (fun c => isCode c || P c) = true) (h2 : ∀ c ∈ L.filter isCode, P c = true) : L.all P = true := by
  refine List.all_eq_true.mpr fun c hc => ?_
  have h := List.all_eq_true.mp h1 c hc
  rcases Bool.eq_false_or_eq_true (isCode c) with hi | hi
  · exact h2 c (List.mem_filter.mpr ⟨hc, hi⟩)
  · simpa [hi] using h
set_option maxRecDepth 65536 in
theorem w_c0 : (Jvm.Cond.code x code maxLocals ret).before args0 about1 = true := code_word (m := ⟨1, 3⟩) (meth := k1m3) (c := k1c3) (by decide +kernel) rfl rfl rfl (by decide +kernel)
set_option maxRecDepth 65536 in
theorem w_c1 : (Jvm.Cond.code ({ cls := "com/example/safe_retries/saferetries/identity/RequestIdentityEqualsPinLaw", name := "str", desc := "(CCI)Ljava/lang/String;" } : Jvm.MethodName) method_2_code (4 : Nat) (Option.some (Jvm.ClassFile.FieldType.object "java/lang/String"))).before args0 about1 = true := code_word (m := ⟨1, 1⟩) (meth := k1m1) (c := k1c1) (by decide +kernel) rfl rfl rfl (by decide +kernel)
set_option maxRecDepth 65536 in
theorem w_c2 : (Jvm.Cond.code ({ cls := "java/lang/String", name := "<init>", desc := "([C)V" } : Jvm.MethodName) jdk_42_method_3_code (2 : Nat) (Option.none : Option Jvm.ClassFile.FieldType)).before args0 about1 = true := code_word (m := ⟨8, 1⟩) (meth := k8m1) (c := k8c1) (by decide +kernel) rfl rfl rfl (by decide +kernel)
set_option maxRecDepth 65536 in
theorem w_c3 : (Jvm.Cond.code ({ cls := "java/lang/String", name := "<init>", desc := "([CIILjava/lang/Void;)V" } : Jvm.MethodName) jdk_42_method_149_code (6 : Nat) (Option.none : Option Jvm.ClassFile.FieldType)).before args0 about1 = true := code_word (m := ⟨8, 6⟩) (meth := k8m6) (c := k8c6) (by decide +kernel) rfl rfl rfl (by decide +kernel)
set_option maxRecDepth 65536 in
theorem w_c4 : (Jvm.Cond.code ({ cls := "java/lang/Object", name := "<init>", desc := "()V" } : Jvm.MethodName) object_method_1_code (1 : Nat) (Option.none : Option Jvm.ClassFile.FieldType)).before args0 about1 = true := code_word (m := ⟨0, 0⟩) (meth := k0m0) (c := k0c0) (by decide +kernel) rfl rfl rfl (by decide +kernel)
set_option maxRecDepth 65536 in
theorem w_c5 : (Jvm.Cond.code ({ cls := "java/lang/StringUTF16", name := "compress", desc := "([CII)[B" } : Jvm.MethodName) jdk_52_method_16_code (6 : Nat) (Option.some (Jvm.ClassFile.FieldType.array Jvm.ClassFile.FieldType.byte))).before args0 about1 = true := code_word (m := ⟨9, 2⟩) (meth := k9m2) (c := k9c2) (by decide +kernel) rfl rfl rfl (by decide +kernel)
set_option maxRecDepth 65536 in
theorem w_c6 : (Jvm.Cond.code ({ cls := "java/lang/StringUTF16", name := "compress", desc := "([CI[BII)I" } : Jvm.MethodName) jdk_52_method_21_code (7 : Nat) (Option.some Jvm.ClassFile.FieldType.int)).before args0 about1 = true := code_word (m := ⟨9, 3⟩) (meth := k9m3) (c := k9c3) (by decide +kernel) rfl rfl rfl (by decide +kernel)
set_option maxRecDepth 65536 in
theorem w_c7 : (Jvm.Cond.code ({ cls := "java/lang/StringUTF16", name := "coderFromArrayLen", desc := "([BI)B" } : Jvm.MethodName) jdk_52_method_15_code (2 : Nat) (Option.some Jvm.ClassFile.FieldType.byte)).before args0 about1 = true := code_word (m := ⟨9, 1⟩) (meth := k9m1) (c := k9c1) (by decide +kernel) rfl rfl rfl (by decide +kernel)
set_option maxRecDepth 65536 in
theorem w_c8 : (Jvm.Cond.code ({ cls := "com/example/safe_retries/saferetries/identity/IdempotencyKey", name := "<init>", desc := "(Ljava/lang/String;)V" } : Jvm.MethodName) prog_16_method_1_code (4 : Nat) (Option.none : Option Jvm.ClassFile.FieldType)).before args0 about1 = true := code_word (m := ⟨2, 0⟩) (meth := k2m0) (c := k2c0) (by decide +kernel) rfl rfl rfl (by decide +kernel)
set_option maxRecDepth 65536 in
theorem w_c9 : (Jvm.Cond.code ({ cls := "java/util/Objects", name := "requireNonNull", desc := "(Ljava/lang/Object;Ljava/lang/String;)Ljava/lang/Object;" } : Jvm.MethodName) jdk_31_method_11_code (2 : Nat) (Option.some (Jvm.ClassFile.FieldType.object "java/lang/Object"))).before args0 about1 = true := code_word (m := ⟨10, 1⟩) (meth := k10m1) (c := k10c1) (by decide +kernel) rfl rfl rfl (by decide +kernel)
set_option maxRecDepth 65536 in
theorem w_c10 : (Jvm.Cond.code ({ cls := "java/lang/String", name := "isEmpty", desc := "()Z" } : Jvm.MethodName) jdk_42_method_55_code (1 : Nat) (Option.some Jvm.ClassFile.FieldType.boolean)).before args0 about1 = true := code_word (m := ⟨8, 3⟩) (meth := k8m3) (c := k8c3) (by decide +kernel) rfl rfl rfl (by decide +kernel)
set_option maxRecDepth 65536 in
theorem w_c11 : (Jvm.Cond.code ({ cls := "java/lang/String", name := "length", desc := "()I" } : Jvm.MethodName) jdk_42_method_54_code (1 : Nat) (Option.some Jvm.ClassFile.FieldType.int)).before args0 about1 = true := code_word (m := ⟨8, 2⟩) (meth := k8m2) (c := k8c2) (by decide +kernel) rfl rfl rfl (by decide +kernel)
set_option maxRecDepth 65536 in
theorem w_c12 : (Jvm.Cond.code ({ cls := "java/lang/String", name := "coder", desc := "()B" } : Jvm.MethodName) jdk_42_method_152_code (1 : Nat) (Option.some Jvm.ClassFile.FieldType.byte)).before args0 about1 = true := code_word (m := ⟨8, 7⟩) (meth := k8m7) (c := k8c7) (by decide +kernel) rfl rfl rfl (by decide +kernel)
set_option maxRecDepth 65536 in
theorem w_c13 : (Jvm.Cond.code ({ cls := "java/lang/String", name := "charAt", desc := "(I)C" } : Jvm.MethodName) jdk_42_method_56_code (2 : Nat) (Option.some Jvm.ClassFile.FieldType.char)).before args0 about1 = true := code_word (m := ⟨8, 4⟩) (meth := k8m4) (c := k8c4) (by decide +kernel) rfl rfl rfl (by decide +kernel)
set_option maxRecDepth 65536 in
theorem w_c14 : (Jvm.Cond.code ({ cls := "java/lang/String", name := "isLatin1", desc := "()Z" } : Jvm.MethodName) jdk_42_method_154_code (1 : Nat) (Option.some Jvm.ClassFile.FieldType.boolean)).before args0 about1 = true := code_word (m := ⟨8, 8⟩) (meth := k8m8) (c := k8c8) (by decide +kernel) rfl rfl rfl (by decide +kernel)
set_option maxRecDepth 65536 in
theorem w_c15 : (Jvm.Cond.code ({ cls := "java/lang/StringLatin1", name := "charAt", desc := "([BI)C" } : Jvm.MethodName) jdk_43_method_2_code (2 : Nat) (Option.some Jvm.ClassFile.FieldType.char)).before args0 about1 = true := code_word (m := ⟨11, 1⟩) (meth := k11m1) (c := k11c1) (by decide +kernel) rfl rfl rfl (by decide +kernel)
set_option maxRecDepth 65536 in
theorem w_c16 : (Jvm.Cond.code ({ cls := "java/lang/String", name := "checkIndex", desc := "(II)V" } : Jvm.MethodName) jdk_42_method_155_code (2 : Nat) (Option.none : Option Jvm.ClassFile.FieldType)).before args0 about1 = true := code_word (m := ⟨8, 9⟩) (meth := k8m9) (c := k8c9) (by decide +kernel) rfl rfl rfl (by decide +kernel)
set_option maxRecDepth 65536 in
theorem w_c17 : (Jvm.Cond.code ({ cls := "jdk/internal/util/Preconditions", name := "checkIndex", desc := "(IILjava/util/function/BiFunction;)I" } : Jvm.MethodName) jdk_41_method_11_code (3 : Nat) (Option.some Jvm.ClassFile.FieldType.int)).before args0 about1 = true := code_word (m := ⟨12, 1⟩) (meth := k12m1) (c := k12c1) (by decide +kernel) rfl rfl rfl (by decide +kernel)
set_option maxRecDepth 65536 in
theorem w_c18 : (Jvm.Cond.code ({ cls := "com/example/safe_retries/saferetries/identity/RequestIdentity", name := "<init>", desc := "(Ljava/lang/String;Ljava/lang/String;Lcom/example/safe_retries/saferetries/identity/IdempotencyKey;)V" } : Jvm.MethodName) prog_20_method_1_code (4 : Nat) (Option.none : Option Jvm.ClassFile.FieldType)).before args0 about1 = true := code_word (m := ⟨13, 0⟩) (meth := k13m0) (c := k13c0) (by decide +kernel) rfl rfl rfl (by decide +kernel)
set_option maxRecDepth 65536 in
theorem w_c19 : (Jvm.Cond.code ({ cls := "com/example/safe_retries/saferetries/identity/RequestIdentityEqualsPinLaw", name := "same", desc := "(CCICCI)Z" } : Jvm.MethodName) method_3_code (6 : Nat) (Option.some Jvm.ClassFile.FieldType.boolean)).before args0 about1 = true := code_word (m := ⟨1, 2⟩) (meth := k1m2) (c := k1c2) (by decide +kernel) rfl rfl rfl (by decide +kernel)
set_option maxRecDepth 65536 in
theorem w_c20 : (Jvm.Cond.code ({ cls := "com/example/safe_retries/saferetries/identity/RequestIdentity", name := "equals", desc := "(Ljava/lang/Object;)Z" } : Jvm.MethodName) prog_20_method_5_code (3 : Nat) (Option.some Jvm.ClassFile.FieldType.boolean)).before args0 about1 = true := code_word (m := ⟨13, 1⟩) (meth := k13m1) (c := k13c1) (by decide +kernel) rfl rfl rfl (by decide +kernel)
set_option maxRecDepth 65536 in
theorem w_c21 : (Jvm.Cond.code ({ cls := "java/lang/String", name := "equals", desc := "(Ljava/lang/Object;)Z" } : Jvm.MethodName) jdk_42_method_66_code (3 : Nat) (Option.some Jvm.ClassFile.FieldType.boolean)).before args0 about1 = true := code_word (m := ⟨8, 5⟩) (meth := k8m5) (c := k8c5) (by decide +kernel) rfl rfl rfl (by decide +kernel)
set_option maxRecDepth 65536 in
theorem w_c22 : (Jvm.Cond.code ({ cls := "java/lang/StringLatin1", name := "equals", desc := "([B[B)Z" } : Jvm.MethodName) jdk_43_method_13_code (3 : Nat) (Option.some Jvm.ClassFile.FieldType.boolean)).before args0 about1 = true := code_word (m := ⟨11, 2⟩) (meth := k11m2) (c := k11c2) (by decide +kernel) rfl rfl rfl (by decide +kernel)
set_option maxRecDepth 65536 in
theorem w_c23 : (Jvm.Cond.code ({ cls := "com/example/safe_retries/saferetries/identity/IdempotencyKey", name := "equals", desc := "(Ljava/lang/Object;)Z" } : Jvm.MethodName) prog_16_method_4_code (3 : Nat) (Option.some Jvm.ClassFile.FieldType.boolean)).before args0 about1 = true := code_word (m := ⟨2, 1⟩) (meth := k2m1) (c := k2c1) (by decide +kernel) rfl rfl rfl (by decide +kernel)
def codes1 : List Jvm.Cond := [Jvm.Cond.code x code maxLocals ret, Jvm.Cond.code ({ cls := "com/example/safe_retries/saferetries/identity/RequestIdentityEqualsPinLaw", name := "str", desc := "(CCI)Ljava/lang/String;" } : Jvm.MethodName) method_2_code (4 : Nat) (Option.some (Jvm.ClassFile.FieldType.object "java/lang/String")), Jvm.Cond.code ({ cls := "java/lang/String", name := "<init>", desc := "([C)V" } : Jvm.MethodName) jdk_42_method_3_code (2 : Nat) (Option.none : Option Jvm.ClassFile.FieldType), Jvm.Cond.code ({ cls := "java/lang/String", name := "<init>", desc := "([CIILjava/lang/Void;)V" } : Jvm.MethodName) jdk_42_method_149_code (6 : Nat) (Option.none : Option Jvm.ClassFile.FieldType), Jvm.Cond.code ({ cls := "java/lang/Object", name := "<init>", desc := "()V" } : Jvm.MethodName) object_method_1_code (1 : Nat) (Option.none : Option Jvm.ClassFile.FieldType), Jvm.Cond.code ({ cls := "java/lang/StringUTF16", name := "compress", desc := "([CII)[B" } : Jvm.MethodName) jdk_52_method_16_code (6 : Nat) (Option.some (Jvm.ClassFile.FieldType.array Jvm.ClassFile.FieldType.byte)), Jvm.Cond.code ({ cls := "java/lang/StringUTF16", name := "compress", desc := "([CI[BII)I" } : Jvm.MethodName) jdk_52_method_21_code (7 : Nat) (Option.some Jvm.ClassFile.FieldType.int), Jvm.Cond.code ({ cls := "java/lang/StringUTF16", name := "coderFromArrayLen", desc := "([BI)B" } : Jvm.MethodName) jdk_52_method_15_code (2 : Nat) (Option.some Jvm.ClassFile.FieldType.byte), Jvm.Cond.code ({ cls := "com/example/safe_retries/saferetries/identity/IdempotencyKey", name := "<init>", desc := "(Ljava/lang/String;)V" } : Jvm.MethodName) prog_16_method_1_code (4 : Nat) (Option.none : Option Jvm.ClassFile.FieldType), Jvm.Cond.code ({ cls := "java/util/Objects", name := "requireNonNull", desc := "(Ljava/lang/Object;Ljava/lang/String;)Ljava/lang/Object;" } : Jvm.MethodName) jdk_31_method_11_code (2 : Nat) (Option.some (Jvm.ClassFile.FieldType.object "java/lang/Object")), Jvm.Cond.code ({ cls := "java/lang/String", name := "isEmpty", desc := "()Z" } : Jvm.MethodName) jdk_42_method_55_code (1 : Nat) (Option.some Jvm.ClassFile.FieldType.boolean), Jvm.Cond.code ({ cls := "java/lang/String", name := "length", desc := "()I" } : Jvm.MethodName) jdk_42_method_54_code (1 : Nat) (Option.some Jvm.ClassFile.FieldType.int), Jvm.Cond.code ({ cls := "java/lang/String", name := "coder", desc := "()B" } : Jvm.MethodName) jdk_42_method_152_code (1 : Nat) (Option.some Jvm.ClassFile.FieldType.byte), Jvm.Cond.code ({ cls := "java/lang/String", name := "charAt", desc := "(I)C" } : Jvm.MethodName) jdk_42_method_56_code (2 : Nat) (Option.some Jvm.ClassFile.FieldType.char), Jvm.Cond.code ({ cls := "java/lang/String", name := "isLatin1", desc := "()Z" } : Jvm.MethodName) jdk_42_method_154_code (1 : Nat) (Option.some Jvm.ClassFile.FieldType.boolean), Jvm.Cond.code ({ cls := "java/lang/StringLatin1", name := "charAt", desc := "([BI)C" } : Jvm.MethodName) jdk_43_method_2_code (2 : Nat) (Option.some Jvm.ClassFile.FieldType.char), Jvm.Cond.code ({ cls := "java/lang/String", name := "checkIndex", desc := "(II)V" } : Jvm.MethodName) jdk_42_method_155_code (2 : Nat) (Option.none : Option Jvm.ClassFile.FieldType), Jvm.Cond.code ({ cls := "jdk/internal/util/Preconditions", name := "checkIndex", desc := "(IILjava/util/function/BiFunction;)I" } : Jvm.MethodName) jdk_41_method_11_code (3 : Nat) (Option.some Jvm.ClassFile.FieldType.int), Jvm.Cond.code ({ cls := "com/example/safe_retries/saferetries/identity/RequestIdentity", name := "<init>", desc := "(Ljava/lang/String;Ljava/lang/String;Lcom/example/safe_retries/saferetries/identity/IdempotencyKey;)V" } : Jvm.MethodName) prog_20_method_1_code (4 : Nat) (Option.none : Option Jvm.ClassFile.FieldType), Jvm.Cond.code ({ cls := "com/example/safe_retries/saferetries/identity/RequestIdentityEqualsPinLaw", name := "same", desc := "(CCICCI)Z" } : Jvm.MethodName) method_3_code (6 : Nat) (Option.some Jvm.ClassFile.FieldType.boolean), Jvm.Cond.code ({ cls := "com/example/safe_retries/saferetries/identity/RequestIdentity", name := "equals", desc := "(Ljava/lang/Object;)Z" } : Jvm.MethodName) prog_20_method_5_code (3 : Nat) (Option.some Jvm.ClassFile.FieldType.boolean), Jvm.Cond.code ({ cls := "java/lang/String", name := "equals", desc := "(Ljava/lang/Object;)Z" } : Jvm.MethodName) jdk_42_method_66_code (3 : Nat) (Option.some Jvm.ClassFile.FieldType.boolean), Jvm.Cond.code ({ cls := "java/lang/StringLatin1", name := "equals", desc := "([B[B)Z" } : Jvm.MethodName) jdk_43_method_13_code (3 : Nat) (Option.some Jvm.ClassFile.FieldType.boolean), Jvm.Cond.code ({ cls := "com/example/safe_retries/saferetries/identity/IdempotencyKey", name := "equals", desc := "(Ljava/lang/Object;)Z" } : Jvm.MethodName) prog_16_method_4_code (3 : Nat) (Option.some Jvm.ClassFile.FieldType.boolean)]
set_option maxRecDepth 65536 in
theorem codes_eq : words1.filter isCode = codes1 := rfl
theorem w_codes : ∀ c ∈ words1.filter isCode, c.before args0 about1 = true := by
  rw [codes_eq]
  intro c hc
  simp only [codes1, List.mem_cons, List.not_mem_nil, or_false] at hc
  rcases hc with rfl | rfl | rfl | rfl | rfl | rfl | rfl | rfl | rfl | rfl | rfl | rfl | rfl | rfl | rfl | rfl | rfl | rfl | rfl | rfl | rfl | rfl | rfl | rfl
  · exact w_c0
  · exact w_c1
  · exact w_c2
  · exact w_c3
  · exact w_c4
  · exact w_c5
  · exact w_c6
  · exact w_c7
  · exact w_c8
  · exact w_c9
  · exact w_c10
  · exact w_c11
  · exact w_c12
  · exact w_c13
  · exact w_c14
  · exact w_c15
  · exact w_c16
  · exact w_c17
  · exact w_c18
  · exact w_c19
  · exact w_c20
  · exact w_c21
  · exact w_c22
  · exact w_c23
set_option maxRecDepth 65536 in
theorem w_t1 : (words1.take 24).all (fun c => isCode c || c.before args0 about1) = true := by decide +kernel
set_option maxRecDepth 65536 in
theorem w_t2 : ((words1.drop 24).take 24).all (fun c => isCode c || c.before args0 about1) = true := by decide +kernel
set_option maxRecDepth 65536 in
theorem w_t3 : (((words1.drop 24).drop 24).take 24).all (fun c => isCode c || c.before args0 about1) = true := by decide +kernel
set_option maxRecDepth 65536 in
theorem w_t4 : ((((words1.drop 24).drop 24).drop 24).take 24).all (fun c => isCode c || c.before args0 about1) = true := by decide +kernel
set_option maxRecDepth 65536 in
theorem w_t5 : (((((words1.drop 24).drop 24).drop 24).drop 24).take 24).all (fun c => isCode c || c.before args0 about1) = true := by decide +kernel
set_option maxRecDepth 65536 in
theorem w_t6 : (((((words1.drop 24).drop 24).drop 24).drop 24).drop 24).all (fun c => isCode c || c.before args0 about1) = true := by decide +kernel
theorem w_tables : (allAtoms (Jvm.Cond.code x code maxLocals ret :: tables_1)).before args0 about1 = true := by
  rw [allAtoms_all]
  show words1.all (fun c => c.before args0 about1) = true
  refine all_split ?_ w_codes
  rw [← List.take_append_drop 24 words1, List.all_append, w_t1, ← List.take_append_drop 24 (words1.drop 24), List.all_append, w_t2, ← List.take_append_drop 24 ((words1.drop 24).drop 24), List.all_append, w_t3, ← List.take_append_drop 24 (((words1.drop 24).drop 24).drop 24), List.all_append, w_t4, ← List.take_append_drop 24 ((((words1.drop 24).drop 24).drop 24).drop 24), List.all_append, w_t5, w_t6]
  rfl
set_option maxRecDepth 65536 in
theorem w_rest : rest_1_c.before args0 about1 = true := by decide +kernel
set_option maxRecDepth 65536 in
theorem w_case : (Jvm.Cond.and given_1 narrow_1).before args0 about1 = true := by decide +kernel
theorem w_applies : (headSpec (Jvm.Cond.code x code maxLocals ret :: tables_1) room_1).applies x e0.platform about1 = true :=
  (Spec.applies_iff w_frames).mpr ⟨w_running, w_runnable, w_alone, w_named, w_hears, w_ripe, w_room, w_tables⟩
theorem atStart : AtStart classFile x code maxLocals ret World_1 tables_1 room_1 Calls_1 rest_1 Pre_1 launch0 p0 e0 about1 theMethod args0 below0 :=
  ⟨lists_1, trivial, launch0.admits_env _ _ _, launch0.least_env, fairChoices_fair.cas, fairChoices_fair.clock, w_frames, w_args, w_heap, w_applies, trivial, w_rest, w_case⟩
end start1
theorem witness_1 : WitnessClaimed_1 := ⟨start1.p0, start1.e0, start1.about1, start1.theMethod, start1.args0, start1.below0, start1.atStart⟩
end Jvm.Pilot.@@N@@
