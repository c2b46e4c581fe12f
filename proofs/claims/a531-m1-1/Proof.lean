import JvmDerived
import JvmDerived.Pilot.@@N@@Statement
import JvmDerived.Pilot.@@N@@Code
set_option linter.unusedVariables false
set_option linter.unusedSimpArgs false
/- laws to paste: Road.backV, Road.lenW, Road.codOf (cut by pick.py; bodies as the Statement names them) -/
namespace Jvm.Pilot.@@N@@
namespace StrChars
open Jvm Sem ClassFile Op Lib Jvm.Stand Jvm.Free.XT Jvm.Free.ALB Jvm.Free.JM Jvm.Free
open Jvm.Lib.Cold (StaticIs)
/-- a char array whose places are chars -/
def Ch (a : Addr) (A : Cell) (U : State) : Prop := Arr .char a A U ∧ Typed .char A
theorem Ch.mv {a : Addr} {A : Cell} {U U' : State} (h : Ch a A U) (hal : U.vm.Alike U'.vm) (hh : U'.heap = U.heap) : Ch a A U' := ⟨h.1.mv hal hh, h.2⟩
theorem Ch.keep {a : Addr} {A : Cell} {U U' : State} (h : Ch a A U) (hal : U.vm.Alike U'.vm) (hk : U'.heap[a]? = some A) : Ch a A U' := ⟨h.1.keep hal hk, h.2⟩
/-- what place i of a char[]'s cell holds -/
def cv (A : Cell) (i : Nat) : Int32 := match A.slots[i]? with | some (.int x) => x | _ => 0
theorem Ch.get {a : Addr} {A : Cell} {U : State} (h : Ch a A U) {i : Nat} (hi : i < A.slots.size) : A.slots[i]? = some (.int (cv A i)) := by
  have e := Array.getElem?_eq_getElem hi
  have f := h.2 i _ e
  unfold cv; rw [e]
  generalize A.slots[i] = v at f
  cases v <;> simp [fits] at f ⊢
/-- the byte that i2b leaves of a char -/
def lo8 (x : Int32) : Int32 := x.toInt8.toInt32
theorem fits_lo8 (y : Int32) : fits .byte (.int (lo8 y)) = true := by
  have h1 := y.toInt8.le_toInt
  have h2 := y.toInt8.toInt_lt
  simp only [lo8, fits, Bool.and_eq_true, decide_eq_true_eq, Int32.le_iff_toInt_le, Int8.toInt_toInt32, show (-128 : Int32).toInt = -128 from by decide, show (127 : Int32).toInt = 127 from by decide]
  omega
/-- A' is A but that each place j of lo .. hi - 1 holds f j -/
def Laid (A A' : Cell) (lo hi : Nat) (f : Nat → Value) : Prop := A'.cls = A.cls ∧ A'.vm = A.vm ∧ A'.slots.size = A.slots.size ∧ ∀ i, A'.slots[i]? = if lo ≤ i ∧ i < hi then some (f i) else A.slots[i]?
theorem Laid.zero (A : Cell) (lo : Nat) (f : Nat → Value) : Laid A A lo (lo + 0) f := ⟨rfl, rfl, rfl, fun i => by rw [if_neg (by omega)]⟩
theorem Laid.step {A Ak : Cell} {lo k : Nat} {f : Nat → Value} {v : Value} (h : Laid A Ak lo k f) (hlo : lo ≤ k) (hk : k < Ak.slots.size) (hv : v = f k) : Laid A (Ak.setSlot k v) lo (k + 1) f := by
  refine ⟨h.1, h.2.1, by simpa [Cell.setSlot] using h.2.2.1, fun i => ?_⟩
  by_cases e : k = i
  · subst e; rw [Cell.slots_setSlot_self v hk, if_pos (by omega), hv]
  · rw [Cell.slots_setSlot_ne v e, h.2.2.2 i]
    by_cases q : lo ≤ i ∧ i < k
    · rw [if_pos q, if_pos (by omega)]
    · rw [if_neg q, if_neg (by omega)]
def U16 : String := "java/lang/StringUTF16"
namespace Cmp5
def yN : MethodName := ⟨"java/lang/StringUTF16", "compress", "([CI[BII)I"⟩
abbrev yB : ByteArray := jdk_52_method_21_code
theorem d0 : decode yB 0 = .ok (.iconst 0, 1) := by decide +kernel
theorem d1 : decode yB 1 = .ok (.istore 5, 2) := by decide +kernel
theorem d3 : decode yB 3 = .ok (.iload 5, 2) := by decide +kernel
theorem d5 : decode yB 5 = .ok (.iload 4, 2) := by decide +kernel
theorem d7 : decode yB 7 = .ok (.if_icmp (.ge) 37, 3) := by decide +kernel
theorem d10 : decode yB 10 = .ok (.aload_n 0, 1) := by decide +kernel
theorem d11 : decode yB 11 = .ok (.iload_n 1, 1) := by decide +kernel
theorem d12 : decode yB 12 = .ok (.caload, 1) := by decide +kernel
theorem d13 : decode yB 13 = .ok (.istore 6, 2) := by decide +kernel
theorem d15 : decode yB 15 = .ok (.iload 6, 2) := by decide +kernel
theorem d17 : decode yB 17 = .ok (.sipush 255, 3) := by decide +kernel
theorem d20 : decode yB 20 = .ok (.if_icmp (.le) 6, 3) := by decide +kernel
theorem d26 : decode yB 26 = .ok (.aload_n 2, 1) := by decide +kernel
theorem d27 : decode yB 27 = .ok (.iload_n 3, 1) := by decide +kernel
theorem d28 : decode yB 28 = .ok (.iload 6, 2) := by decide +kernel
theorem d30 : decode yB 30 = .ok (.i2b, 1) := by decide +kernel
theorem d31 : decode yB 31 = .ok (.bastore, 1) := by decide +kernel
theorem d32 : decode yB 32 = .ok (.iinc 1 1, 3) := by decide +kernel
theorem d35 : decode yB 35 = .ok (.iinc 3 1, 3) := by decide +kernel
theorem d38 : decode yB 38 = .ok (.iinc 5 1, 3) := by decide +kernel
theorem d41 : decode yB 41 = .ok (.goto (-38), 3) := by decide +kernel
theorem d44 : decode yB 44 = .ok (.iload 4, 2) := by decide +kernel
theorem d46 : decode yB 46 = .ok (.ireturn, 1) := by decide +kernel
def site : List Cond := []
def tab : Cond := tabOf yN yB 7 (some .int) site
def P (b : Addr) (A : Cell) (d : Addr) (B : Cell) (o q len : Nat) (args : Array Value) (s : State) : Prop := args = #[.ref b, .int (Int32.ofNat o), .ref d, .int (Int32.ofNat q), .int (Int32.ofNat len)] ∧ Ch b A s ∧ Arr .byte d B s ∧ b ≠ d ∧ o + len ≤ A.slots.size ∧ q + len ≤ B.slots.size ∧ ∀ i, i < len → ¬ 255 < cv A (o + i)
def E (b : Addr) (A : Cell) (d : Addr) (B : Cell) (o q len : Nat) (r : Option Value) (s u : State) : Prop := r = some (.int (Int32.ofNat len)) ∧ ∃ B', Put d B' s u ∧ Laid B B' q (q + len) (fun j => Value.int (lo8 (cv A (o + (j - q)))))
/-- no char of the range above 255: len; the places written hold each char's low byte -/
theorem law (l : Launch) (b : Addr) (A : Cell) (d : Addr) (B : Cell) (o q len : Nat) : Law l yN 5 5 0 0 yB 7 (some .int) site (P b A d B o q len) (E b A d B o q len) (copyLocs d q len) 0 0 := by
  refine Law.of_walk (plainFor_of_name (by decide +kernel)) (by decide +kernel) (by decide +kernel) (by decide) (fun _ _ h => by rw [h.1]; rfl) (fun _ U U' hal hh h => ⟨h.1, h.2.1.mv hal hh, h.2.2.1.mv hal hh, h.2.2.2⟩) (fun r U U' V V' h1 hal h2 h => ⟨h.1, h.2.elim fun B' q => ⟨B', q.1.mv h1 h2, q.2⟩⟩) ?_
  intro p e s m args below meth c s₁ X0 hexec hbytes hml hret hlk hnm hown hh0 W hP
  obtain ⟨rfl, hA, hB, hne, l1, l2, hp⟩ := hP
  have c1 : Steps p.tables e below (s₁.setTop (entryFrame m #[.ref b, .int (Int32.ofNat o), .ref d, .int (Int32.ofNat q), .int (Int32.ofNat len)] 7)) (s₁.setTop (mkF m 0 #[.val (.ref b), .val (.int (Int32.ofNat o)), .val (.ref d), .val (.int (Int32.ofNat q)), .val (.int (Int32.ofNat len)), .unset, .unset] [])) := entry rfl
  have hA0 := hA.1.mv X0.warmed.alike hh0
  have hB0 := hB.mv X0.warmed.alike hh0
  have a31 := hA.1.2.2.2
  have c2 : Steps p.tables e below (s₁.setTop (entryFrame m #[.ref b, .int (Int32.ofNat o), .ref d, .int (Int32.ofNat q), .int (Int32.ofNat len)] 7)) (s₁.setTop (mkF m 3 #[.val (.ref b), .val (.int (Int32.ofNat o)), .val (.ref d), .val (.int (Int32.ofNat q)), .val (.int (Int32.ofNat len)), .val (.int 0), .unset] [])) := c1.trans (by
    refine iconstV X0.here hexec rfl 0 (hb hbytes d0) (by decide) ?_
    refine XS.istore X0.here hexec rfl (hb hbytes d1) rfl rfl ?_
    exact Steps.refl _)
  have loop : ∀ (r i : Nat), i + r = len → ∀ (z : Slot), (z = .unset ∨ ∃ w, z = .val w ∧ w.category = 1) → ∀ (Tl : State) (Bk : Cell), Stand p l e { frames := 0, locals := 0, cells := 0, slots := 0 } s m #[.ref b, .int (Int32.ofNat o), .ref d, .int (Int32.ofNat q), .int (Int32.ofNat len)] below meth c Tl ([] ++ copyLocs d q i) 0 0 → Put d Bk s₁ Tl → Laid B Bk q (q + i) (fun j => Value.int (lo8 (cv A (o + (j - q))))) →
      Steps p.tables e below (s₁.setTop (entryFrame m #[.ref b, .int (Int32.ofNat o), .ref d, .int (Int32.ofNat q), .int (Int32.ofNat len)] 7)) (Tl.setTop (mkF m 3 #[.val (.ref b), .val (.int (Int32.ofNat (o + i))), .val (.ref d), .val (.int (Int32.ofNat (q + i))), .val (.int (Int32.ofNat len)), .val (.int (Int32.ofNat i)), z] [])) → ∃ (T' : State) (B' : Cell) (z' : Slot), Stand p l e { frames := 0, locals := 0, cells := 0, slots := 0 } s m #[.ref b, .int (Int32.ofNat o), .ref d, .int (Int32.ofNat q), .int (Int32.ofNat len)] below meth c T' ([] ++ copyLocs d q len) 0 0 ∧ Put d B' s₁ T' ∧ Laid B B' q (q + len) (fun j => Value.int (lo8 (cv A (o + (j - q))))) ∧
      Steps p.tables e below (s₁.setTop (entryFrame m #[.ref b, .int (Int32.ofNat o), .ref d, .int (Int32.ofNat q), .int (Int32.ofNat len)] 7)) (T'.setTop (mkF m 3 #[.val (.ref b), .val (.int (Int32.ofNat (o + len))), .val (.ref d), .val (.int (Int32.ofNat (q + len))), .val (.int (Int32.ofNat len)), .val (.int (Int32.ofNat len)), z'] [])) := by
    intro r
    induction r with
    | zero =>
      intro i hi z hz Tl Bk Xl pl fl cl
      have hil : i = len := by omega
      rw [hil] at Xl fl cl
      exact ⟨Tl, Bk, z, Xl, pl, fl, cl⟩
    | succ r ih =>
      intro i hi z hz Tl Bk Xl pl fl cl
      have all := X0.warmed.alike.symm.trans Xl.warmed.alike
      have hAl := hA0.keep all (pl.other hne hA0.1)
      have hBk := hB0.like all pl.1 fl.1 fl.2.1 fl.2.2.1
      have hlt : q + i < Bk.slots.size := by rw [fl.2.2.1]; omega
      have c3 : Steps p.tables e below (s₁.setTop (entryFrame m #[.ref b, .int (Int32.ofNat o), .ref d, .int (Int32.ofNat q), .int (Int32.ofNat len)] 7)) (Tl.setTop (mkF m 12 #[.val (.ref b), .val (.int (Int32.ofNat (o + i))), .val (.ref d), .val (.int (Int32.ofNat (q + i))), .val (.int (Int32.ofNat len)), .val (.int (Int32.ofNat i)), z] [.int (Int32.ofNat (o + i)), .ref b])) := cl.trans (by
        refine XS.iload Xl.here hexec rfl (hb hbytes d3) rfl ?_
        refine XS.iload Xl.here hexec rfl (hb hbytes d5) rfl ?_
        refine XS.icmpNo Xl.here hexec rfl (hb hbytes d7) rfl (ii_ge_f (lt32 (by omega) (by omega))) ?_
        refine XS.aloadN Xl.here hexec rfl (hb hbytes d10) rfl rfl ?_
        refine XS.iloadN Xl.here hexec rfl (hb hbytes d11) rfl ?_
        exact Steps.refl _)
      have c4 : Steps p.tables e below (s₁.setTop (entryFrame m #[.ref b, .int (Int32.ofNat o), .ref d, .int (Int32.ofNat q), .int (Int32.ofNat len)] 7)) (Tl.setTop (mkF m 13 #[.val (.ref b), .val (.int (Int32.ofNat (o + i))), .val (.ref d), .val (.int (Int32.ofNat (q + i))), .val (.int (Int32.ofNat len)), .val (.int (Int32.ofNat i)), z] [.int (cv A (o + i))])) := c3.trans (by
        refine Xl.aget hexec hAl rfl (hA.get (i := o + i) (by omega)) rfl rfl (hb hbytes d12) ?_
        exact Steps.refl _)
      have c5 : Steps p.tables e below (s₁.setTop (entryFrame m #[.ref b, .int (Int32.ofNat o), .ref d, .int (Int32.ofNat q), .int (Int32.ofNat len)] 7)) (Tl.setTop (mkF m 15 #[.val (.ref b), .val (.int (Int32.ofNat (o + i))), .val (.ref d), .val (.int (Int32.ofNat (q + i))), .val (.int (Int32.ofNat len)), .val (.int (Int32.ofNat i)), .val (.int (cv A (o + i)))] [])) := c4.trans (by
        refine XS.istoreS Xl.here hexec rfl (hb hbytes d13) rfl rfl hz ?_
        exact Steps.refl _)
      have c6 : Steps p.tables e below (s₁.setTop (entryFrame m #[.ref b, .int (Int32.ofNat o), .ref d, .int (Int32.ofNat q), .int (Int32.ofNat len)] 7)) (Tl.setTop (mkF m 31 #[.val (.ref b), .val (.int (Int32.ofNat (o + i))), .val (.ref d), .val (.int (Int32.ofNat (q + i))), .val (.int (Int32.ofNat len)), .val (.int (Int32.ofNat i)), .val (.int (cv A (o + i)))] [.int (lo8 (cv A (o + i))), .int (Int32.ofNat (q + i)), .ref d])) := c5.trans (by
        refine XS.iload Xl.here hexec rfl (hb hbytes d15) rfl ?_
        refine sipushV Xl.here hexec rfl 255 (hb hbytes d17) (by decide) ?_
        refine XS.icmpYes Xl.here hexec rfl (pc0 := 20) rfl (hb hbytes d20) rfl (ii_le_t (hp i (by omega))) (by decide) rfl ?_
        refine XS.aloadN Xl.here hexec rfl (hb hbytes d26) rfl rfl ?_
        refine XS.iloadN Xl.here hexec rfl (hb hbytes d27) rfl ?_
        refine XS.iload Xl.here hexec rfl (hb hbytes d28) rfl ?_
        refine i2b Xl.here hexec rfl (hb hbytes d30) rfl ?_
        exact Steps.refl _)
      obtain ⟨T7, X7, p7, st7⟩ := Xl.aput hexec hBk rfl hlt rfl (fits_lo8 (cv A (o + i))) (g := (mkF m 31 #[.val (.ref b), .val (.int (Int32.ofNat (o + i))), .val (.ref d), .val (.int (Int32.ofNat (q + i))), .val (.int (Int32.ofNat len)), .val (.int (Int32.ofNat i)), .val (.int (cv A (o + i)))] [.int (lo8 (cv A (o + i))), .int (Int32.ofNat (q + i)), .ref d])) rfl (rest := []) rfl (hb hbytes d31)
      have c8 : Steps p.tables e below (s₁.setTop (entryFrame m #[.ref b, .int (Int32.ofNat o), .ref d, .int (Int32.ofNat q), .int (Int32.ofNat len)] 7)) (T7.setTop (mkF m 32 #[.val (.ref b), .val (.int (Int32.ofNat (o + i))), .val (.ref d), .val (.int (Int32.ofNat (q + i))), .val (.int (Int32.ofNat len)), .val (.int (Int32.ofNat i)), .val (.int (cv A (o + i)))] [])) := c6.trans (st7 _ (Steps.refl _))
      have c9 : Steps p.tables e below (s₁.setTop (entryFrame m #[.ref b, .int (Int32.ofNat o), .ref d, .int (Int32.ofNat q), .int (Int32.ofNat len)] 7)) (T7.setTop (mkF m 3 #[.val (.ref b), .val (.int (Int32.ofNat (o + i) + 1)), .val (.ref d), .val (.int (Int32.ofNat (q + i) + 1)), .val (.int (Int32.ofNat len)), .val (.int (Int32.ofNat i + 1)), .val (.int (cv A (o + i)))] [])) := c8.trans (by
        refine iincV X7.here hexec rfl 1 (hb hbytes d32) (by decide) rfl rfl ?_
        refine iincV X7.here hexec rfl 1 (hb hbytes d35) (by decide) rfl rfl ?_
        refine iincV X7.here hexec rfl 1 (hb hbytes d38) (by decide) rfl rfl ?_
        refine XS.goto X7.here hexec rfl (pc0 := 41) rfl (hb hbytes d41) (by decide) rfl ?_
        exact Steps.refl _)
      have c10 : Steps p.tables e below (s₁.setTop (entryFrame m #[.ref b, .int (Int32.ofNat o), .ref d, .int (Int32.ofNat q), .int (Int32.ofNat len)] 7)) (T7.setTop (mkF m 3 #[.val (.ref b), .val (.int (Int32.ofNat (o + (i + 1)))), .val (.ref d), .val (.int (Int32.ofNat (q + (i + 1)))), .val (.int (Int32.ofNat len)), .val (.int (Int32.ofNat (i + 1))), .val (.int (cv A (o + i)))] [])) := by
        have := c9
        rw [succ32, succ32, succ32] at this
        exact this
      exact ih (i + 1) (by omega) _ (Or.inr ⟨_, rfl, rfl⟩) T7 _ (by rw [copyLocs_step, ← List.append_assoc]; exact X7) (pl.trans p7) (fl.step (by omega) hlt (by simp)) c10
  obtain ⟨T9, B9, z9, X9, p9, f9, g9⟩ := loop len 0 (by omega) .unset (Or.inl rfl) s₁ B (by simpa [copyLocs] using X0) ⟨hB0.1, fun _ _ => rfl, rfl⟩ (Laid.zero _ _ _) c2
  have c11 : Steps p.tables e below (s₁.setTop (entryFrame m #[.ref b, .int (Int32.ofNat o), .ref d, .int (Int32.ofNat q), .int (Int32.ofNat len)] 7)) (T9.setTop (mkF m 46 #[.val (.ref b), .val (.int (Int32.ofNat (o + len))), .val (.ref d), .val (.int (Int32.ofNat (q + len))), .val (.int (Int32.ofNat len)), .val (.int (Int32.ofNat len)), z9] [.int (Int32.ofNat len)])) := g9.trans (by
    refine XS.iload X9.here hexec rfl (hb hbytes d3) rfl ?_
    refine XS.iload X9.here hexec rfl (hb hbytes d5) rfl ?_
    refine XS.icmpYes X9.here hexec rfl (pc0 := 7) rfl (hb hbytes d7) rfl (ii_ge_t (nlt32 (by omega) (Nat.le_refl _))) (by decide) rfl ?_
    refine XS.iload X9.here hexec rfl (hb hbytes d44) rfl ?_
    exact Steps.refl _)
  exact ⟨T9, some (.int (Int32.ofNat len)), _, _, _, X9, by simp, rfl, rfl, (fun h => by cases h), ⟨rfl, B9, p9.from hh0, f9⟩, fun fs hl => c11.trans (X9.ireturnOut hexec hret rfl (Or.inl rfl) (hb hbytes d46) hl)⟩
end Cmp5
namespace Cmp3
def yN : MethodName := ⟨"java/lang/StringUTF16", "compress", "([CII)[B"⟩
abbrev yB : ByteArray := jdk_52_method_16_code
theorem d0 : decode yB 0 = .ok (.iload_n 2, 1) := by decide +kernel
theorem d1 : decode yB 1 = .ok (.newarray .byte, 2) := by decide +kernel
theorem d3 : decode yB 3 = .ok (.astore_n 3, 1) := by decide +kernel
theorem d4 : decode yB 4 = .ok (.aload_n 0, 1) := by decide +kernel
theorem d5 : decode yB 5 = .ok (.iload_n 1, 1) := by decide +kernel
theorem d6 : decode yB 6 = .ok (.aload_n 3, 1) := by decide +kernel
theorem d7 : decode yB 7 = .ok (.iconst 0, 1) := by decide +kernel
theorem d8 : decode yB 8 = .ok (.iload_n 2, 1) := by decide +kernel
theorem d9 : decode yB 9 = .ok (.invokestatic 115, 3) := by decide +kernel
theorem d12 : decode yB 12 = .ok (.istore 4, 2) := by decide +kernel
theorem d14 : decode yB 14 = .ok (.iload 4, 2) := by decide +kernel
theorem d16 : decode yB 16 = .ok (.iload_n 2, 1) := by decide +kernel
theorem d17 : decode yB 17 = .ok (.if_icmp (.eq) 40, 3) := by decide +kernel
theorem d57 : decode yB 57 = .ok (.aload_n 3, 1) := by decide +kernel
theorem d58 : decode yB 58 = .ok (.areturn, 1) := by decide +kernel
def site : List Cond := [.arrayClass .byte, Cmp5.tab] ++ staticW U16 115 Cmp5.yN
def tab : Cond := tabOf yN yB 6 (some (.array .byte)) site
def P (b : Addr) (A : Cell) (o len : Nat) (args : Array Value) (s : State) : Prop := args = #[.ref b, .int (Int32.ofNat o), .int (Int32.ofNat len)] ∧ Ch b A s ∧ o + len ≤ A.slots.size ∧ len ≤ 536870912 ∧ ∀ i, i < len → ¬ 255 < cv A (o + i)
def E (b : Addr) (A : Cell) (o len : Nat) (r : Option Value) (s u : State) : Prop := NewArr .byte "[B" len (fun j => .int (lo8 (cv A (o + j)))) r s u ∧ u.heap.size = s.heap.size + 1
/-- no char of the range above 255: a new byte[] of their low bytes -/
theorem law (l : Launch) (b : Addr) (A : Cell) (o len : Nat) : Law l yN 3 3 1 18 yB 6 (some (.array .byte)) site (P b A o len) (E b A o len) [] 1 len := by
  refine Law.of_walk (plainFor_of_name (by decide +kernel)) (by decide +kernel) (by decide +kernel) (by decide) (fun _ _ h => by rw [h.1]; rfl) (fun _ U U' hal hh h => ⟨h.1, h.2.1.mv hal hh, h.2.2⟩) (fun r U U' V V' h1 hal h2 h => ⟨NewArr.mv r U U' V V' h1 hal h2 h.1, by rw [h1, h2]; exact h.2⟩) ?_
  intro p e s m args below meth c s₁ X0 hexec hbytes hml hret hlk hnm hown hh0 W hP
  obtain ⟨rfl, hA, l1, l2, hp⟩ := hP
  have a31 := hA.1.2.2.2
  have c1 : Steps p.tables e below (s₁.setTop (entryFrame m #[.ref b, .int (Int32.ofNat o), .int (Int32.ofNat len)] 6)) (s₁.setTop (mkF m 0 #[.val (.ref b), .val (.int (Int32.ofNat o)), .val (.int (Int32.ofNat len)), .unset, .unset, .unset] [])) := entry rfl
  have c2 : Steps p.tables e below (s₁.setTop (entryFrame m #[.ref b, .int (Int32.ofNat o), .int (Int32.ofNat len)] 6)) (s₁.setTop (mkF m 1 #[.val (.ref b), .val (.int (Int32.ofNat o)), .val (.int (Int32.ofNat len)), .unset, .unset, .unset] [.int (Int32.ofNat len)])) := c1.trans (by
    refine XS.iloadN X0.here hexec rfl (hb hbytes d0) rfl ?_
    exact Steps.refl _)
  obtain ⟨T3, B3, X3, ba3, bs3, bv3, bh3, bf3, st3⟩ := X0.anew hexec (atype := .byte) (wk W (.arrayClass .byte)) rfl (by show len * 1 ≤ _; omega) (by omega) (g := (mkF m 1 #[.val (.ref b), .val (.int (Int32.ofNat o)), .val (.int (Int32.ofNat len)), .unset, .unset, .unset] [.int (Int32.ofNat len)])) rfl (hb hbytes d1) (rest := []) rfl (Nat.le_refl _) (by show 0 + len ≤ len; omega)
  rw [hh0] at ba3 st3
  have kp3 : XT.Kept s T3 := (XT.Kept.of_eq hh0).push bh3
  have hA3 := hA.keep X3.warmed.alike (kp3 _ _ hA.1.1)
  have hne : b ≠ s.heap.size := hA.1.ne
  have c4 : Steps p.tables e below (s₁.setTop (entryFrame m #[.ref b, .int (Int32.ofNat o), .int (Int32.ofNat len)] 6)) (T3.setTop (mkF m 3 #[.val (.ref b), .val (.int (Int32.ofNat o)), .val (.int (Int32.ofNat len)), .unset, .unset, .unset] [.ref s.heap.size])) := c2.trans (st3 _ (Steps.refl _))
  have c5 : Steps p.tables e below (s₁.setTop (entryFrame m #[.ref b, .int (Int32.ofNat o), .int (Int32.ofNat len)] 6)) (T3.setTop (mkF m 9 #[.val (.ref b), .val (.int (Int32.ofNat o)), .val (.int (Int32.ofNat len)), .val (.ref s.heap.size), .unset, .unset] [.int (Int32.ofNat len), .int 0, .ref s.heap.size, .int (Int32.ofNat o), .ref b])) := c4.trans (by
    refine XS.astoreN X3.here hexec rfl (hb hbytes d3) rfl rfl rfl ?_
    refine XS.aloadN X3.here hexec rfl (hb hbytes d4) rfl rfl ?_
    refine XS.iloadN X3.here hexec rfl (hb hbytes d5) rfl ?_
    refine XS.aloadN X3.here hexec rfl (hb hbytes d6) rfl rfl ?_
    refine iconstV X3.here hexec rfl 0 (hb hbytes d7) (by decide) ?_
    refine XS.iloadN X3.here hexec rfl (hb hbytes d8) rfl ?_
    exact Steps.refl _)
  obtain ⟨v6, T6, X6, E6, g6⟩ := X3.callS hexec (Cmp5.law l b A s.heap.size B3 o 0 len) hown (wks W (staticW U16 115 Cmp5.yN)) (wk W Cmp5.tab) (W := 0) (Nat.le_of_ble_eq_true rfl) (Nat.le_of_ble_eq_true rfl) (Nat.le_refl _) (by show 0 + len + 0 ≤ len; omega) (g := (mkF m 9 #[.val (.ref b), .val (.int (Int32.ofNat o)), .val (.int (Int32.ofNat len)), .val (.ref s.heap.size), .unset, .unset] [.int (Int32.ofNat len), .int (Int32.ofNat 0), .ref s.heap.size, .int (Int32.ofNat o), .ref b])) rfl (by rw [hml]; rfl) c5 (argsL := [.ref b, .int (Int32.ofNat o), .ref s.heap.size, .int (Int32.ofNat 0), .int (Int32.ofNat len)]) (rest := []) rfl rfl (by show 2 * 0 + 0 ≤ _; decide) (hb hbytes d9) (⟨rfl, hA3, ba3, hne, l1, by rw [bs3]; simp, hp⟩)
  obtain ⟨rfl, B6, p6, f6⟩ := E6
  have c7 : Steps p.tables e below (s₁.setTop (entryFrame m #[.ref b, .int (Int32.ofNat o), .int (Int32.ofNat len)] 6)) (T6.setTop (mkF m 12 #[.val (.ref b), .val (.int (Int32.ofNat o)), .val (.int (Int32.ofNat len)), .val (.ref s.heap.size), .unset, .unset] [.int (Int32.ofNat len)])) := g6
  have c8 : Steps p.tables e below (s₁.setTop (entryFrame m #[.ref b, .int (Int32.ofNat o), .int (Int32.ofNat len)] 6)) (T6.setTop (mkF m 58 #[.val (.ref b), .val (.int (Int32.ofNat o)), .val (.int (Int32.ofNat len)), .val (.ref s.heap.size), .val (.int (Int32.ofNat len)), .unset] [.ref s.heap.size])) := c7.trans (by
    refine XS.istore X6.here hexec rfl (hb hbytes d12) rfl rfl ?_
    refine XS.iload X6.here hexec rfl (hb hbytes d14) rfl ?_
    refine XS.iloadN X6.here hexec rfl (hb hbytes d16) rfl ?_
    refine XS.icmpYes X6.here hexec rfl (pc0 := 17) rfl (hb hbytes d17) rfl (ii_eq_t rfl) (by decide) rfl ?_
    refine XS.aloadN X6.here hexec rfl (hb hbytes d57) rfl rfl ?_
    exact Steps.refl _)
  have X8 := X6.wide (L' := []) (cells' := 1) (slots' := len) (fun x hx hlt => by
    simp only [List.nil_append, copyLocs, List.mem_map, List.mem_range] at hx
    obtain ⟨i, -, rfl⟩ := hx
    exact absurd hlt (Nat.lt_irrefl _)) (Nat.le_refl _) (by omega)
  exact ⟨T6, some (.ref s.heap.size), _, _, _, X8, rfl, rfl, rfl, (fun h => by cases h), ⟨⟨rfl, B6, ba3.like (X3.warmed.alike.symm.trans X6.warmed.alike) p6.1 f6.1 f6.2.1 f6.2.2.1, f6.2.1.trans bv3, by rw [X6.warmed.alike.findClass, f6.1]; exact bf3, by rw [f6.2.2.1, bs3]; simp, fun j hj => by rw [f6.2.2.2 j, if_pos (by omega)]; rfl, kp3.put p6 (Nat.le_refl _)⟩, by rw [p6.2.2, bh3, hh0]; simp⟩, fun fs hl => c8.trans (X8.areturnOut hexec rfl hret rfl (hb hbytes d58) hl)⟩
end Cmp3
namespace CodL
def yN : MethodName := ⟨"java/lang/StringUTF16", "coderFromArrayLen", "([BI)B"⟩
abbrev yB : ByteArray := jdk_52_method_15_code
theorem d0 : decode yB 0 = .ok (.iload_n 1, 1) := by decide +kernel
theorem d1 : decode yB 1 = .ok (.aload_n 0, 1) := by decide +kernel
theorem d2 : decode yB 2 = .ok (.arraylength, 1) := by decide +kernel
theorem d3 : decode yB 3 = .ok (.isub, 1) := by decide +kernel
theorem d4 : decode yB 4 = .ok (.bipush 31, 2) := by decide +kernel
theorem d6 : decode yB 6 = .ok (.iushr, 1) := by decide +kernel
theorem d7 : decode yB 7 = .ok (.i2b, 1) := by decide +kernel
theorem d8 : decode yB 8 = .ok (.ireturn, 1) := by decide +kernel
def site : List Cond := []
def tab : Cond := tabOf yN yB 2 (some .byte) site
def P (d : Addr) (B : Cell) (args : Array Value) (s : State) : Prop := args = #[.ref d, .int (Int32.ofNat B.slots.size)] ∧ Arr .byte d B s
def E (r : Option Value) (s u : State) : Prop := XT.PureE (some (.int 0)) r s u
/-- an array as long as the number of chars: LATIN1 -/
theorem law (l : Launch) (d : Addr) (B : Cell) : Law l yN 2 2 0 0 yB 2 (some .byte) site (P d B) E [] 0 0 := by
  refine Law.of_walk (plainFor_of_name (by decide +kernel)) (by decide +kernel) (by decide +kernel) (by decide) (fun _ _ h => by rw [h.1]; rfl) (fun _ U U' hal hh h => ⟨h.1, h.2.mv hal hh⟩) (fun r U U' V V' h1 hal h2 h => XT.PureE.mv r U U' V V' h1 hal h2 h) ?_
  intro p e s m args below meth c s₁ X0 hexec hbytes hml hret hlk hnm hown hh0 W hP
  obtain ⟨rfl, hB⟩ := hP
  have hB0 := hB.mv X0.warmed.alike hh0
  have c1 : Steps p.tables e below (s₁.setTop (entryFrame m #[.ref d, .int (Int32.ofNat B.slots.size)] 2)) (s₁.setTop (mkF m 0 #[.val (.ref d), .val (.int (Int32.ofNat B.slots.size))] [])) := entry rfl
  have c2 : Steps p.tables e below (s₁.setTop (entryFrame m #[.ref d, .int (Int32.ofNat B.slots.size)] 2)) (s₁.setTop (mkF m 2 #[.val (.ref d), .val (.int (Int32.ofNat B.slots.size))] [.ref d, .int (Int32.ofNat B.slots.size)])) := c1.trans (by
    refine XS.iloadN X0.here hexec rfl (hb hbytes d0) rfl ?_
    refine XS.aloadN X0.here hexec rfl (hb hbytes d1) rfl rfl ?_
    exact Steps.refl _)
  have c3 : Steps p.tables e below (s₁.setTop (entryFrame m #[.ref d, .int (Int32.ofNat B.slots.size)] 2)) (s₁.setTop (mkF m 8 #[.val (.ref d), .val (.int (Int32.ofNat B.slots.size))] [.int (lo8 (ushr (Int32.ofNat B.slots.size - Int32.ofNat B.slots.size) 31))])) := c2.trans (by
    refine X0.alen hexec hB0 rfl rfl (hb hbytes d2) ?_
    refine XS.isub X0.here hexec rfl (hb hbytes d3) rfl ?_
    refine bipushV X0.here hexec rfl 31 (hb hbytes d4) (by decide) ?_
    refine iushr X0.here hexec rfl (hb hbytes d6) rfl ?_
    refine i2b X0.here hexec rfl (hb hbytes d7) rfl ?_
    exact Steps.refl _)
  have e0 : lo8 (ushr (Int32.ofNat B.slots.size - Int32.ofNat B.slots.size) 31) = 0 := by rw [Int32.sub_self]; decide
  rw [e0] at c3
  exact ⟨s₁, some (.int 0), _, _, _, X0, rfl, rfl, rfl, (fun h => by cases h), ⟨rfl, hh0⟩, fun fs hl => c3.trans (X0.ireturnOut hexec hret rfl (Or.inr (Or.inr (Or.inl rfl))) (hb hbytes d8) hl)⟩
end CodL
/-- the String at a is Latin-1 over a new byte[] (the heap's one new cell): the low bytes of the len chars of A from o on; every cell but a is kept -/
def Got (a : Addr) (D : Cell) (fV fC : Field) (A : Cell) (o len : Nat) (r : Option Value) (s u : State) : Prop := r = none ∧ ∃ D' V : Cell, Blank "java/lang/String" a D' u ∧ Same D D' [fV.slot, fC.slot] ∧ D'.slots[fV.slot]? = some (.ref s.heap.size) ∧ D'.slots[fC.slot]? = some (.int 0) ∧ Arr .byte s.heap.size V u ∧ V.vm = .none ∧ u.vm.findClass "[B" = some V.cls ∧ V.slots.size = len ∧ (∀ j, j < len → V.slots[j]? = some (.int (lo8 (cv A (o + j))))) ∧ (∀ (y : Addr) (c : Cell), y ≠ a → s.heap[y]? = some c → u.heap[y]? = some c) ∧ u.heap.size = s.heap.size + 1
theorem Got.mv {a : Addr} {D A : Cell} {fV fC : Field} {o len : Nat} : ∀ r (U U' V V' : State), U'.heap = U.heap → V.vm.Alike V'.vm → V'.heap = V.heap → Got a D fV fC A o len r U V → Got a D fV fC A o len r U' V' :=
  fun r U U' V V' h1 hal h2 ⟨e0, D', X, a1, a2, a3, a4, a5, a6, a7, a8, a9, a10, a11⟩ => ⟨e0, D', X, a1.mv hal h2, a2, by rw [h1]; exact a3, a4, by rw [h1]; exact a5.mv hal h2, a6, by rw [hal.findClass]; exact a7, a8, a9, by rw [h1, h2]; exact a10, by rw [h1, h2]; exact a11⟩
namespace New4
def yN : MethodName := ⟨"java/lang/String", "<init>", "([CIILjava/lang/Void;)V"⟩
abbrev yB : ByteArray := jdk_42_method_149_code
theorem d0 : decode yB 0 = .ok (.aload_n 0, 1) := by decide +kernel
theorem d1 : decode yB 1 = .ok (.invokespecial 1, 3) := by decide +kernel
theorem d4 : decode yB 4 = .ok (.iload_n 3, 1) := by decide +kernel
theorem d5 : decode yB 5 = .ok (.ifCond (.ne) 22, 3) := by decide +kernel
theorem d27 : decode yB 27 = .ok (.getstatic 38, 3) := by decide +kernel
theorem d30 : decode yB 30 = .ok (.ifCond (.eq) 28, 3) := by decide +kernel
theorem d33 : decode yB 33 = .ok (.aload_n 1, 1) := by decide +kernel
theorem d34 : decode yB 34 = .ok (.iload_n 2, 1) := by decide +kernel
theorem d35 : decode yB 35 = .ok (.iload_n 3, 1) := by decide +kernel
theorem d36 : decode yB 36 = .ok (.invokestatic 177, 3) := by decide +kernel
theorem d39 : decode yB 39 = .ok (.astore 5, 2) := by decide +kernel
theorem d41 : decode yB 41 = .ok (.aload_n 0, 1) := by decide +kernel
theorem d42 : decode yB 42 = .ok (.aload 5, 2) := by decide +kernel
theorem d44 : decode yB 44 = .ok (.iload_n 3, 1) := by decide +kernel
theorem d45 : decode yB 45 = .ok (.invokestatic 47, 3) := by decide +kernel
theorem d48 : decode yB 48 = .ok (.putfield 15, 3) := by decide +kernel
theorem d51 : decode yB 51 = .ok (.aload_n 0, 1) := by decide +kernel
theorem d52 : decode yB 52 = .ok (.aload 5, 2) := by decide +kernel
theorem d54 : decode yB 54 = .ok (.putfield 9, 3) := by decide +kernel
theorem d57 : decode yB 57 = .ok (.return_, 1) := by decide +kernel
def site : List Cond := [.fieldLink "java/lang/String" 38 "java/lang/String" "COMPACT_STRINGS" "Z", Cmp3.tab, CodL.tab, .laysFinal "java/lang/String" "java/lang/String" "value" "[B", .fieldLink "java/lang/String" 9 "java/lang/String" "value" "[B", .laysFinal "java/lang/String" "java/lang/String" "coder" "B", .fieldLink "java/lang/String" 15 "java/lang/String" "coder" "B"] ++ objW "java/lang/String" 1 ++ staticW "java/lang/String" 177 Cmp3.yN ++ staticW "java/lang/String" 47 CodL.yN
def tab : Cond := tabOf yN yB 6 none site
def P (a : Addr) (D : Cell) (fV fC : Field) (b : Addr) (A : Cell) (z : Int32) (o len : Nat) (args : Array Value) (s : State) : Prop := args = #[.ref a, .ref b, .int (Int32.ofNat o), .int (Int32.ofNat len), .null] ∧ Blank "java/lang/String" a D s ∧ Found "java/lang/String" "value" "[B" fV s ∧ Found "java/lang/String" "coder" "B" fC s ∧ Ch b A s ∧ StaticIs s "java/lang/String" "COMPACT_STRINGS" "Z" (.int z) ∧ ¬ z = 0 ∧ 0 < len ∧ o + len ≤ A.slots.size ∧ len ≤ 536870912 ∧ ∀ i, i < len → ¬ 255 < cv A (o + i)
def E (a : Addr) (D : Cell) (fV fC : Field) (A : Cell) (o len : Nat) (r : Option Value) (s u : State) : Prop := Got a D fV fC A o len r s u
/-- len > 0, no char of the range above 255: a Latin-1 String of their low bytes -/
theorem law (l : Launch) (a : Addr) (D : Cell) (fV fC : Field) (b : Addr) (A : Cell) (z : Int32) (o len : Nat) : Law l yN 5 4 2 35 yB 6 none site (P a D fV fC b A z o len) (E a D fV fC A o len) [⟨a, fC.slot⟩, ⟨a, fV.slot⟩] 1 len := by
  refine Law.of_walk (plainFor_of_name (by decide +kernel)) (by decide +kernel) (by decide +kernel) (by decide) (fun _ _ h => by rw [h.1]; rfl) (fun _ U U' hal hh h => ⟨h.1, h.2.1.mv hal hh, h.2.2.1.al hal, h.2.2.2.1.al hal, h.2.2.2.2.1.mv hal hh, h.2.2.2.2.2.1.there hal hh, h.2.2.2.2.2.2⟩) (fun r U U' V V' h1 hal h2 h => Got.mv r U U' V V' h1 hal h2 h) ?_
  intro p e s m args below meth c s₁ X0 hexec hbytes hml hret hlk hnm hown hh0 W hP
  obtain ⟨rfl, hB, f1, f2, hA, s1, hz, l0, l1, l2, hp⟩ := hP
  have a31 := hA.1.2.2.2
  have c1 : Steps p.tables e below (s₁.setTop (entryFrame m #[.ref a, .ref b, .int (Int32.ofNat o), .int (Int32.ofNat len), .null] 6)) (s₁.setTop (mkF m 0 #[.val (.ref a), .val (.ref b), .val (.int (Int32.ofNat o)), .val (.int (Int32.ofNat len)), .val .null, .unset] [])) := entry rfl
  have c2 : Steps p.tables e below (s₁.setTop (entryFrame m #[.ref a, .ref b, .int (Int32.ofNat o), .int (Int32.ofNat len), .null] 6)) (s₁.setTop (mkF m 1 #[.val (.ref a), .val (.ref b), .val (.int (Int32.ofNat o)), .val (.int (Int32.ofNat len)), .val .null, .unset] [.ref a])) := c1.trans (by
    refine XS.aloadN X0.here hexec rfl (hb hbytes d0) rfl rfl ?_
    exact Steps.refl _)
  obtain ⟨T3, X3, q3, st3⟩ := X0.oinit hexec hown (wks W (objW "java/lang/String" 1)) (g := (mkF m 1 #[.val (.ref a), .val (.ref b), .val (.int (Int32.ofNat o)), .val (.int (Int32.ofNat len)), .val .null, .unset] [.ref a])) rfl (by rw [hml]; rfl) (rest := []) rfl (hb hbytes d1) (W := 0) (by show 2 * 0 + 0 ≤ _; decide) (Nat.le_of_ble_eq_true rfl) (Nat.le_of_ble_eq_true rfl)
  have hh3 := q3.trans hh0
  have c4 : Steps p.tables e below (s₁.setTop (entryFrame m #[.ref a, .ref b, .int (Int32.ofNat o), .int (Int32.ofNat len), .null] 6)) (T3.setTop (mkF m 27 #[.val (.ref a), .val (.ref b), .val (.int (Int32.ofNat o)), .val (.int (Int32.ofNat len)), .val .null, .unset] [])) := (c2.trans (st3 _ (Steps.refl _))).trans (by
    refine XS.iloadN X3.here hexec rfl (hb hbytes d4) rfl ?_
    refine XS.ifYes X3.here hexec rfl (pc0 := 5) rfl (hb hbytes d5) rfl (i0_ne_t (nz32 (by omega) l0)) (by decide) rfl ?_
    exact Steps.refl _)
  obtain ⟨T5, X5, q5, st5⟩ := X3.sget hexec hown (wk W (.fieldLink "java/lang/String" 38 "java/lang/String" "COMPACT_STRINGS" "Z")) s1 (fun _ _ h => by rw [hh3]; exact h) (g := (mkF m 27 #[.val (.ref a), .val (.ref b), .val (.int (Int32.ofNat o)), .val (.int (Int32.ofNat len)), .val .null, .unset] [])) rfl (hb hbytes d27)
  have hh5 := q5.trans hh3
  have c6 : Steps p.tables e below (s₁.setTop (entryFrame m #[.ref a, .ref b, .int (Int32.ofNat o), .int (Int32.ofNat len), .null] 6)) (T5.setTop (mkF m 30 #[.val (.ref a), .val (.ref b), .val (.int (Int32.ofNat o)), .val (.int (Int32.ofNat len)), .val .null, .unset] [.int z])) := c4.trans (st5 _ (Steps.refl _))
  have c7 : Steps p.tables e below (s₁.setTop (entryFrame m #[.ref a, .ref b, .int (Int32.ofNat o), .int (Int32.ofNat len), .null] 6)) (T5.setTop (mkF m 36 #[.val (.ref a), .val (.ref b), .val (.int (Int32.ofNat o)), .val (.int (Int32.ofNat len)), .val .null, .unset] [.int (Int32.ofNat len), .int (Int32.ofNat o), .ref b])) := c6.trans (by
    refine XS.ifNo X5.here hexec rfl (hb hbytes d30) rfl (i0_eq_f hz) ?_
    refine XS.aloadN X5.here hexec rfl (hb hbytes d33) rfl rfl ?_
    refine XS.iloadN X5.here hexec rfl (hb hbytes d34) rfl ?_
    refine XS.iloadN X5.here hexec rfl (hb hbytes d35) rfl ?_
    exact Steps.refl _)
  obtain ⟨v8, T8, X8, E8, g8⟩ := X5.callS hexec (Cmp3.law l b A o len) hown (wks W (staticW "java/lang/String" 177 Cmp3.yN)) (wk W Cmp3.tab) (W := 0) (Nat.le_of_ble_eq_true rfl) (Nat.le_of_ble_eq_true rfl) (Nat.le_refl _) (by show 0 + len ≤ len; omega) (g := (mkF m 36 #[.val (.ref a), .val (.ref b), .val (.int (Int32.ofNat o)), .val (.int (Int32.ofNat len)), .val .null, .unset] [.int (Int32.ofNat len), .int (Int32.ofNat o), .ref b])) rfl (by rw [hml]; rfl) c7 (argsL := [.ref b, .int (Int32.ofNat o), .int (Int32.ofNat len)]) (rest := []) rfl rfl (by show 2 * 0 + 0 ≤ _; decide) (hb hbytes d36) (⟨rfl, hA.mv X5.warmed.alike hh5, l1, l2, hp⟩)
  obtain ⟨e8, z8⟩ := E8
  obtain ⟨rfl, N, n1, n2, n3, n4, n5, n6⟩ := NewArr.mv _ T5 s _ _ hh5.symm (Vm.Alike.refl _) rfl e8
  rw [hh5] at z8
  have hB1 := hB.keep X8.warmed.alike (n6 _ _ hB.1)
  have hne : s.heap.size ≠ a := (Nat.ne_of_lt (Array.getElem?_eq_some_iff.mp hB.1).1).symm
  have c9 : Steps p.tables e below (s₁.setTop (entryFrame m #[.ref a, .ref b, .int (Int32.ofNat o), .int (Int32.ofNat len), .null] 6)) (T8.setTop (mkF m 39 #[.val (.ref a), .val (.ref b), .val (.int (Int32.ofNat o)), .val (.int (Int32.ofNat len)), .val .null, .unset] [.ref s.heap.size])) := g8
  have c10 : Steps p.tables e below (s₁.setTop (entryFrame m #[.ref a, .ref b, .int (Int32.ofNat o), .int (Int32.ofNat len), .null] 6)) (T8.setTop (mkF m 45 #[.val (.ref a), .val (.ref b), .val (.int (Int32.ofNat o)), .val (.int (Int32.ofNat len)), .val .null, .val (.ref s.heap.size)] [.int (Int32.ofNat N.slots.size), .ref s.heap.size, .ref a])) := by
    have hc : Steps p.tables e below (s₁.setTop (entryFrame m #[.ref a, .ref b, .int (Int32.ofNat o), .int (Int32.ofNat len), .null] 6)) (T8.setTop (mkF m 45 #[.val (.ref a), .val (.ref b), .val (.int (Int32.ofNat o)), .val (.int (Int32.ofNat len)), .val .null, .val (.ref s.heap.size)] [.int (Int32.ofNat len), .ref s.heap.size, .ref a])) := c9.trans (by
      refine XS.astore X8.here hexec rfl (hb hbytes d39) rfl rfl rfl ?_
      refine XS.aloadN X8.here hexec rfl (hb hbytes d41) rfl rfl ?_
      refine XS.aload X8.here hexec rfl (hb hbytes d42) rfl rfl ?_
      refine XS.iloadN X8.here hexec rfl (hb hbytes d44) rfl ?_
      exact Steps.refl _)
    rw [n4]; exact hc
  obtain ⟨v11, T11, X11, E11, g11⟩ := X8.callS hexec (CodL.law l s.heap.size N) hown (wks W (staticW "java/lang/String" 47 CodL.yN)) (wk W CodL.tab) (W := 1) (Nat.le_of_ble_eq_true rfl) (Nat.le_of_ble_eq_true rfl) (Nat.le_refl _) (by show 0 + len + 0 ≤ len; omega) (g := (mkF m 45 #[.val (.ref a), .val (.ref b), .val (.int (Int32.ofNat o)), .val (.int (Int32.ofNat len)), .val .null, .val (.ref s.heap.size)] [.int (Int32.ofNat N.slots.size), .ref s.heap.size, .ref a])) rfl (by rw [hml]; rfl) c10 (argsL := [.ref s.heap.size, .int (Int32.ofNat N.slots.size)]) (rest := [.ref a]) rfl rfl (by show 2 * 0 + (1 + 0) ≤ _; decide) (hb hbytes d45) (⟨rfl, n1⟩)
  obtain ⟨rfl, q11⟩ := E11
  have hB11 := hB1.mv (X8.warmed.alike.symm.trans X11.warmed.alike) q11
  have c12 : Steps p.tables e below (s₁.setTop (entryFrame m #[.ref a, .ref b, .int (Int32.ofNat o), .int (Int32.ofNat len), .null] 6)) (T11.setTop (mkF m 48 #[.val (.ref a), .val (.ref b), .val (.int (Int32.ofNat o)), .val (.int (Int32.ofNat len)), .val .null, .val (.ref s.heap.size)] [.int 0, .ref a])) := g11
  obtain ⟨T13, X13, p13, bl13, sl13, st13⟩ := X11.finit hexec hown (wk W (.fieldLink "java/lang/String" 15 "java/lang/String" "coder" "B")) (Or.inr ⟨_, (wk W (.laysFinal "java/lang/String" "java/lang/String" "coder" "B"))⟩) (Or.inl ⟨rfl, hnm⟩) f2 (Or.inl rfl) hB11 (t := .byte) (by decide +kernel) rfl (g := (mkF m 48 #[.val (.ref a), .val (.ref b), .val (.int (Int32.ofNat o)), .val (.int (Int32.ofNat len)), .val .null, .val (.ref s.heap.size)] [.int 0, .ref a])) rfl (rest := []) rfl (hb hbytes d48)
  have c14 : Steps p.tables e below (s₁.setTop (entryFrame m #[.ref a, .ref b, .int (Int32.ofNat o), .int (Int32.ofNat len), .null] 6)) (T13.setTop (mkF m 54 #[.val (.ref a), .val (.ref b), .val (.int (Int32.ofNat o)), .val (.int (Int32.ofNat len)), .val .null, .val (.ref s.heap.size)] [.ref s.heap.size, .ref a])) := (c12.trans (st13 _ (Steps.refl _))).trans (by
    refine XS.aloadN X13.here hexec rfl (hb hbytes d51) rfl rfl ?_
    refine XS.aload X13.here hexec rfl (hb hbytes d52) rfl rfl ?_
    exact Steps.refl _)
  obtain ⟨T15, X15, p15, bl15, sl15, st15⟩ := X13.finit hexec hown (wk W (.fieldLink "java/lang/String" 9 "java/lang/String" "value" "[B")) (Or.inr ⟨_, (wk W (.laysFinal "java/lang/String" "java/lang/String" "value" "[B"))⟩) (Or.inl ⟨rfl, hnm⟩) f1 (Or.inl rfl) bl13 (t := (.array .byte)) (by decide +kernel) rfl (g := (mkF m 54 #[.val (.ref a), .val (.ref b), .val (.int (Int32.ofNat o)), .val (.int (Int32.ofNat len)), .val .null, .val (.ref s.heap.size)] [.ref s.heap.size, .ref a])) rfl (rest := []) rfl (hb hbytes d54)
  have c16 : Steps p.tables e below (s₁.setTop (entryFrame m #[.ref a, .ref b, .int (Int32.ofNat o), .int (Int32.ofNat len), .null] 6)) (T15.setTop (mkF m 57 #[.val (.ref a), .val (.ref b), .val (.int (Int32.ofNat o)), .val (.int (Int32.ofNat len)), .val .null, .val (.ref s.heap.size)] [])) := c14.trans (st15 _ (Steps.refl _))
  have ap := apart (Or.inr ⟨_, (wk W (.laysFinal "java/lang/String" "java/lang/String" "value" "[B"))⟩) (Or.inr ⟨_, (wk W (.laysFinal "java/lang/String" "java/lang/String" "coder" "B"))⟩) f1 f2 (t₁ := .array .byte) (t₂ := .byte) (by decide +kernel) (by decide +kernel) (by decide)
  have al := X8.warmed.alike.symm.trans X15.warmed.alike
  have n7 : T11.heap[s.heap.size]? = some N := by rw [q11]; exact n1.1
  exact ⟨T15, none, _, _, _, X15, by simp, rfl, by omega, (fun _ => rfl), ⟨rfl, _, N, bl15, ((Same.refl D _).set _ (by simp)).set _ (by simp), sl15, (Cell.slots_setSlot_ne _ ap).trans sl13, n1.keep al (p15.other hne (p13.other hne n7)), n2, by rw [al.findClass]; exact n3, n4, n5, fun y c h1 h2 => p15.other h1 (p13.other h1 (by rw [q11]; exact n6 y c h2)), by rw [p15.2.2, p13.2.2, q11]; exact z8⟩, fun fs hl => c16.trans (X15.returnOut hexec hret (hb hbytes d57) hl)⟩
end New4
namespace New1
def yN : MethodName := ⟨"java/lang/String", "<init>", "([C)V"⟩
abbrev yB : ByteArray := jdk_42_method_3_code
theorem d0 : decode yB 0 = .ok (.aload_n 0, 1) := by decide +kernel
theorem d1 : decode yB 1 = .ok (.aload_n 1, 1) := by decide +kernel
theorem d2 : decode yB 2 = .ok (.iconst 0, 1) := by decide +kernel
theorem d3 : decode yB 3 = .ok (.aload_n 1, 1) := by decide +kernel
theorem d4 : decode yB 4 = .ok (.arraylength, 1) := by decide +kernel
theorem d5 : decode yB 5 = .ok (.aconst_null, 1) := by decide +kernel
theorem d6 : decode yB 6 = .ok (.invokespecial 27, 3) := by decide +kernel
theorem d9 : decode yB 9 = .ok (.return_, 1) := by decide +kernel
def site : List Cond := [New4.tab] ++ initW "java/lang/String" 27 New4.yN
def tab : Cond := tabOf yN yB 2 none site
def P (a : Addr) (D : Cell) (fV fC : Field) (b : Addr) (A : Cell) (z : Int32) (args : Array Value) (s : State) : Prop := args = #[.ref a, .ref b] ∧ Blank "java/lang/String" a D s ∧ Found "java/lang/String" "value" "[B" fV s ∧ Found "java/lang/String" "coder" "B" fC s ∧ Ch b A s ∧ StaticIs s "java/lang/String" "COMPACT_STRINGS" "Z" (.int z) ∧ ¬ z = 0 ∧ 0 < A.slots.size ∧ A.slots.size ≤ 536870912 ∧ ∀ i, i < A.slots.size → ¬ 255 < cv A i
def E (a : Addr) (D : Cell) (fV fC : Field) (A : Cell) (r : Option Value) (s u : State) : Prop := Got a D fV fC A 0 A.slots.size r s u
/-- new String(chars), not empty, no char above 255: a Latin-1 String of their low bytes -/
theorem law (l : Launch) (a : Addr) (D : Cell) (fV fC : Field) (b : Addr) (A : Cell) (z : Int32) : Law l yN 2 1 3 52 yB 2 none site (P a D fV fC b A z) (E a D fV fC A) [⟨a, fC.slot⟩, ⟨a, fV.slot⟩] 1 A.slots.size := by
  refine Law.of_walk (plainFor_of_name (by decide +kernel)) (by decide +kernel) (by decide +kernel) (by decide) (fun _ _ h => by rw [h.1]; rfl) (fun _ U U' hal hh h => ⟨h.1, h.2.1.mv hal hh, h.2.2.1.al hal, h.2.2.2.1.al hal, h.2.2.2.2.1.mv hal hh, h.2.2.2.2.2.1.there hal hh, h.2.2.2.2.2.2⟩) (fun r U U' V V' h1 hal h2 h => Got.mv r U U' V V' h1 hal h2 h) ?_
  intro p e s m args below meth c s₁ X0 hexec hbytes hml hret hlk hnm hown hh0 W hP
  obtain ⟨rfl, hB, f1, f2, hA, s1, hz, l0, l2, hp⟩ := hP
  have c1 : Steps p.tables e below (s₁.setTop (entryFrame m #[.ref a, .ref b] 2)) (s₁.setTop (mkF m 0 #[.val (.ref a), .val (.ref b)] [])) := entry rfl
  have c2 : Steps p.tables e below (s₁.setTop (entryFrame m #[.ref a, .ref b] 2)) (s₁.setTop (mkF m 6 #[.val (.ref a), .val (.ref b)] [.null, .int (Int32.ofNat A.slots.size), .int 0, .ref b, .ref a])) := c1.trans (by
    refine XS.aloadN X0.here hexec rfl (hb hbytes d0) rfl rfl ?_
    refine XS.aloadN X0.here hexec rfl (hb hbytes d1) rfl rfl ?_
    refine iconstV X0.here hexec rfl 0 (hb hbytes d2) (by decide) ?_
    refine XS.aloadN X0.here hexec rfl (hb hbytes d3) rfl rfl ?_
    refine X0.alen hexec (hA.1.mv X0.warmed.alike hh0) rfl rfl (hb hbytes d4) ?_
    refine XS.aconstNull X0.here hexec rfl (hb hbytes d5) ?_
    exact Steps.refl _)
  obtain ⟨v3, T3, X3, E3, g3⟩ := X0.callN hexec (New4.law l a D fV fC b A z 0 A.slots.size) rfl hown (wks W (initW "java/lang/String" 27 New4.yN)) (W New4.tab (by simp only [site, List.mem_cons, List.mem_append, true_or, or_true])) (W := 0) (Nat.le_of_ble_eq_true rfl) (Nat.le_of_ble_eq_true rfl) (Nat.le_refl _) (by show 0 + A.slots.size ≤ A.slots.size; omega) (g := (mkF m 6 #[.val (.ref a), .val (.ref b)] [.null, .int (Int32.ofNat A.slots.size), .int (Int32.ofNat 0), .ref b, .ref a])) rfl (by rw [hml]; rfl) c2 (argsL := [.ref b, .int (Int32.ofNat 0), .int (Int32.ofNat A.slots.size), .null]) (rest := []) rfl rfl (by show 2 * 0 + 0 ≤ _; decide) (hb hbytes d6) (⟨rfl, hB.mv X0.warmed.alike hh0, f1.al X0.warmed.alike, f2.al X0.warmed.alike, hA.mv X0.warmed.alike hh0, s1.there X0.warmed.alike hh0, hz, l0, by omega, l2, fun i hi => by rw [Nat.zero_add]; exact hp i hi⟩)
  have e0 := Got.mv _ s₁ s _ _ hh0.symm (Vm.Alike.refl _) rfl E3
  obtain rfl := e0.1
  have c4 : Steps p.tables e below (s₁.setTop (entryFrame m #[.ref a, .ref b] 2)) (T3.setTop (mkF m 9 #[.val (.ref a), .val (.ref b)] [])) := g3
  exact ⟨T3, none, _, _, _, X3, by simp, rfl, by omega, (fun _ => rfl), e0, fun fs hl => c4.trans (X3.returnOut hexec hret (hb hbytes d9) hl)⟩
theorem pays {l : Launch} {R : Room} {p : Program} {e : Env} {below : List Frame} {s : State} {sargs : Array Value} {len W : Nat} (a : Addr) (D : Cell) (fV fC : Field) (b : Addr) (A : Cell) (z : Int32) (htab : tab.before sargs s = true) (hfr : 4 ≤ R.frames) (hlo : W + 65 ≤ R.locals) :
    Back l R p e below s sargs yN len W (fun A₁ a₁ => A₁.cells + 1 ≤ R.cells ∧ A₁.slots + A.slots.size ≤ R.slots ∧ P a D fV fC b A z a₁ A₁.U) (fun A₁ _ v₁ B₁ => E a D fV fC A v₁ A₁.U B₁.U ∧ B₁.locs = A₁.locs ++ [⟨a, fC.slot⟩, ⟨a, fV.slot⟩] ∧ B₁.cells = A₁.cells + 1 ∧ B₁.slots = A₁.slots + A.slots.size) :=
  (law l a D fV fC b A z).pays htab hfr (by omega)
end New1
end StrChars
namespace StrChars.Road
open Jvm Sem ClassFile Op Lib Jvm.Stand Jvm.Free Jvm.Free.XT
open Jvm.Lib.Cold (StaticIs)
abbrev ST : String := "java/lang/String"
/-- every table word that New1's law asks, flat -/
abbrev words : List Jvm.Cond := [.code New1.yN New1.yB 2 none, .initialized ST, .methodLink ST 27 New4.yN, .instanceMethod New4.yN,
  .code New4.yN New4.yB 6 none, .fieldLink ST 38 ST "COMPACT_STRINGS" "Z", .laysFinal ST ST "value" "[B", .fieldLink ST 9 ST "value" "[B", .laysFinal ST ST "coder" "B", .fieldLink ST 15 ST "coder" "B",
  .methodLink ST 1 Lib.objectInit, .instanceMethod Lib.objectInit, .code Lib.objectInit ⟨#[0xb1]⟩ 1 none, .methodLink ST 177 Cmp3.yN, .static Cmp3.yN, .methodLink ST 47 CodL.yN, .static CodL.yN,
  .code Cmp3.yN Cmp3.yB 6 (some (.array .byte)), .initialized U16, .arrayClass .byte, .methodLink U16 115 Cmp5.yN, .static Cmp5.yN, .code Cmp5.yN Cmp5.yB 7 (some .int), .code CodL.yN CodL.yB 2 (some .byte)]
theorem tab_of {a : Array Value} {s : State} (h : ∀ w ∈ words, w.before a s = true) : New1.tab.before a s = true := by
  have h5 : Cmp5.tab.before a s = true := unparts (wk h (.code Cmp5.yN Cmp5.yB 7 (some .int))) (wks h (.initialized Cmp5.yN.cls :: Cmp5.site))
  have hc : CodL.tab.before a s = true := unparts (wk h (.code CodL.yN CodL.yB 2 (some .byte))) (wks h (.initialized CodL.yN.cls :: CodL.site))
  have q5 : ∀ w ∈ Cmp5.tab :: words, w.before a s = true := fun w hw => (List.mem_cons.mp hw).elim (fun e => e ▸ h5) (h w)
  have h3 : Cmp3.tab.before a s = true := unparts (wk q5 (.code Cmp3.yN Cmp3.yB 6 (some (.array .byte)))) (wks q5 (.initialized Cmp3.yN.cls :: Cmp3.site))
  have q3 : ∀ w ∈ Cmp3.tab :: CodL.tab :: words, w.before a s = true := fun w hw => (List.mem_cons.mp hw).elim (fun e => e ▸ h3) fun hw => (List.mem_cons.mp hw).elim (fun e => e ▸ hc) (h w)
  have h4 : New4.tab.before a s = true := unparts (wk q3 (.code New4.yN New4.yB 6 none)) (wks q3 (.initialized New4.yN.cls :: New4.site))
  have q4 : ∀ w ∈ New4.tab :: words, w.before a s = true := fun w hw => (List.mem_cons.mp hw).elim (fun e => e ▸ h4) (h w)
  exact unparts (wk q4 (.code New1.yN New1.yB 2 none)) (wks q4 (.initialized New1.yN.cls :: New1.site))
/-- the words ride from the start Z to the walk's own state -/
theorem moved {Z s : State} {a0 args : Array Value} (hZ : Z.Warmed39 s.vm) (hw : ∀ d ∈ words, d.before a0 Z = true) : ∀ d ∈ words, d.before args s = true := fun d hd => by
  have q := hw d hd
  have t : ∀ d ∈ words, d = .arrayClass .byte ∨ (d.onTables && d.keepsFace) = true := by decide +kernel
  rcases t d hd with rfl | t
  · exact RoadKit.mvA hZ q
  · exact RoadKit.mv hZ q t
/-- WHAT COMES BACK, over the tables of the start Z: h the heap at the call, h' behind it -/
def Q (Z : State) (x : Addr) (A : Cell) (h : Heap) (v : Option Value) (h' : Heap) (L : List Loc) : Prop := v = none ∧ (∀ y ∈ L, y.base = x) ∧ RoadKit.Keep h h' [x] ∧ h'.size = h.size + 1 ∧ RoadKit.Exa Z h' x ST ∧ RoadKit.Fld Z h' x ST "value" "[B" (.ref h.size) ∧ RoadKit.Fld Z h' x ST "coder" "B" (.int 0) ∧
  (∃ V : Cell, RoadKit.Arr Z h' h.size V .byte ∧ V.vm = .none ∧ Z.vm.findClass "[B" = some V.cls ∧ V.slots.size = A.slots.size ∧ ∀ j, j < A.slots.size → V.slots[j]? = some (.int (lo8 (cv A j)))) ∧
  ∀ (O n d : String) (w : Value), RoadKit.Fld Z h x O n d w → RoadKit.slotOf Z O n d ≠ RoadKit.slotOf Z ST "value" "[B" → RoadKit.slotOf Z O n d ≠ RoadKit.slotOf Z ST "coder" "B" → RoadKit.Fld Z h' x O n d w
/-- **new String(chars) AT A CALL, IN THE ROAD'S FORM**: for specialBack behind newO: x the fresh String, b the char[] with the cell A -/
theorem back {p : Program} {l : Launch} {e : Env} {R : Room} {s : State} {args : Array Value} {below : List Frame} {len W : Nat} {Z : State} {a0 : Array Value} {h : Heap} (hZ : Z.Warmed39 s.vm) (hw : ∀ d ∈ words, d.before a0 Z = true) {kI : Nat} (wi : (Jvm.Cond.instantiable ST kI).before a0 Z = true)
    {x b : Addr} {A : Cell} {z : Int32} {v0 c0 : Value} (E : RoadKit.Exa Z h x ST) (V : RoadKit.Fld Z h x ST "value" "[B" v0) (C : RoadKit.Fld Z h x ST "coder" "B" c0) (K : RoadKit.Arr Z h b A .char) (hty : Typed .char A) (S : RoadKit.Sta Z h ST "COMPACT_STRINGS" "Z" (.int z)) (hz : ¬ z = 0)
    (l0 : 0 < A.slots.size) (l2 : A.slots.size ≤ 536870912) (hp : ∀ i, i < A.slots.size → ¬ 255 < cv A i) (hfr : 4 ≤ R.frames) (hlo : W + 65 ≤ R.locals) :
    Back l R p e below s args New1.yN len W (fun P a => a = #[.ref x, .ref b] ∧ P.U.heap = h ∧ P.cells + 1 ≤ R.cells ∧ P.slots + A.slots.size ≤ R.slots)
      (fun P _ v B => ∃ L, Q Z x A h v B.U.heap L ∧ B.locs = P.locs ++ L ∧ B.cells = P.cells + 1 ∧ B.slots = P.slots + A.slots.size) := by
  intro m meth c P g ig mk a X hg hsize hdg hW hn hp'
  obtain ⟨rfl, rfl, r1, r2⟩ := hp'
  have al : Z.vm.Alike P.U.vm := hZ.alike.trans X.warmed.alike
  obtain ⟨D, cfV, kV, iV, fV, hD, gV, stV, knV, obV, asV, slV⟩ := id V
  obtain ⟨D', cfC, kC, iC, fC, hD', gC, stC, -, -, asC, slC⟩ := id C
  cases hD.symm.trans hD'
  obtain ⟨D2, kD, e1, e2, e3, e4, e5⟩ := id E
  cases hD.symm.trans e1
  obtain ⟨c2, k2, i1, i2, i3, -⟩ := Cond.instantiable_spec wi
  cases e2.symm.trans i1
  cases e3.symm.trans i2
  obtain ⟨kU, u1, u2⟩ := al.2.2 _ _ e3
  have hB : Blank ST x D P.U := ⟨hD, ⟨knV, fun q hq => by rw [hq] at obV; cases obV⟩, by rw [al.findClass]; exact e2, kU, u1, by rw [u2]; exact i3, by rw [u2]; exact e5 i3⟩
  have F1 : Found ST "value" "[B" fV P.U := ⟨SBG.found_only al ⟨cfV, kV, iV, gV⟩, stV⟩
  have F2 : Found ST "coder" "B" fC P.U := ⟨SBG.found_only al ⟨cfC, kC, iC, gC⟩, stC⟩
  have hA : Ch b A P.U := ⟨⟨K.1, State.isArrayOf_alike al K.2.1, K.2.2, by omega⟩, hty⟩
  have hS : StaticIs P.U ST "COMPACT_STRINGS" "Z" (.int z) := by
    obtain ⟨cfS, iS, kS, fS, st, cS, t1, t2, t3, t4, t5, t6, t7⟩ := S
    exact StaticIs.there (s := { Z with heap := P.U.heap }) ⟨cfS, iS, kS, fS, st, cS, t1, t2, t3, t4, t5, (fun q => by rw [q] at t6; cases t6), t7⟩ al rfl
  obtain ⟨v, B, X', ⟨⟨hv, E', V', q1, q2, q3, q4, q5, q6, q7, q8, q9, q10, q11⟩, hl, hc, hs⟩, st⟩ := New1.pays x D fV fC b A z (tab_of (moved hZ hw)) hfr hlo m meth c P g ig mk _ X hg hsize hdg hW hn ⟨r1, r2, rfl, hB, F1, F2, hA, hS, hz, l0, l2, hp⟩
  have al' : Z.vm.Alike B.U.vm := hZ.alike.trans X'.warmed.alike
  have hsz : E'.slots.size = D.slots.size := by
    obtain ⟨-, -, -, kB, w1, w2, w3⟩ := q1
    obtain ⟨kB', y1, y2⟩ := al'.2.2 _ _ e3
    rw [q2.2.1] at w1
    cases w1.symm.trans y1
    rw [w3, e5 i3, y2]
  refine ⟨v, B, X', ⟨_, ⟨hv, ?_, ⟨by omega, fun y cy hy hn' => q10 y cy (by simpa using hn') hy, fun y cy hy => ?_⟩, q11, ⟨E', _, q1.1, by rw [q2.2.1]; exact e2, by rw [q2.2.1]; exact e3, by rw [q2.1]; exact obV, fun _ => by rw [hsz]; exact e5 i3⟩,
    ⟨E', cfV, kV, iV, fV, q1.1, gV, stV, by rw [q2.1]; exact knV, by rw [q2.1]; exact obV, by rw [q2.2.1]; exact asV, q3⟩, ⟨E', cfC, kC, iC, fC, q1.1, gC, stC, by rw [q2.1]; exact knV, by rw [q2.1]; exact obV, by rw [q2.2.1]; exact asC, q4⟩,
    ⟨V', ⟨q5.1, State.isArrayOf_alike al'.symm q5.2.1, q5.2.2.1⟩, q6, by rw [← al'.findClass]; exact q7, q8, fun j hj => by have := q9 j hj; rwa [Nat.zero_add] at this⟩, fun O n d w F n1 n2 => ?_⟩, hl, hc, hs⟩, st⟩
  · intro y hy
    simp only [List.mem_cons, List.not_mem_nil, or_false] at hy
    rcases hy with rfl | rfl <;> rfl
  · by_cases q : y = x
    · subst q
      cases hD.symm.trans hy
      exact ⟨E', q1.1, q2.2.1, q2.1, hsz⟩
    · exact ⟨cy, q10 y cy q hy, rfl, rfl, rfl⟩
  · obtain ⟨D3, cf, k, i, f, g1, g2, g3, g4, g5, g6, g7⟩ := F
    cases hD.symm.trans g1
    simp only [RoadKit.slotOf, g2, gV, gC, Option.map_some, Option.getD_some] at n1 n2
    exact ⟨E', cf, k, i, f, q1.1, g2, g3, by rw [q2.1]; exact g4, by rw [q2.1]; exact g5, by rw [q2.2.1]; exact g6, by rw [q2.2.2 f.slot (by simp [n1, n2])]; exact g7⟩
end StrChars.Road
namespace StrChars.Road
open Jvm Sem ClassFile Op Lib Jvm.Stand Jvm.Free Jvm.Free.XT
/-- WHAT COMES BACK, the byte[] as a list of values -/
def QA (Z : State) (x : Addr) (zn : Int32) (cs : List Int32) (h : Heap) (v : Option Value) (h' : Heap) (L : List Loc) : Prop := v = none ∧ (∀ y ∈ L, y.base = x) ∧ RoadKit.Keep h h' [x] ∧ h'.size = h.size + 1 ∧ RoadKit.Exa Z h' x ST ∧ RoadKit.Fld Z h' x ST "value" "[B" (.ref h.size) ∧ RoadKit.Fld Z h' x ST "coder" "B" (.int 0) ∧
  (∃ kb, Z.vm.findClass "[B" = some kb ∧ RoadKit.Arv Z h' h.size kb .byte zn (cs.map fun c => .int (lo8 c)) (.int 0)) ∧
  ∀ (O n d : String) (w : Value), RoadKit.Fld Z h x O n d w → RoadKit.slotOf Z O n d ≠ RoadKit.slotOf Z ST "value" "[B" → RoadKit.slotOf Z O n d ≠ RoadKit.slotOf Z ST "coder" "B" → RoadKit.Fld Z h' x O n d w
/-- **new String(chars) AT A CALL, THE ARRAYS AS LISTS**: the char[] at b holds cs, not empty, no char above 255 -/
theorem backArv {p : Program} {l : Launch} {e : Env} {R : Room} {s : State} {args : Array Value} {below : List Frame} {len W : Nat} {Z : State} {a0 : Array Value} {h : Heap} (hZ : Z.Warmed39 s.vm) (hw : ∀ d ∈ words, d.before a0 Z = true) {kI : Nat} (wi : (Jvm.Cond.instantiable ST kI).before a0 Z = true)
    {x b : Addr} {k : ClassId} {zn z : Int32} {cs : List Int32} {dv v0 c0 : Value} (E : RoadKit.Exa Z h x ST) (V : RoadKit.Fld Z h x ST "value" "[B" v0) (C : RoadKit.Fld Z h x ST "coder" "B" c0) (K : RoadKit.Arv Z h b k .char zn (cs.map Value.int) dv) (S : RoadKit.Sta Z h ST "COMPACT_STRINGS" "Z" (.int z)) (hz : ¬ z = 0)
    (hlen : zn.toNatClampNeg = cs.length) (h0 : 0 < cs.length) (hbig : cs.length ≤ 536870912) (hall : ∀ c ∈ cs, ¬ 255 < c) (hfr : 4 ≤ R.frames) (hlo : W + 65 ≤ R.locals) :
    Back l R p e below s args New1.yN len W (fun P a => a = #[.ref x, .ref b] ∧ P.U.heap = h ∧ P.cells + 1 ≤ R.cells ∧ P.slots + cs.length ≤ R.slots)
      (fun P _ v B => ∃ L, QA Z x zn cs h v B.U.heap L ∧ B.locs = P.locs ++ L ∧ B.cells = P.cells + 1 ∧ B.slots = P.slots + cs.length) := by
  obtain ⟨A, K1, K2, K3, K4, K5, K6⟩ := K
  have e : A.slots.size = cs.length := K3.trans hlen
  have hat : ∀ (i : Nat) (hi : i < cs.length), A.slots[i]? = some (.int cs[i]) := fun i hi => by rw [K5 i (by omega)]; simp [List.getD_eq_getElem?_getD, hi]
  have hcv : ∀ (i : Nat) (hi : i < cs.length), cv A i = cs[i] := fun i hi => by unfold cv; rw [hat i hi]
  have hty : Typed .char A := fun i v hv => by
    have hi : i < A.slots.size := (Array.getElem?_eq_some_iff.mp hv).1
    have q := K5 i hi
    rw [hv] at q
    rw [Option.some.inj q]
    exact K6 i hi
  refine Back.mono (back hZ hw wi E V C K1 hty S hz (by omega) (by omega) (fun i hi => by rw [hcv i (by omega)]; exact hall _ (List.getElem_mem _)) hfr hlo) (fun P a hp => ⟨hp.1, hp.2.1, hp.2.2.1, by rw [e]; exact hp.2.2.2⟩) (fun P a v B hp hq => ?_)
  obtain ⟨L, ⟨q1, q2, q3, q4, q5, q6, q7, ⟨V', v1, v2, v3, v4, v5⟩, q9⟩, hl, hc, hs⟩ := hq
  refine ⟨L, ⟨q1, q2, q3, q4, q5, q6, q7, ⟨V'.cls, v3, V', v1, rfl, by rw [v4, e, hlen], K4, fun i hi => ?_, fun i hi => ?_⟩, q9⟩, hl, hc, by rw [hs, e]⟩
  · have hi' : i < cs.length := by omega
    rw [v5 i (by omega), hcv i hi']; simp [List.getD_eq_getElem?_getD, hi']
  · have hi' : i < cs.length := by omega
    simp only [List.getD_eq_getElem?_getD, List.getElem?_map, List.getElem?_eq_getElem hi', Option.map_some, Option.getD_some]
    exact fits_lo8 _
end StrChars.Road
namespace StrChars.Road
open Jvm Sem ClassFile Op Lib Jvm.Stand Jvm.Free Jvm.Free.XT
/-- WHAT COMES BACK, in the writer's own shape -/
def QV (Z : State) (x : Addr) (N : Int32) (bs : List Int32) (h : Heap) (n0 : Nat) (v : Option Value) (h' : Heap) (L : List Loc) : Prop := v = none ∧ RoadKit.Fr n0 L ∧ RoadKit.Keep h h' [x] ∧ RoadKit.Exa Z h' x ST ∧ RoadKit.Fld Z h' x ST "coder" "B" (.int 0) ∧
  ∃ (t : Addr) (kb : ClassId), n0 ≤ t ∧ h.size ≤ t ∧ ¬ t = x ∧ RoadKit.Fld Z h' x ST "value" "[B" (.ref t) ∧ RoadKit.Arv Z h' t kb .byte N (bs.map Value.int) (.int 0)
/-- **new String(chars) AT A CALL, FOR THE WRITER**: a char[] of n known ints, each 0 to 255 -/
theorem backV {p : Program} {l : Launch} {e : Env} {R : Room} {s : State} {args : Array Value} {below : List Frame} {len W : Nat} {Z : State} {a0 : Array Value} {h : Heap} (hZ : Z.Warmed39 s.vm) (hw : ∀ d ∈ words, d.before a0 Z = true) {kI : Nat} (wi : (Jvm.Cond.instantiable ST kI).before a0 Z = true)
    {x b : Addr} {kC : ClassId} {cs bs : List Int32} {d v0 c0 : Value} {z N : Int32} {n n0 : Nat} (hx0 : n0 ≤ x) (hh0 : n0 ≤ h.size) (E : RoadKit.Exa Z h x ST) (V : RoadKit.Fld Z h x ST "value" "[B" v0) (C : RoadKit.Fld Z h x ST "coder" "B" c0) (K : RoadKit.Arv Z h b kC .char N (cs.map Value.int) d) (S : RoadKit.Sta Z h ST "COMPACT_STRINGS" "Z" (.int z)) (hz : ¬ z = 0)
    (hn : cs.length = n) (hN : N = Int32.ofNat n) (l0 : 0 < n) (l2 : n ≤ 4000) (hp : ∀ c ∈ cs, ¬ c < 0 ∧ ¬ (255 : Int32) < c) (hb : bs = cs.map (fun c => c.toInt8.toInt32)) (hfr : 4 ≤ R.frames) (hlo : W + 65 ≤ R.locals) :
    Back l R p e below s args (⟨"java/lang/String", "<init>", "([C)V"⟩ : MethodName) len W (fun P a => a = #[.ref x, .ref b] ∧ P.U.heap = h ∧ P.cells + 1 ≤ R.cells ∧ P.slots + n ≤ R.slots)
      (fun P _ v B => ∃ L, QV Z x N bs h n0 v B.U.heap L ∧ B.locs = P.locs ++ L ∧ B.cells = P.cells + 1 ∧ B.slots = P.slots + n) := by
  subst hn hN hb
  refine Back.mono (backArv hZ hw wi E V C K S hz (n32 (by omega)) l0 (by omega) (fun c hc => (hp c hc).2) hfr hlo) (fun P a hp => hp) (fun P a v B hp hq => ?_)
  obtain ⟨L, ⟨q1, q2, q3, q4, q5, q6, q7, ⟨kb, v1, v2⟩, q9⟩, hl, hc, hs⟩ := hq
  exact ⟨L, ⟨q1, fun y hy => by rw [q2 y hy]; exact hx0, q3, q5, q7, h.size, kb, hh0, Nat.le_refl _, Nat.ne_of_gt E.lt, q6, by rw [List.map_map]; exact v2⟩, hl, hc, hs⟩
end StrChars.Road
namespace StrChars
open Jvm Sem ClassFile Op Lib Jvm.Stand Jvm.Free.XT Jvm.Free.ALB Jvm.Free.JM Jvm.Free
open Jvm.Lib.Cold (StaticIs)
def hi8 (x : Int32) : Int32 := lo8 (x >>> ((8 : Int32) &&& 31))
theorem shr0 (c : Int32) : c >>> ((0 : Int32) &&& 31) = c := by
  have e : ((0 : Int32) &&& 31) = 0 := by decide
  rw [e]
  apply Int32.toBitVec_inj.mp
  rw [Int32.toBitVec_shiftRight]
  have e1 : ((0 : Int32).toBitVec.smod 32) = 0#32 := by decide
  rw [e1, BitVec.sshiftRight_eq']
  exact BitVec.sshiftRight_zero
end StrChars
namespace StrChars
open Jvm Sem ClassFile Op Lib Jvm.Stand Jvm.Free.XT Jvm.Free.ALB Jvm.Free.JM Jvm.Free
open Jvm.Lib.Cold (StaticIs)
theorem shr1 {n : Nat} (h : 2 * n < 2 ^ 31) : Int32.ofNat (2 * n) >>> ((1 : Int32) &&& 31) = Int32.ofNat n := by
  have e : ((1 : Int32) &&& 31) = 1 := by decide
  rw [e]
  apply Int32.toBitVec_inj.mp
  rw [Int32.toBitVec_shiftRight]
  have e1 : ((1 : Int32).toBitVec.smod 32) = 1#32 := by decide
  have hm : (BitVec.ofNat 32 (2 * n)).toNat = 2 * n := by rw [BitVec.toNat_ofNat, Nat.mod_eq_of_lt (by omega)]
  rw [e1, BitVec.sshiftRight_eq']
  apply BitVec.eq_of_toNat_eq
  show ((BitVec.ofNat 32 (2 * n)).sshiftRight 1).toNat = (BitVec.ofNat 32 n).toNat
  rw [BitVec.toNat_sshiftRight_of_msb_false (by rw [BitVec.msb_eq_false_iff_two_mul_lt, hm]; omega), hm, BitVec.toNat_ofNat, Nat.shiftRight_eq_div_pow]
  omega
/-- the array's cell V codes the n chars f 0 .. f (n - 1) by the coder cd, as the JDK does: coder 1 just where some char is above 255 -/
def Cod (cd : Int32) (n : Nat) (f : Nat → Int32) (V : Cell) : Prop := (cd = 0 ∧ V.slots.size = n ∧ ∀ j, j < n → V.slots[j]? = some (.int (lo8 (f j))) ∧ ¬ 255 < f j) ∨ (cd = 1 ∧ V.slots.size = 2 * n ∧ (∀ j, j < n → V.slots[2 * j]? = some (.int (lo8 (f j))) ∧ V.slots[2 * j + 1]? = some (.int (hi8 (f j)))) ∧ ∃ j, j < n ∧ 255 < f j)
theorem Cod.cd {cd : Int32} {n : Nat} {f : Nat → Int32} {V : Cell} (h : Cod cd n f V) : cd = 0 ∨ cd = 1 := h.imp (fun q => q.1) fun q => q.1
theorem Cod.len {cd : Int32} {n : Nat} {f : Nat → Int32} {V : Cell} (h : Cod cd n f V) (hs : V.slots.size < 2 ^ 31) : Int32.ofNat V.slots.size >>> (cd &&& 31) = Int32.ofNat n := by
  rcases h with ⟨rfl, h, -⟩ | ⟨rfl, h, -⟩
  · rw [shr0, h]
  · rw [h, shr1 (by omega)]
/-- **x is a String of the n chars f 0 .. f (n - 1)**, Latin-1 or UTF-16; its array at t has the cell V -/
def Txt (x t : Addr) (V : Cell) (cd : Int32) (n : Nat) (f : Nat → Int32) (U : State) : Prop := Exact "java/lang/String" x U ∧ Has x "java/lang/String" "value" "[B" (.ref t) U ∧ Has x "java/lang/String" "coder" "B" (.int cd) U ∧ XT.Arr .byte t V U ∧ Cod cd n f V ∧ ∀ j, j < n → ¬ f j < 0 ∧ ¬ 65535 < f j
theorem Txt.mv {x t : Addr} {V : Cell} {cd : Int32} {n : Nat} {f : Nat → Int32} {U U' : State} (h : Txt x t V cd n f U) (hal : U.vm.Alike U'.vm) (hh : U'.heap = U.heap) : Txt x t V cd n f U' := ⟨h.1.mv hal hh, h.2.1.mv hal hh, h.2.2.1.mv hal hh, h.2.2.2.1.mv hal hh, h.2.2.2.2⟩
namespace Cdr
def yN : MethodName := ⟨"java/lang/String", "coder", "()B"⟩
abbrev yB : ByteArray := jdk_42_method_152_code
theorem d0 : decode yB 0 = .ok (.getstatic 38, 3) := by decide +kernel
theorem d3 : decode yB 3 = .ok (.ifCond (.eq) 10, 3) := by decide +kernel
theorem d6 : decode yB 6 = .ok (.aload_n 0, 1) := by decide +kernel
theorem d7 : decode yB 7 = .ok (.getfield 15, 3) := by decide +kernel
theorem d10 : decode yB 10 = .ok (.goto 4, 3) := by decide +kernel
theorem d14 : decode yB 14 = .ok (.ireturn, 1) := by decide +kernel
def site : List Cond := [.fieldLink "java/lang/String" 38 "java/lang/String" "COMPACT_STRINGS" "Z", .fieldLink "java/lang/String" 15 "java/lang/String" "coder" "B"]
def tab : Cond := tabOf yN yB 1 (some .byte) site
def P (x : Addr) (cd z : Int32) (args : Array Value) (s : State) : Prop := args = #[.ref x] ∧ Has x "java/lang/String" "coder" "B" (.int cd) s ∧ (cd = 0 ∨ cd = 1) ∧ StaticIs s "java/lang/String" "COMPACT_STRINGS" "Z" (.int z) ∧ ¬ z = 0
def E (cd : Int32) (r : Option Value) (s u : State) : Prop := XT.PureE (some (.int cd)) r s u
theorem law (l : Launch) (x : Addr) (cd z : Int32) : Law l yN 1 0 0 0 yB 1 (some .byte) site (P x cd z) (E cd) [] 0 0 := by
  refine Law.of_walk (plainFor_of_name (by decide +kernel)) (by decide +kernel) (by decide +kernel) (by decide) (fun _ _ h => by rw [h.1]; rfl) (fun _ U U' hal hh h => ⟨h.1, h.2.1.mv hal hh, h.2.2.1, h.2.2.2.1.there hal hh, h.2.2.2.2⟩) (fun r U U' V V' h1 hal h2 h => XT.PureE.mv r U U' V V' h1 hal h2 h) ?_
  intro p e s m args below meth c s₁ X0 hexec hbytes hml hret hlk hnm hown hh0 W hP
  obtain ⟨rfl, hx, hc, s1, hz⟩ := hP
  have c1 : Steps p.tables e below (s₁.setTop (entryFrame m #[.ref x] 1)) (s₁.setTop (mkF m 0 #[.val (.ref x)] [])) := entry rfl
  obtain ⟨T2, X2, q2, st2⟩ := X0.sget hexec hown (wk W (.fieldLink "java/lang/String" 38 "java/lang/String" "COMPACT_STRINGS" "Z")) s1 (fun _ _ h => by rw [hh0]; exact h) (g := (mkF m 0 #[.val (.ref x)] [])) rfl (hb hbytes d0)
  have hh2 := q2.trans hh0
  have c3 : Steps p.tables e below (s₁.setTop (entryFrame m #[.ref x] 1)) (T2.setTop (mkF m 7 #[.val (.ref x)] [.ref x])) := (c1.trans (st2 _ (Steps.refl _))).trans (by
    refine XS.ifNo X2.here hexec rfl (hb hbytes d3) rfl (i0_eq_f hz) ?_
    refine XS.aloadN X2.here hexec rfl (hb hbytes d6) rfl rfl ?_
    exact Steps.refl _)
  obtain ⟨T4, X4, q4, st4⟩ := X2.hget hexec hown (wk W (.fieldLink "java/lang/String" 15 "java/lang/String" "coder" "B")) (hx.mv X2.warmed.alike hh2) (g := (mkF m 7 #[.val (.ref x)] [.ref x])) rfl (rest := []) rfl (hb hbytes d7)
  have c5 : Steps p.tables e below (s₁.setTop (entryFrame m #[.ref x] 1)) (T4.setTop (mkF m 14 #[.val (.ref x)] [.int cd])) := (c3.trans (st4 _ (Steps.refl _))).trans (by
    refine XS.goto X4.here hexec rfl (pc0 := 10) rfl (hb hbytes d10) (by decide) rfl ?_
    exact Steps.refl _)
  exact ⟨T4, some (.int cd), _, _, _, X4, rfl, rfl, rfl, (fun h => by cases h), ⟨rfl, q4.trans hh2⟩, fun fs hl => c5.trans (X4.ireturnOut hexec hret (by rcases hc with rfl | rfl <;> rfl) (Or.inr (Or.inr (Or.inl rfl))) (hb hbytes d14) hl)⟩
end Cdr
namespace Len
def yN : MethodName := ⟨"java/lang/String", "length", "()I"⟩
abbrev yB : ByteArray := jdk_42_method_54_code
theorem d0 : decode yB 0 = .ok (.aload_n 0, 1) := by decide +kernel
theorem d1 : decode yB 1 = .ok (.getfield 9, 3) := by decide +kernel
theorem d4 : decode yB 4 = .ok (.arraylength, 1) := by decide +kernel
theorem d5 : decode yB 5 = .ok (.aload_n 0, 1) := by decide +kernel
theorem d6 : decode yB 6 = .ok (.invokevirtual 335, 3) := by decide +kernel
theorem d9 : decode yB 9 = .ok (.ishr, 1) := by decide +kernel
theorem d10 : decode yB 10 = .ok (.ireturn, 1) := by decide +kernel
def site : List Cond := [.fieldLink "java/lang/String" 9 "java/lang/String" "value" "[B", Cdr.tab] ++ virtW "java/lang/String" 335 "java/lang/String" Cdr.yN Cdr.yN
def tab : Cond := tabOf yN yB 1 (some .int) site
def P (x t : Addr) (V : Cell) (cd : Int32) (n : Nat) (f : Nat → Int32) (z : Int32) (args : Array Value) (s : State) : Prop := args = #[.ref x] ∧ Txt x t V cd n f s ∧ StaticIs s "java/lang/String" "COMPACT_STRINGS" "Z" (.int z) ∧ ¬ z = 0
def E (n : Nat) (r : Option Value) (s u : State) : Prop := XT.PureE (some (.int (Int32.ofNat n))) r s u
/-- length() of a String of n chars, in either coding -/
theorem law (l : Launch) (x t : Addr) (V : Cell) (cd : Int32) (n : Nat) (f : Nat → Int32) (z : Int32) : Law l yN 1 0 1 13 yB 1 (some .int) site (P x t V cd n f z) (E n) [] 0 0 := by
  refine Law.of_walk (plainFor_of_name (by decide +kernel)) (by decide +kernel) (by decide +kernel) (by decide) (fun _ _ h => by rw [h.1]; rfl) (fun _ U U' hal hh h => ⟨h.1, h.2.1.mv hal hh, h.2.2.1.there hal hh, h.2.2.2⟩) (fun r U U' V V' h1 hal h2 h => XT.PureE.mv r U U' V V' h1 hal h2 h) ?_
  intro p e s m args below meth c s₁ X0 hexec hbytes hml hret hlk hnm hown hh0 W hP
  obtain ⟨rfl, hx, s1, hz⟩ := hP
  have v31 := hx.2.2.2.1.2.2.2
  have c1 : Steps p.tables e below (s₁.setTop (entryFrame m #[.ref x] 1)) (s₁.setTop (mkF m 1 #[.val (.ref x)] [.ref x])) := Steps.trans (entry rfl) (by
    show Steps p.tables e below (s₁.setTop (mkF m 0 #[.val (.ref x)] [])) _
    refine XS.aloadN X0.here hexec rfl (hb hbytes d0) rfl rfl ?_
    exact Steps.refl _)
  obtain ⟨T2, X2, q2, st2⟩ := X0.hget hexec hown (wk W (.fieldLink "java/lang/String" 9 "java/lang/String" "value" "[B")) (hx.mv X0.warmed.alike hh0).2.1 (g := (mkF m 1 #[.val (.ref x)] [.ref x])) rfl (rest := []) rfl (hb hbytes d1)
  have hh2 := q2.trans hh0
  have hx2 := hx.mv X2.warmed.alike hh2
  have c3 : Steps p.tables e below (s₁.setTop (entryFrame m #[.ref x] 1)) (T2.setTop (mkF m 6 #[.val (.ref x)] [.ref x, .int (Int32.ofNat V.slots.size)])) := (c1.trans (st2 _ (Steps.refl _))).trans (by
    refine X2.alen hexec hx2.2.2.2.1 rfl rfl (hb hbytes d4) ?_
    refine XS.aloadN X2.here hexec rfl (hb hbytes d5) rfl rfl ?_
    exact Steps.refl _)
  obtain ⟨v4, T4, X4, E4, g4⟩ := X2.callV hexec (Cdr.law l x cd z) hown (wks W (virtW "java/lang/String" 335 "java/lang/String" Cdr.yN Cdr.yN)) rfl (by decide) (wk W Cdr.tab) (W := 1) (Nat.le_of_ble_eq_true rfl) (Nat.le_of_ble_eq_true rfl) (Nat.le_refl _) (Nat.le_refl _) (hx2.1.fc X2.warmed.alike) hx2.1.is (g := (mkF m 6 #[.val (.ref x)] [.ref x, .int (Int32.ofNat V.slots.size)])) rfl (by rw [hml]; rfl) c3 (argsL := []) (rest := [.int (Int32.ofNat V.slots.size)]) rfl rfl (by show 2 * 0 + (1 + 0) ≤ _; decide) (hb hbytes d6) (⟨rfl, hx2.2.2.1, hx.2.2.2.2.1.cd, s1.there X2.warmed.alike hh2, hz⟩)
  obtain ⟨rfl, q4⟩ := E4
  have c5 : Steps p.tables e below (s₁.setTop (entryFrame m #[.ref x] 1)) (T4.setTop (mkF m 10 #[.val (.ref x)] [.int (Int32.ofNat V.slots.size >>> (cd &&& 31))])) := Steps.trans g4 (by
    refine ishr X4.here hexec rfl (hb hbytes d9) rfl ?_
    exact Steps.refl _)
  rw [hx.2.2.2.2.1.len v31] at c5
  exact ⟨T4, some (.int (Int32.ofNat n)), _, _, _, X4, rfl, rfl, rfl, (fun h => by cases h), ⟨rfl, q4.trans hh2⟩, fun fs hl => c5.trans (X4.ireturnOut hexec hret rfl (Or.inl rfl) (hb hbytes d10) hl)⟩
theorem pays {l : Launch} {R : Room} {p : Program} {e : Env} {below : List Frame} {s : State} {sargs : Array Value} {len W : Nat} (x t : Addr) (V : Cell) (cd : Int32) (n : Nat) (f : Nat → Int32) (z : Int32) (htab : tab.before sargs s = true) (hfr : 2 ≤ R.frames) (hlo : W + 25 ≤ R.locals) :
    Back l R p e below s sargs yN len W (fun A₁ a₁ => A₁.cells + 0 ≤ R.cells ∧ A₁.slots + 0 ≤ R.slots ∧ P x t V cd n f z a₁ A₁.U) (fun A₁ _ v₁ B₁ => E n v₁ A₁.U B₁.U ∧ B₁.locs = A₁.locs ++ [] ∧ B₁.cells = A₁.cells + 0 ∧ B₁.slots = A₁.slots + 0) :=
  (law l x t V cd n f z).pays htab hfr (by omega)
end Len
end StrChars
namespace StrChars.Road
open Jvm Sem ClassFile Op Lib Jvm.Stand Jvm.Free Jvm.Free.XT
open Jvm.Lib.Cold (StaticIs)
theorem consq {a : Array Value} {s : State} {c : Jvm.Cond} {L : List Jvm.Cond} (h0 : c.before a s = true) (h : ∀ w ∈ L, w.before a s = true) : ∀ w ∈ c :: L, w.before a s = true := fun w hw => (List.mem_cons.mp hw).elim (fun e => e ▸ h0) (h w)
/-- the words of String.length(), either coding -/
abbrev wordsLen : List Jvm.Cond := [.code Len.yN Len.yB 1 (some .int), .initialized ST, .fieldLink ST 9 ST "value" "[B", .fieldLink ST 38 ST "COMPACT_STRINGS" "Z", .fieldLink ST 15 ST "coder" "B", .code Cdr.yN Cdr.yB 1 (some .byte), .methodLink ST 335 Cdr.yN, .declares Cdr.yN, .selects ST Cdr.yN Cdr.yN, .instanceMethod Cdr.yN]
theorem tabLen_of {a : Array Value} {s : State} (h : ∀ w ∈ wordsLen, w.before a s = true) : Len.tab.before a s = true := by
  have hc : Cdr.tab.before a s = true := unparts (wk h (.code Cdr.yN Cdr.yB 1 (some .byte))) (wks h (.initialized Cdr.yN.cls :: Cdr.site))
  have q := consq hc h
  exact unparts (wk q (.code Len.yN Len.yB 1 (some .int))) (wks q (.initialized Len.yN.cls :: Len.site))
theorem movedLen {Z s : State} {a0 args : Array Value} (hZ : Z.Warmed39 s.vm) (hw : ∀ d ∈ wordsLen, d.before a0 Z = true) : ∀ d ∈ wordsLen, d.before args s = true := fun d hd => by
  have q := hw d hd
  have t : ∀ d ∈ wordsLen, d = .arrayClass .byte ∨ (d.onTables && d.keepsFace) = true := by decide +kernel
  rcases t d hd with rfl | t
  · exact RoadKit.mvA hZ q
  · exact RoadKit.mv hZ q t
/-- the bytes of the chars cs, low before high -/
def wideBytes : List Int32 → List Value
  | [] => []
  | c :: cs => .int (lo8 c) :: .int (hi8 c) :: wideBytes cs
theorem wide_lo (d : Value) : ∀ (cs : List Int32) (j : Nat), j < cs.length → (wideBytes cs).getD (2 * j) d = .int (lo8 (cs.getD j 0))
  | [], j, h => absurd h (Nat.not_lt_zero j)
  | c :: cs, 0, _ => rfl
  | c :: cs, j + 1, h => by
    have q := wide_lo d cs j (by simpa using h)
    rw [show 2 * (j + 1) = 2 * j + 1 + 1 from by omega]
    simpa [wideBytes] using q
theorem wide_hi (d : Value) : ∀ (cs : List Int32) (j : Nat), j < cs.length → (wideBytes cs).getD (2 * j + 1) d = .int (hi8 (cs.getD j 0))
  | [], j, h => absurd h (Nat.not_lt_zero j)
  | c :: cs, 0, _ => rfl
  | c :: cs, j + 1, h => by
    have q := wide_hi d cs j (by simpa using h)
    rw [show 2 * (j + 1) + 1 = 2 * j + 1 + 1 + 1 from by omega]
    simpa [wideBytes] using q
theorem low_at (d : Value) (cs : List Int32) (j : Nat) (h : j < cs.length) : (cs.map fun c => Value.int (lo8 c)).getD j d = .int (lo8 (cs.getD j 0)) := by
  simp [List.getD_eq_getElem?_getD, h]
/-- an array of N2 bytes vs codes the chars cs by the coder cd -/
def CodA (cs : List Int32) (cd N2 : Int32) (vs : List Value) : Prop := (cd = 0 ∧ N2 = Int32.ofNat cs.length ∧ vs = (cs.map fun c => Value.int (lo8 c)) ∧ ∀ c ∈ cs, ¬ 255 < c) ∨ (cd = 1 ∧ N2 = Int32.ofNat (2 * cs.length) ∧ vs = wideBytes cs ∧ ∃ c ∈ cs, 255 < c)
theorem CodA.cod {cs : List Int32} {cd N2 : Int32} {vs : List Value} {V : Cell} (h : CodA cs cd N2 vs) (hn : 2 * cs.length < 2 ^ 31) (hs : V.slots.size = N2.toNatClampNeg) (hv : RoadKit.Has V vs (.int 0)) : Cod cd cs.length (fun j => cs.getD j 0) V := by
  rcases h with ⟨rfl, rfl, rfl, h⟩ | ⟨rfl, rfl, rfl, c, hc, hw⟩
  · rw [n32 (by omega)] at hs
    exact Or.inl ⟨rfl, hs, fun j hj => ⟨by rw [hv j (by omega), low_at _ _ _ hj], by
      have e : cs.getD j 0 = cs[j] := by simp [List.getD_eq_getElem?_getD, hj]
      show ¬ 255 < cs.getD j 0
      rw [e]; exact h _ (List.getElem_mem _)⟩⟩
  · rw [n32 (by omega)] at hs
    obtain ⟨j, hj, rfl⟩ := List.getElem_of_mem hc
    exact Or.inr ⟨rfl, hs, fun j hj => ⟨by rw [hv _ (by omega), wide_lo _ _ _ hj], by rw [hv _ (by omega), wide_hi _ _ _ hj]⟩, j, hj, by
      have e : cs.getD j 0 = cs[j] := by simp [List.getD_eq_getElem?_getD, hj]
      show 255 < cs.getD j 0
      rw [e]; exact hw⟩
/-- an object of exactly java/lang/String, its two fields found: as the laws ask it -/
theorem strObj {Z U : State} {a0 : Array Value} {kI : Nat} (wi : (Jvm.Cond.instantiable ST kI).before a0 Z = true) (al : Z.vm.Alike U.vm) {x : Addr} {v0 c0 : Value} (E : RoadKit.Exa Z U.heap x ST) (V : RoadKit.Fld Z U.heap x ST "value" "[B" v0) (C : RoadKit.Fld Z U.heap x ST "coder" "B" c0) :
    ∃ (D : Cell) (fV fC : Field), Blank ST x D U ∧ Found ST "value" "[B" fV U ∧ Found ST "coder" "B" fC U ∧ D.slots[fV.slot]? = some v0 ∧ D.slots[fC.slot]? = some c0 ∧ RoadKit.slotOf Z ST "value" "[B" = fV.slot ∧ RoadKit.slotOf Z ST "coder" "B" = fC.slot := by
  obtain ⟨D, cfV, kV, iV, fV, hD, gV, stV, knV, obV, asV, slV⟩ := V
  obtain ⟨D', cfC, kC, iC, fC, hD', gC, stC, -, -, asC, slC⟩ := C
  cases hD.symm.trans hD'
  obtain ⟨D2, kD, e1, e2, e3, e4, e5⟩ := E
  cases hD.symm.trans e1
  obtain ⟨c2, k2, i1, i2, i3, -⟩ := Cond.instantiable_spec wi
  cases e2.symm.trans i1
  cases e3.symm.trans i2
  obtain ⟨kU, u1, u2⟩ := al.2.2 _ _ e3
  exact ⟨D, fV, fC, ⟨hD, ⟨knV, fun q hq => by rw [hq] at obV; cases obV⟩, by rw [al.findClass]; exact e2, kU, u1, by rw [u2]; exact i3, by rw [u2]; exact e5 i3⟩, ⟨SBG.found_only al ⟨cfV, kV, iV, gV⟩, stV⟩, ⟨SBG.found_only al ⟨cfC, kC, iC, gC⟩, stC⟩, slV, slC, by simp [RoadKit.slotOf, gV], by simp [RoadKit.slotOf, gC]⟩
theorem sta_is {Z U : State} (al : Z.vm.Alike U.vm) {C n d : String} {v : Value} (S : RoadKit.Sta Z U.heap C n d v) : StaticIs U C n d v := by
  obtain ⟨cfS, iS, kS, fS, st, cS, t1, t2, t3, t4, t5, t6, t7⟩ := S
  exact StaticIs.there (s := { Z with heap := U.heap }) ⟨cfS, iS, kS, fS, st, cS, t1, t2, t3, t4, t5, (fun q => by rw [q] at t6; cases t6), t7⟩ al rfl
/-- **length() OF SUCH A STRING** -/
theorem lenW {p : Program} {l : Launch} {e : Env} {R : Room} {s : State} {args : Array Value} {below : List Frame} {len W : Nat} {Z : State} {a0 : Array Value} {h : Heap} (hZ : Z.Warmed39 s.vm) (hw : ∀ d ∈ wordsLen, d.before a0 Z = true) {kI : Nat} (wi : (Jvm.Cond.instantiable ST kI).before a0 Z = true)
    {x t : Addr} {kb : ClassId} {cs : List Int32} {cd N2 z : Int32} {vs : List Value} (E : RoadKit.Exa Z h x ST) (V : RoadKit.Fld Z h x ST "value" "[B" (.ref t)) (C : RoadKit.Fld Z h x ST "coder" "B" (.int cd)) (K : RoadKit.Arv Z h t kb .byte N2 vs (.int 0)) (hc : CodA cs cd N2 vs) (hb : ∀ c ∈ cs, ¬ c < 0 ∧ ¬ (65535 : Int32) < c)
    (S : RoadKit.Sta Z h ST "COMPACT_STRINGS" "Z" (.int z)) (hz : ¬ z = 0) (l2 : cs.length ≤ 4000) (hfr : 2 ≤ R.frames) (hlo : W + 25 ≤ R.locals) :
    Back l R p e below s args (⟨"java/lang/String", "length", "()I"⟩ : MethodName) len W (fun P a => a = #[.ref x] ∧ P.U.heap = h ∧ P.cells + 0 ≤ R.cells ∧ P.slots + 0 ≤ R.slots)
      (fun P _ v B => ∃ L, (v = some (.int (Int32.ofNat cs.length)) ∧ L = [] ∧ B.U.heap = h) ∧ B.locs = P.locs ++ L ∧ B.cells = P.cells + 0 ∧ B.slots = P.slots + 0) := by
  obtain ⟨A, K1, K2, K3, K4, K5, K6⟩ := K
  have hcod := hc.cod (by omega) K3 K5
  intro m meth c P g ig mk a X hg hsize hdg hW hn hp'
  obtain ⟨rfl, rfl, r1, r2⟩ := hp'
  have al : Z.vm.Alike P.U.vm := hZ.alike.trans X.warmed.alike
  obtain ⟨D, fV, fC, hB, F1, F2, g1, g2, -, -⟩ := strObj wi al E V C
  have hx : Txt x t A cd cs.length (fun j => cs.getD j 0) P.U := ⟨⟨_, hB.2.2.1, D, hB.1, rfl, by cases q : D.vm <;> first | rfl | exact absurd q (hB.2.1.2 _)⟩, Has.of hB F1 g1, Has.of hB F2 g2, ⟨K1.1, State.isArrayOf_alike al K1.2.1, K1.2.2, by rcases hcod with ⟨-, q, -⟩ | ⟨-, q, -⟩ <;> omega⟩, hcod, fun j hj => by
    have e : cs.getD j 0 = cs[j] := by simp [List.getD_eq_getElem?_getD, hj]
    show ¬ cs.getD j 0 < 0 ∧ ¬ 65535 < cs.getD j 0
    rw [e]; exact hb _ (List.getElem_mem _)⟩
  obtain ⟨v, B, X', ⟨⟨hv, hh⟩, hl, hk, hs⟩, st⟩ := Len.pays x t A cd cs.length (fun j => cs.getD j 0) z (tabLen_of (movedLen hZ hw)) hfr hlo m meth c P g ig mk _ X hg hsize hdg hW hn ⟨r1, r2, rfl, hx, sta_is al S, hz⟩
  exact ⟨v, B, X', ⟨[], ⟨hv, rfl, hh⟩, hl, hk, hs⟩, st⟩
end StrChars.Road
namespace StrChars.Road
open Jvm Sem ClassFile Op Lib Jvm.Stand Jvm.Free Jvm.Free.XT
open Jvm.Lib.Cold (StaticIs)
/-- what backV says of its String, as the contracts of this text ask it: cs's low bytes, coder 0 -/
theorem codOf {cs : List Int32} {n : Nat} (hn : cs.length = n) (hb : ∀ c ∈ cs, ¬ 255 < c) : CodA cs 0 (Int32.ofNat n) ((cs.map lo8).map Value.int) := Or.inl ⟨rfl, by rw [hn], by simp [List.map_map, Function.comp_def], hb⟩
end StrChars.Road
end Jvm.Pilot.@@N@@

namespace Jvm.Pilot.@@N@@
open Jvm Jvm.ClassFile Sem Op Lib Jvm.Free Jvm.Stand Jvm.LawKit Jvm.RoadKit Bundle Jvm.Pilot.@@N@@.Jvm.D
abbrev own_z0 : MethodName := ⟨"com/example/oxpecker/oxpecker/MessageTemplateIsTextAlonePinLaw", "pick", "(I)C"⟩
abbrev own_z1 : MethodName := ⟨"com/example/oxpecker/oxpecker/MessageTemplateIsTextAlonePinLaw", "plain", "(C)Z"⟩
abbrev own_z2 : MethodName := ⟨"java/lang/Math", "max", "(II)I"⟩
abbrev own_z3 : MethodName := ⟨"java/lang/Math", "min", "(II)I"⟩
abbrev own_z4 : MethodName := ⟨"java/lang/StringLatin1", "canEncode", "(I)Z"⟩
abbrev own_z5 : MethodName := ⟨"jdk/internal/util/Preconditions", "checkFromToIndex", "(IIILjava/util/function/BiFunction;)I"⟩
abbrev own_z6 : MethodName := ⟨"java/lang/String", "checkBoundsBeginEnd", "(III)V"⟩
abbrev own_z7 : MethodName := ⟨"java/lang/String", "isLatin1", "()Z"⟩
abbrev own_z8 : MethodName := ⟨"java/lang/StringUTF16", "length", "([B)I"⟩
abbrev own_z9 : MethodName := ⟨"java/lang/StringUTF16", "checkBoundsBeginEnd", "(II[B)V"⟩
abbrev own_z10 : MethodName := ⟨"java/lang/StringUTF16", "getChar", "([BI)C"⟩
abbrev own_z11 : MethodName := ⟨"java/lang/StringUTF16", "putChar", "([BII)V"⟩
abbrev own_z12 : MethodName := ⟨"java/lang/StringUTF16", "newBytesLength", "(I)I"⟩
abbrev own_z13 : MethodName := ⟨"java/lang/StringUTF16", "newBytesFor", "(I)[B"⟩
abbrev own_z14 : MethodName := ⟨"java/lang/StringUTF16", "toBytes", "([CII)[B"⟩
abbrev own_z15 : MethodName := ⟨"java/lang/StringUTF16", "compress", "([CI[BII)I"⟩
abbrev own_z16 : MethodName := ⟨"java/lang/StringUTF16", "compress", "([CII)[B"⟩
abbrev own_z17 : MethodName := ⟨"java/lang/StringUTF16", "coderFromArrayLen", "([BI)B"⟩
abbrev own_z18 : MethodName := ⟨"java/lang/String", "<init>", "([CIILjava/lang/Void;)V"⟩
abbrev own_z19 : MethodName := ⟨"java/lang/String", "<init>", "([C)V"⟩
abbrev own_z20 : MethodName := ⟨"java/lang/StringLatin1", "indexOfChar", "([BIII)I"⟩
abbrev own_z21 : MethodName := ⟨"java/lang/StringLatin1", "indexOf", "([BIII)I"⟩
abbrev own_z22 : MethodName := ⟨"java/lang/StringUTF16", "indexOfCharUnsafe", "([BIII)I"⟩
abbrev own_z23 : MethodName := ⟨"java/lang/StringUTF16", "indexOfChar", "([BIII)I"⟩
abbrev own_z24 : MethodName := ⟨"java/lang/StringUTF16", "indexOf", "([BIII)I"⟩
abbrev own_z25 : MethodName := ⟨"java/lang/String", "indexOf", "(II)I"⟩
abbrev own_z26 : MethodName := ⟨"java/lang/String", "length", "()I"⟩
abbrev own_z27 : MethodName := ⟨"java/lang/String", "indexOf", "(I)I"⟩
abbrev own_z28 : MethodName := ⟨"com/example/oxpecker/oxpecker/MessageTemplate", "isTextAlone", "(Ljava/lang/String;)Z"⟩
theorem own_cat {v : Value} (h : v.isRef = true) : v.category = 1 := by rcases ref_cases h with rfl | ⟨_, rfl⟩ <;> rfl
theorem own_store {l : Array Slot} {i : Nat} {v : Value} {o : Slot} (ho : One o) (hv : v.category = 1) (hold : l[i]? = some o := by rfl) : storeLocals l i v = some (l.setIfInBounds i (.val v)) := XS.store1 hold ho hv

abbrev own_M (l : Launch) (Z : State) (y : MethodName) (bytes : ByteArray) (ml : Nat) (rt : Option FieldType) (rm : Room) (ws : List Jvm.Cond) (as' : Array Value) (h0 : Heap) (Q : Option Value → Heap → List Loc → Prop) : Prop := MetFree l y (head1 (Jvm.Cond.code y bytes ml rt :: ws) rm) (fun a U => a = as' ∧ Z.Warmed39 U.vm ∧ U.heap = h0) (fun _ _ _ _ _ => True) (fun _ U o U' => ∃ v L, o = .returned v ∧ Q v U'.heap L ∧ FrameEnd U o U' L rm.cells rm.slots)
theorem wd0 {Z : State} {a0 : Array Value} (hw : ∀ d ∈ tables_1, d.before a0 Z = true) : ((Jvm.Cond.constant "com/example/oxpecker/oxpecker/MessageTemplateIsTextAlonePinLaw" (7 : Nat) (2147483647 : Int32))).before a0 Z = true := hw _ (List.mem_of_getElem? (i := 0) rfl)
theorem wd1 {Z : State} {a0 : Array Value} (hw : ∀ d ∈ tables_1, d.before a0 Z = true) : ((Jvm.Cond.methodLink "com/example/oxpecker/oxpecker/MessageTemplateIsTextAlonePinLaw" (8 : Nat) ({ cls := "com/example/oxpecker/oxpecker/MessageTemplateIsTextAlonePinLaw", name := "pick", desc := "(I)C" } : Jvm.MethodName))).before a0 Z = true := hw _ (List.mem_of_getElem? (i := 1) rfl)
theorem wd2 {Z : State} {a0 : Array Value} (hw : ∀ d ∈ tables_1, d.before a0 Z = true) : ((Jvm.Cond.static ({ cls := "com/example/oxpecker/oxpecker/MessageTemplateIsTextAlonePinLaw", name := "pick", desc := "(I)C" } : Jvm.MethodName))).before a0 Z = true := hw _ (List.mem_of_getElem? (i := 2) rfl)
theorem wd3 {Z : State} {a0 : Array Value} (hw : ∀ d ∈ tables_1, d.before a0 Z = true) : ((Jvm.Cond.initialized "com/example/oxpecker/oxpecker/MessageTemplateIsTextAlonePinLaw")).before a0 Z = true := hw _ (List.mem_of_getElem? (i := 3) rfl)
theorem wd4 {Z : State} {a0 : Array Value} (hw : ∀ d ∈ tables_1, d.before a0 Z = true) : ((Jvm.Cond.code ({ cls := "com/example/oxpecker/oxpecker/MessageTemplateIsTextAlonePinLaw", name := "pick", desc := "(I)C" } : Jvm.MethodName) method_3_code (2 : Nat) (Option.some Jvm.ClassFile.FieldType.char))).before a0 Z = true := hw _ (List.mem_of_getElem? (i := 4) rfl)
theorem wd5 {Z : State} {a0 : Array Value} (hw : ∀ d ∈ tables_1, d.before a0 Z = true) : ((Jvm.Cond.constant "com/example/oxpecker/oxpecker/MessageTemplateIsTextAlonePinLaw" (29 : Nat) (65535 : Int32))).before a0 Z = true := hw _ (List.mem_of_getElem? (i := 5) rfl)
theorem wd6 {Z : State} {a0 : Array Value} (hw : ∀ d ∈ tables_1, d.before a0 Z = true) : ((Jvm.Cond.classLink "com/example/oxpecker/oxpecker/MessageTemplateIsTextAlonePinLaw" (14 : Nat) "java/lang/String")).before a0 Z = true := hw _ (List.mem_of_getElem? (i := 6) rfl)
theorem wd7 {Z : State} {a0 : Array Value} (hw : ∀ d ∈ tables_1, d.before a0 Z = true) : ((Jvm.Cond.instantiable "java/lang/String" (4 : Nat))).before a0 Z = true := hw _ (List.mem_of_getElem? (i := 7) rfl)
theorem wd8 {Z : State} {a0 : Array Value} (hw : ∀ d ∈ tables_1, d.before a0 Z = true) : ((Jvm.Cond.initialized "java/lang/String")).before a0 Z = true := hw _ (List.mem_of_getElem? (i := 8) rfl)
theorem wd9 {Z : State} {a0 : Array Value} (hw : ∀ d ∈ tables_1, d.before a0 Z = true) : ((Jvm.Cond.arrayClass Jvm.ClassFile.FieldType.char)).before a0 Z = true := hw _ (List.mem_of_getElem? (i := 9) rfl)
theorem wd10 {Z : State} {a0 : Array Value} (hw : ∀ d ∈ tables_1, d.before a0 Z = true) : ((Jvm.Cond.methodLink "com/example/oxpecker/oxpecker/MessageTemplateIsTextAlonePinLaw" (16 : Nat) ({ cls := "java/lang/String", name := "<init>", desc := "([C)V" } : Jvm.MethodName))).before a0 Z = true := hw _ (List.mem_of_getElem? (i := 10) rfl)
theorem wd11 {Z : State} {a0 : Array Value} (hw : ∀ d ∈ tables_1, d.before a0 Z = true) : ((Jvm.Cond.instanceMethod ({ cls := "java/lang/String", name := "<init>", desc := "([C)V" } : Jvm.MethodName))).before a0 Z = true := hw _ (List.mem_of_getElem? (i := 11) rfl)
theorem wd12 {Z : State} {a0 : Array Value} (hw : ∀ d ∈ tables_1, d.before a0 Z = true) : ((Jvm.Cond.code ({ cls := "java/lang/String", name := "<init>", desc := "([C)V" } : Jvm.MethodName) jdk_42_method_3_code (2 : Nat) (Option.none : Option Jvm.ClassFile.FieldType))).before a0 Z = true := hw _ (List.mem_of_getElem? (i := 12) rfl)
theorem wd13 {Z : State} {a0 : Array Value} (hw : ∀ d ∈ tables_1, d.before a0 Z = true) : ((Jvm.Cond.methodLink "java/lang/String" (27 : Nat) ({ cls := "java/lang/String", name := "<init>", desc := "([CIILjava/lang/Void;)V" } : Jvm.MethodName))).before a0 Z = true := hw _ (List.mem_of_getElem? (i := 13) rfl)
theorem wd14 {Z : State} {a0 : Array Value} (hw : ∀ d ∈ tables_1, d.before a0 Z = true) : ((Jvm.Cond.instanceMethod ({ cls := "java/lang/String", name := "<init>", desc := "([CIILjava/lang/Void;)V" } : Jvm.MethodName))).before a0 Z = true := hw _ (List.mem_of_getElem? (i := 14) rfl)
theorem wd16 {Z : State} {a0 : Array Value} (hw : ∀ d ∈ tables_1, d.before a0 Z = true) : ((Jvm.Cond.code ({ cls := "java/lang/String", name := "<init>", desc := "([CIILjava/lang/Void;)V" } : Jvm.MethodName) jdk_42_method_149_code (6 : Nat) (Option.none : Option Jvm.ClassFile.FieldType))).before a0 Z = true := hw _ (List.mem_of_getElem? (i := 16) rfl)
theorem wd17 {Z : State} {a0 : Array Value} (hw : ∀ d ∈ tables_1, d.before a0 Z = true) : ((Jvm.Cond.methodLink "java/lang/String" (1 : Nat) ({ cls := "java/lang/Object", name := "<init>", desc := "()V" } : Jvm.MethodName))).before a0 Z = true := hw _ (List.mem_of_getElem? (i := 17) rfl)
theorem wd18 {Z : State} {a0 : Array Value} (hw : ∀ d ∈ tables_1, d.before a0 Z = true) : ((Jvm.Cond.instanceMethod ({ cls := "java/lang/Object", name := "<init>", desc := "()V" } : Jvm.MethodName))).before a0 Z = true := hw _ (List.mem_of_getElem? (i := 18) rfl)
theorem wd19 {Z : State} {a0 : Array Value} (hw : ∀ d ∈ tables_1, d.before a0 Z = true) : ((Jvm.Cond.code ({ cls := "java/lang/Object", name := "<init>", desc := "()V" } : Jvm.MethodName) object_method_1_code (1 : Nat) (Option.none : Option Jvm.ClassFile.FieldType))).before a0 Z = true := hw _ (List.mem_of_getElem? (i := 19) rfl)
theorem wd20 {Z : State} {a0 : Array Value} (hw : ∀ d ∈ tables_1, d.before a0 Z = true) : ((Jvm.Cond.stringLink "java/lang/String" (7 : Nat) "")).before a0 Z = true := hw _ (List.mem_of_getElem? (i := 20) rfl)
theorem wd21 {Z : State} {a0 : Array Value} (hw : ∀ d ∈ tables_1, d.before a0 Z = true) : ((Jvm.Cond.arrayClass Jvm.ClassFile.FieldType.byte)).before a0 Z = true := hw _ (List.mem_of_getElem? (i := 21) rfl)
theorem wd22 {Z : State} {a0 : Array Value} (hw : ∀ d ∈ tables_1, d.before a0 Z = true) : ((Jvm.Cond.laysFinal "java/lang/String" "java/lang/String" "value" "[B")).before a0 Z = true := hw _ (List.mem_of_getElem? (i := 22) rfl)
theorem wd23 {Z : State} {a0 : Array Value} (hw : ∀ d ∈ tables_1, d.before a0 Z = true) : ((Jvm.Cond.laysFinal "java/lang/String" "java/lang/String" "coder" "B")).before a0 Z = true := hw _ (List.mem_of_getElem? (i := 23) rfl)
theorem wd26 {Z : State} {a0 : Array Value} (hw : ∀ d ∈ tables_1, d.before a0 Z = true) : ((Jvm.Cond.fieldLink "java/lang/String" (9 : Nat) "java/lang/String" "value" "[B")).before a0 Z = true := hw _ (List.mem_of_getElem? (i := 26) rfl)
theorem wd27 {Z : State} {a0 : Array Value} (hw : ∀ d ∈ tables_1, d.before a0 Z = true) : ((Jvm.Cond.fieldLink "java/lang/String" (15 : Nat) "java/lang/String" "coder" "B")).before a0 Z = true := hw _ (List.mem_of_getElem? (i := 27) rfl)
theorem wd28 {Z : State} {a0 : Array Value} (hw : ∀ d ∈ tables_1, d.before a0 Z = true) : ((Jvm.Cond.methodLink "com/example/oxpecker/oxpecker/MessageTemplateIsTextAlonePinLaw" (23 : Nat) ({ cls := "com/example/oxpecker/oxpecker/MessageTemplate", name := "isTextAlone", desc := "(Ljava/lang/String;)Z" } : Jvm.MethodName))).before a0 Z = true := hw _ (List.mem_of_getElem? (i := 28) rfl)
theorem wd29 {Z : State} {a0 : Array Value} (hw : ∀ d ∈ tables_1, d.before a0 Z = true) : ((Jvm.Cond.static ({ cls := "com/example/oxpecker/oxpecker/MessageTemplate", name := "isTextAlone", desc := "(Ljava/lang/String;)Z" } : Jvm.MethodName))).before a0 Z = true := hw _ (List.mem_of_getElem? (i := 29) rfl)
theorem wd30 {Z : State} {a0 : Array Value} (hw : ∀ d ∈ tables_1, d.before a0 Z = true) : ((Jvm.Cond.initialized "com/example/oxpecker/oxpecker/MessageTemplate")).before a0 Z = true := hw _ (List.mem_of_getElem? (i := 30) rfl)
theorem wd31 {Z : State} {a0 : Array Value} (hw : ∀ d ∈ tables_1, d.before a0 Z = true) : ((Jvm.Cond.code ({ cls := "com/example/oxpecker/oxpecker/MessageTemplate", name := "isTextAlone", desc := "(Ljava/lang/String;)Z" } : Jvm.MethodName) prog_5_method_7_code (1 : Nat) (Option.some Jvm.ClassFile.FieldType.boolean))).before a0 Z = true := hw _ (List.mem_of_getElem? (i := 31) rfl)
theorem wd32 {Z : State} {a0 : Array Value} (hw : ∀ d ∈ tables_1, d.before a0 Z = true) : ((Jvm.Cond.methodLink "com/example/oxpecker/oxpecker/MessageTemplate" (7 : Nat) ({ cls := "java/lang/String", name := "indexOf", desc := "(I)I" } : Jvm.MethodName))).before a0 Z = true := hw _ (List.mem_of_getElem? (i := 32) rfl)
theorem wd33 {Z : State} {a0 : Array Value} (hw : ∀ d ∈ tables_1, d.before a0 Z = true) : ((Jvm.Cond.declares ({ cls := "java/lang/String", name := "indexOf", desc := "(I)I" } : Jvm.MethodName))).before a0 Z = true := hw _ (List.mem_of_getElem? (i := 33) rfl)
theorem wd34 {Z : State} {a0 : Array Value} (hw : ∀ d ∈ tables_1, d.before a0 Z = true) : ((Jvm.Cond.instanceMethod ({ cls := "java/lang/String", name := "indexOf", desc := "(I)I" } : Jvm.MethodName))).before a0 Z = true := hw _ (List.mem_of_getElem? (i := 34) rfl)
theorem wd35 {Z : State} {a0 : Array Value} (hw : ∀ d ∈ tables_1, d.before a0 Z = true) : ((Jvm.Cond.selects "java/lang/String" ({ cls := "java/lang/String", name := "indexOf", desc := "(I)I" } : Jvm.MethodName) ({ cls := "java/lang/String", name := "indexOf", desc := "(I)I" } : Jvm.MethodName))).before a0 Z = true := hw _ (List.mem_of_getElem? (i := 35) rfl)
theorem wd36 {Z : State} {a0 : Array Value} (hw : ∀ d ∈ tables_1, d.before a0 Z = true) : ((Jvm.Cond.code ({ cls := "java/lang/String", name := "indexOf", desc := "(I)I" } : Jvm.MethodName) jdk_42_method_79_code (2 : Nat) (Option.some Jvm.ClassFile.FieldType.int))).before a0 Z = true := hw _ (List.mem_of_getElem? (i := 36) rfl)
theorem wd37 {Z : State} {a0 : Array Value} (hw : ∀ d ∈ tables_1, d.before a0 Z = true) : ((Jvm.Cond.methodLink "java/lang/String" (633 : Nat) ({ cls := "java/lang/String", name := "indexOf", desc := "(II)I" } : Jvm.MethodName))).before a0 Z = true := hw _ (List.mem_of_getElem? (i := 37) rfl)
theorem wd38 {Z : State} {a0 : Array Value} (hw : ∀ d ∈ tables_1, d.before a0 Z = true) : ((Jvm.Cond.declares ({ cls := "java/lang/String", name := "indexOf", desc := "(II)I" } : Jvm.MethodName))).before a0 Z = true := hw _ (List.mem_of_getElem? (i := 38) rfl)
theorem wd39 {Z : State} {a0 : Array Value} (hw : ∀ d ∈ tables_1, d.before a0 Z = true) : ((Jvm.Cond.instanceMethod ({ cls := "java/lang/String", name := "indexOf", desc := "(II)I" } : Jvm.MethodName))).before a0 Z = true := hw _ (List.mem_of_getElem? (i := 39) rfl)
theorem wd40 {Z : State} {a0 : Array Value} (hw : ∀ d ∈ tables_1, d.before a0 Z = true) : ((Jvm.Cond.selects "java/lang/String" ({ cls := "java/lang/String", name := "indexOf", desc := "(II)I" } : Jvm.MethodName) ({ cls := "java/lang/String", name := "indexOf", desc := "(II)I" } : Jvm.MethodName))).before a0 Z = true := hw _ (List.mem_of_getElem? (i := 40) rfl)
theorem wd41 {Z : State} {a0 : Array Value} (hw : ∀ d ∈ tables_1, d.before a0 Z = true) : ((Jvm.Cond.code ({ cls := "java/lang/String", name := "indexOf", desc := "(II)I" } : Jvm.MethodName) jdk_42_method_80_code (3 : Nat) (Option.some Jvm.ClassFile.FieldType.int))).before a0 Z = true := hw _ (List.mem_of_getElem? (i := 41) rfl)
theorem wd42 {Z : State} {a0 : Array Value} (hw : ∀ d ∈ tables_1, d.before a0 Z = true) : ((Jvm.Cond.methodLink "java/lang/String" (492 : Nat) ({ cls := "java/lang/String", name := "isLatin1", desc := "()Z" } : Jvm.MethodName))).before a0 Z = true := hw _ (List.mem_of_getElem? (i := 42) rfl)
theorem wd43 {Z : State} {a0 : Array Value} (hw : ∀ d ∈ tables_1, d.before a0 Z = true) : ((Jvm.Cond.declares ({ cls := "java/lang/String", name := "isLatin1", desc := "()Z" } : Jvm.MethodName))).before a0 Z = true := hw _ (List.mem_of_getElem? (i := 43) rfl)
theorem wd44 {Z : State} {a0 : Array Value} (hw : ∀ d ∈ tables_1, d.before a0 Z = true) : ((Jvm.Cond.instanceMethod ({ cls := "java/lang/String", name := "isLatin1", desc := "()Z" } : Jvm.MethodName))).before a0 Z = true := hw _ (List.mem_of_getElem? (i := 44) rfl)
theorem wd45 {Z : State} {a0 : Array Value} (hw : ∀ d ∈ tables_1, d.before a0 Z = true) : ((Jvm.Cond.selects "java/lang/String" ({ cls := "java/lang/String", name := "isLatin1", desc := "()Z" } : Jvm.MethodName) ({ cls := "java/lang/String", name := "isLatin1", desc := "()Z" } : Jvm.MethodName))).before a0 Z = true := hw _ (List.mem_of_getElem? (i := 45) rfl)
theorem wd46 {Z : State} {a0 : Array Value} (hw : ∀ d ∈ tables_1, d.before a0 Z = true) : ((Jvm.Cond.code ({ cls := "java/lang/String", name := "isLatin1", desc := "()Z" } : Jvm.MethodName) jdk_42_method_154_code (1 : Nat) (Option.some Jvm.ClassFile.FieldType.boolean))).before a0 Z = true := hw _ (List.mem_of_getElem? (i := 46) rfl)
theorem wd47 {Z : State} {a0 : Array Value} (hw : ∀ d ∈ tables_1, d.before a0 Z = true) : ((Jvm.Cond.fieldLink "java/lang/String" (38 : Nat) "java/lang/String" "COMPACT_STRINGS" "Z")).before a0 Z = true := hw _ (List.mem_of_getElem? (i := 47) rfl)
theorem wd48 {Z : State} {a0 : Array Value} (hw : ∀ d ∈ tables_1, d.before a0 Z = true) : ((Jvm.Cond.methodLink "java/lang/String" (505 : Nat) ({ cls := "java/lang/String", name := "length", desc := "()I" } : Jvm.MethodName))).before a0 Z = true := hw _ (List.mem_of_getElem? (i := 48) rfl)
theorem wd49 {Z : State} {a0 : Array Value} (hw : ∀ d ∈ tables_1, d.before a0 Z = true) : ((Jvm.Cond.declares ({ cls := "java/lang/String", name := "length", desc := "()I" } : Jvm.MethodName))).before a0 Z = true := hw _ (List.mem_of_getElem? (i := 49) rfl)
theorem wd50 {Z : State} {a0 : Array Value} (hw : ∀ d ∈ tables_1, d.before a0 Z = true) : ((Jvm.Cond.instanceMethod ({ cls := "java/lang/String", name := "length", desc := "()I" } : Jvm.MethodName))).before a0 Z = true := hw _ (List.mem_of_getElem? (i := 50) rfl)
theorem wd51 {Z : State} {a0 : Array Value} (hw : ∀ d ∈ tables_1, d.before a0 Z = true) : ((Jvm.Cond.selects "java/lang/String" ({ cls := "java/lang/String", name := "length", desc := "()I" } : Jvm.MethodName) ({ cls := "java/lang/String", name := "length", desc := "()I" } : Jvm.MethodName))).before a0 Z = true := hw _ (List.mem_of_getElem? (i := 51) rfl)
theorem wd52 {Z : State} {a0 : Array Value} (hw : ∀ d ∈ tables_1, d.before a0 Z = true) : ((Jvm.Cond.code ({ cls := "java/lang/String", name := "length", desc := "()I" } : Jvm.MethodName) jdk_42_method_54_code (1 : Nat) (Option.some Jvm.ClassFile.FieldType.int))).before a0 Z = true := hw _ (List.mem_of_getElem? (i := 52) rfl)
theorem wd58 {Z : State} {a0 : Array Value} (hw : ∀ d ∈ tables_1, d.before a0 Z = true) : ((Jvm.Cond.methodLink "java/lang/String" (637 : Nat) ({ cls := "java/lang/StringLatin1", name := "indexOf", desc := "([BIII)I" } : Jvm.MethodName))).before a0 Z = true := hw _ (List.mem_of_getElem? (i := 58) rfl)
theorem wd59 {Z : State} {a0 : Array Value} (hw : ∀ d ∈ tables_1, d.before a0 Z = true) : ((Jvm.Cond.static ({ cls := "java/lang/StringLatin1", name := "indexOf", desc := "([BIII)I" } : Jvm.MethodName))).before a0 Z = true := hw _ (List.mem_of_getElem? (i := 59) rfl)
theorem wd60 {Z : State} {a0 : Array Value} (hw : ∀ d ∈ tables_1, d.before a0 Z = true) : ((Jvm.Cond.initialized "java/lang/StringLatin1")).before a0 Z = true := hw _ (List.mem_of_getElem? (i := 60) rfl)
theorem wd61 {Z : State} {a0 : Array Value} (hw : ∀ d ∈ tables_1, d.before a0 Z = true) : ((Jvm.Cond.code ({ cls := "java/lang/StringLatin1", name := "indexOf", desc := "([BIII)I" } : Jvm.MethodName) jdk_43_method_22_code (4 : Nat) (Option.some Jvm.ClassFile.FieldType.int))).before a0 Z = true := hw _ (List.mem_of_getElem? (i := 61) rfl)
theorem wd62 {Z : State} {a0 : Array Value} (hw : ∀ d ∈ tables_1, d.before a0 Z = true) : ((Jvm.Cond.methodLink "java/lang/StringLatin1" (88 : Nat) ({ cls := "java/lang/StringLatin1", name := "canEncode", desc := "(I)Z" } : Jvm.MethodName))).before a0 Z = true := hw _ (List.mem_of_getElem? (i := 62) rfl)
theorem wd63 {Z : State} {a0 : Array Value} (hw : ∀ d ∈ tables_1, d.before a0 Z = true) : ((Jvm.Cond.static ({ cls := "java/lang/StringLatin1", name := "canEncode", desc := "(I)Z" } : Jvm.MethodName))).before a0 Z = true := hw _ (List.mem_of_getElem? (i := 63) rfl)
theorem wd64 {Z : State} {a0 : Array Value} (hw : ∀ d ∈ tables_1, d.before a0 Z = true) : ((Jvm.Cond.code ({ cls := "java/lang/StringLatin1", name := "canEncode", desc := "(I)Z" } : Jvm.MethodName) jdk_43_method_4_code (1 : Nat) (Option.some Jvm.ClassFile.FieldType.boolean))).before a0 Z = true := hw _ (List.mem_of_getElem? (i := 64) rfl)
theorem wd65 {Z : State} {a0 : Array Value} (hw : ∀ d ∈ tables_1, d.before a0 Z = true) : ((Jvm.Cond.methodLink "java/lang/StringLatin1" (92 : Nat) ({ cls := "java/lang/Math", name := "max", desc := "(II)I" } : Jvm.MethodName))).before a0 Z = true := hw _ (List.mem_of_getElem? (i := 65) rfl)
theorem wd66 {Z : State} {a0 : Array Value} (hw : ∀ d ∈ tables_1, d.before a0 Z = true) : ((Jvm.Cond.static ({ cls := "java/lang/Math", name := "max", desc := "(II)I" } : Jvm.MethodName))).before a0 Z = true := hw _ (List.mem_of_getElem? (i := 66) rfl)
theorem wd67 {Z : State} {a0 : Array Value} (hw : ∀ d ∈ tables_1, d.before a0 Z = true) : ((Jvm.Cond.initialized "java/lang/Math")).before a0 Z = true := hw _ (List.mem_of_getElem? (i := 67) rfl)
theorem wd68 {Z : State} {a0 : Array Value} (hw : ∀ d ∈ tables_1, d.before a0 Z = true) : ((Jvm.Cond.code ({ cls := "java/lang/Math", name := "max", desc := "(II)I" } : Jvm.MethodName) jdk_29_method_65_code (2 : Nat) (Option.some Jvm.ClassFile.FieldType.int))).before a0 Z = true := hw _ (List.mem_of_getElem? (i := 68) rfl)
theorem wd69 {Z : State} {a0 : Array Value} (hw : ∀ d ∈ tables_1, d.before a0 Z = true) : ((Jvm.Cond.methodLink "java/lang/StringLatin1" (38 : Nat) ({ cls := "java/lang/Math", name := "min", desc := "(II)I" } : Jvm.MethodName))).before a0 Z = true := hw _ (List.mem_of_getElem? (i := 69) rfl)
theorem wd70 {Z : State} {a0 : Array Value} (hw : ∀ d ∈ tables_1, d.before a0 Z = true) : ((Jvm.Cond.static ({ cls := "java/lang/Math", name := "min", desc := "(II)I" } : Jvm.MethodName))).before a0 Z = true := hw _ (List.mem_of_getElem? (i := 70) rfl)
theorem wd71 {Z : State} {a0 : Array Value} (hw : ∀ d ∈ tables_1, d.before a0 Z = true) : ((Jvm.Cond.code ({ cls := "java/lang/Math", name := "min", desc := "(II)I" } : Jvm.MethodName) jdk_29_method_69_code (2 : Nat) (Option.some Jvm.ClassFile.FieldType.int))).before a0 Z = true := hw _ (List.mem_of_getElem? (i := 71) rfl)
theorem wd72 {Z : State} {a0 : Array Value} (hw : ∀ d ∈ tables_1, d.before a0 Z = true) : ((Jvm.Cond.methodLink "java/lang/String" (177 : Nat) ({ cls := "java/lang/StringUTF16", name := "compress", desc := "([CII)[B" } : Jvm.MethodName))).before a0 Z = true := hw _ (List.mem_of_getElem? (i := 72) rfl)
theorem wd73 {Z : State} {a0 : Array Value} (hw : ∀ d ∈ tables_1, d.before a0 Z = true) : ((Jvm.Cond.static ({ cls := "java/lang/StringUTF16", name := "compress", desc := "([CII)[B" } : Jvm.MethodName))).before a0 Z = true := hw _ (List.mem_of_getElem? (i := 73) rfl)
theorem wd74 {Z : State} {a0 : Array Value} (hw : ∀ d ∈ tables_1, d.before a0 Z = true) : ((Jvm.Cond.initialized "java/lang/StringUTF16")).before a0 Z = true := hw _ (List.mem_of_getElem? (i := 74) rfl)
theorem wd75 {Z : State} {a0 : Array Value} (hw : ∀ d ∈ tables_1, d.before a0 Z = true) : ((Jvm.Cond.code ({ cls := "java/lang/StringUTF16", name := "compress", desc := "([CII)[B" } : Jvm.MethodName) jdk_52_method_16_code (6 : Nat) (Option.some (Jvm.ClassFile.FieldType.array Jvm.ClassFile.FieldType.byte)))).before a0 Z = true := hw _ (List.mem_of_getElem? (i := 75) rfl)
theorem wd76 {Z : State} {a0 : Array Value} (hw : ∀ d ∈ tables_1, d.before a0 Z = true) : ((Jvm.Cond.methodLink "java/lang/StringUTF16" (115 : Nat) ({ cls := "java/lang/StringUTF16", name := "compress", desc := "([CI[BII)I" } : Jvm.MethodName))).before a0 Z = true := hw _ (List.mem_of_getElem? (i := 76) rfl)
theorem wd77 {Z : State} {a0 : Array Value} (hw : ∀ d ∈ tables_1, d.before a0 Z = true) : ((Jvm.Cond.static ({ cls := "java/lang/StringUTF16", name := "compress", desc := "([CI[BII)I" } : Jvm.MethodName))).before a0 Z = true := hw _ (List.mem_of_getElem? (i := 77) rfl)
theorem wd78 {Z : State} {a0 : Array Value} (hw : ∀ d ∈ tables_1, d.before a0 Z = true) : ((Jvm.Cond.code ({ cls := "java/lang/StringUTF16", name := "compress", desc := "([CI[BII)I" } : Jvm.MethodName) jdk_52_method_21_code (7 : Nat) (Option.some Jvm.ClassFile.FieldType.int))).before a0 Z = true := hw _ (List.mem_of_getElem? (i := 78) rfl)
theorem wd79 {Z : State} {a0 : Array Value} (hw : ∀ d ∈ tables_1, d.before a0 Z = true) : ((Jvm.Cond.methodLink "java/lang/String" (47 : Nat) ({ cls := "java/lang/StringUTF16", name := "coderFromArrayLen", desc := "([BI)B" } : Jvm.MethodName))).before a0 Z = true := hw _ (List.mem_of_getElem? (i := 79) rfl)
theorem wd80 {Z : State} {a0 : Array Value} (hw : ∀ d ∈ tables_1, d.before a0 Z = true) : ((Jvm.Cond.static ({ cls := "java/lang/StringUTF16", name := "coderFromArrayLen", desc := "([BI)B" } : Jvm.MethodName))).before a0 Z = true := hw _ (List.mem_of_getElem? (i := 80) rfl)
theorem wd81 {Z : State} {a0 : Array Value} (hw : ∀ d ∈ tables_1, d.before a0 Z = true) : ((Jvm.Cond.code ({ cls := "java/lang/StringUTF16", name := "coderFromArrayLen", desc := "([BI)B" } : Jvm.MethodName) jdk_52_method_15_code (2 : Nat) (Option.some Jvm.ClassFile.FieldType.byte))).before a0 Z = true := hw _ (List.mem_of_getElem? (i := 81) rfl)
theorem wd82 {Z : State} {a0 : Array Value} (hw : ∀ d ∈ tables_1, d.before a0 Z = true) : ((Jvm.Cond.methodLink "com/example/oxpecker/oxpecker/MessageTemplateIsTextAlonePinLaw" (19 : Nat) ({ cls := "com/example/oxpecker/oxpecker/MessageTemplateIsTextAlonePinLaw", name := "plain", desc := "(C)Z" } : Jvm.MethodName))).before a0 Z = true := hw _ (List.mem_of_getElem? (i := 82) rfl)
theorem wd83 {Z : State} {a0 : Array Value} (hw : ∀ d ∈ tables_1, d.before a0 Z = true) : ((Jvm.Cond.static ({ cls := "com/example/oxpecker/oxpecker/MessageTemplateIsTextAlonePinLaw", name := "plain", desc := "(C)Z" } : Jvm.MethodName))).before a0 Z = true := hw _ (List.mem_of_getElem? (i := 83) rfl)
theorem wd84 {Z : State} {a0 : Array Value} (hw : ∀ d ∈ tables_1, d.before a0 Z = true) : ((Jvm.Cond.code ({ cls := "com/example/oxpecker/oxpecker/MessageTemplateIsTextAlonePinLaw", name := "plain", desc := "(C)Z" } : Jvm.MethodName) method_4_code (1 : Nat) (Option.some Jvm.ClassFile.FieldType.boolean))).before a0 Z = true := hw _ (List.mem_of_getElem? (i := 84) rfl)
theorem wd85 {Z : State} {a0 : Array Value} (hw : ∀ d ∈ tables_1, d.before a0 Z = true) : ((Jvm.Cond.methodLink "java/lang/StringLatin1" (95 : Nat) ({ cls := "java/lang/StringLatin1", name := "indexOfChar", desc := "([BIII)I" } : Jvm.MethodName))).before a0 Z = true := hw _ (List.mem_of_getElem? (i := 85) rfl)
theorem wd86 {Z : State} {a0 : Array Value} (hw : ∀ d ∈ tables_1, d.before a0 Z = true) : ((Jvm.Cond.static ({ cls := "java/lang/StringLatin1", name := "indexOfChar", desc := "([BIII)I" } : Jvm.MethodName))).before a0 Z = true := hw _ (List.mem_of_getElem? (i := 86) rfl)
theorem wd87 {Z : State} {a0 : Array Value} (hw : ∀ d ∈ tables_1, d.before a0 Z = true) : ((Jvm.Cond.code ({ cls := "java/lang/StringLatin1", name := "indexOfChar", desc := "([BIII)I" } : Jvm.MethodName) jdk_43_method_23_code (6 : Nat) (Option.some Jvm.ClassFile.FieldType.int))).before a0 Z = true := hw _ (List.mem_of_getElem? (i := 87) rfl)
theorem wd88 {Z : State} {a0 : Array Value} (hw : ∀ d ∈ tables_1, d.before a0 Z = true) : ((Jvm.Cond.methodLink "java/lang/StringUTF16" (119 : Nat) ({ cls := "java/lang/StringUTF16", name := "toBytes", desc := "([CII)[B" } : Jvm.MethodName))).before a0 Z = true := hw _ (List.mem_of_getElem? (i := 88) rfl)
theorem wd89 {Z : State} {a0 : Array Value} (hw : ∀ d ∈ tables_1, d.before a0 Z = true) : ((Jvm.Cond.static ({ cls := "java/lang/StringUTF16", name := "toBytes", desc := "([CII)[B" } : Jvm.MethodName))).before a0 Z = true := hw _ (List.mem_of_getElem? (i := 89) rfl)
theorem wd90 {Z : State} {a0 : Array Value} (hw : ∀ d ∈ tables_1, d.before a0 Z = true) : ((Jvm.Cond.code ({ cls := "java/lang/StringUTF16", name := "toBytes", desc := "([CII)[B" } : Jvm.MethodName) jdk_52_method_14_code (5 : Nat) (Option.some (Jvm.ClassFile.FieldType.array Jvm.ClassFile.FieldType.byte)))).before a0 Z = true := hw _ (List.mem_of_getElem? (i := 90) rfl)
theorem wd91 {Z : State} {a0 : Array Value} (hw : ∀ d ∈ tables_1, d.before a0 Z = true) : ((Jvm.Cond.methodLink "java/lang/StringUTF16" (107 : Nat) ({ cls := "java/lang/StringUTF16", name := "newBytesFor", desc := "(I)[B" } : Jvm.MethodName))).before a0 Z = true := hw _ (List.mem_of_getElem? (i := 91) rfl)
theorem wd92 {Z : State} {a0 : Array Value} (hw : ∀ d ∈ tables_1, d.before a0 Z = true) : ((Jvm.Cond.static ({ cls := "java/lang/StringUTF16", name := "newBytesFor", desc := "(I)[B" } : Jvm.MethodName))).before a0 Z = true := hw _ (List.mem_of_getElem? (i := 92) rfl)
theorem wd93 {Z : State} {a0 : Array Value} (hw : ∀ d ∈ tables_1, d.before a0 Z = true) : ((Jvm.Cond.code ({ cls := "java/lang/StringUTF16", name := "newBytesFor", desc := "(I)[B" } : Jvm.MethodName) jdk_52_method_2_code (1 : Nat) (Option.some (Jvm.ClassFile.FieldType.array Jvm.ClassFile.FieldType.byte)))).before a0 Z = true := hw _ (List.mem_of_getElem? (i := 93) rfl)
theorem wd94 {Z : State} {a0 : Array Value} (hw : ∀ d ∈ tables_1, d.before a0 Z = true) : ((Jvm.Cond.methodLink "java/lang/StringUTF16" (11 : Nat) ({ cls := "java/lang/StringUTF16", name := "newBytesLength", desc := "(I)I" } : Jvm.MethodName))).before a0 Z = true := hw _ (List.mem_of_getElem? (i := 94) rfl)
theorem wd95 {Z : State} {a0 : Array Value} (hw : ∀ d ∈ tables_1, d.before a0 Z = true) : ((Jvm.Cond.static ({ cls := "java/lang/StringUTF16", name := "newBytesLength", desc := "(I)I" } : Jvm.MethodName))).before a0 Z = true := hw _ (List.mem_of_getElem? (i := 95) rfl)
theorem wd96 {Z : State} {a0 : Array Value} (hw : ∀ d ∈ tables_1, d.before a0 Z = true) : ((Jvm.Cond.code ({ cls := "java/lang/StringUTF16", name := "newBytesLength", desc := "(I)I" } : Jvm.MethodName) jdk_52_method_3_code (1 : Nat) (Option.some Jvm.ClassFile.FieldType.int))).before a0 Z = true := hw _ (List.mem_of_getElem? (i := 96) rfl)
theorem wd97 {Z : State} {a0 : Array Value} (hw : ∀ d ∈ tables_1, d.before a0 Z = true) : ((Jvm.Cond.constant "java/lang/StringUTF16" (20 : Nat) (1073741823 : Int32))).before a0 Z = true := hw _ (List.mem_of_getElem? (i := 97) rfl)
theorem wd98 {Z : State} {a0 : Array Value} (hw : ∀ d ∈ tables_1, d.before a0 Z = true) : ((Jvm.Cond.methodLink "java/lang/StringUTF16" (111 : Nat) ({ cls := "java/lang/StringUTF16", name := "putChar", desc := "([BII)V" } : Jvm.MethodName))).before a0 Z = true := hw _ (List.mem_of_getElem? (i := 98) rfl)
theorem wd99 {Z : State} {a0 : Array Value} (hw : ∀ d ∈ tables_1, d.before a0 Z = true) : ((Jvm.Cond.static ({ cls := "java/lang/StringUTF16", name := "putChar", desc := "([BII)V" } : Jvm.MethodName))).before a0 Z = true := hw _ (List.mem_of_getElem? (i := 99) rfl)
theorem wd100 {Z : State} {a0 : Array Value} (hw : ∀ d ∈ tables_1, d.before a0 Z = true) : ((Jvm.Cond.code ({ cls := "java/lang/StringUTF16", name := "putChar", desc := "([BII)V" } : Jvm.MethodName) jdk_52_method_4_code (3 : Nat) (Option.none : Option Jvm.ClassFile.FieldType))).before a0 Z = true := hw _ (List.mem_of_getElem? (i := 100) rfl)
theorem wd101 {Z : State} {a0 : Array Value} (hw : ∀ d ∈ tables_1, d.before a0 Z = true) : ((Jvm.Cond.fieldLink "java/lang/StringUTF16" (44 : Nat) "java/lang/StringUTF16" "$assertionsDisabled" "Z")).before a0 Z = true := hw _ (List.mem_of_getElem? (i := 101) rfl)
theorem wd102 {Z : State} {a0 : Array Value} (hw : ∀ d ∈ tables_1, d.before a0 Z = true) : ((Jvm.Cond.fieldLink "java/lang/StringUTF16" (59 : Nat) "java/lang/StringUTF16" "HI_BYTE_SHIFT" "I")).before a0 Z = true := hw _ (List.mem_of_getElem? (i := 102) rfl)
theorem wd103 {Z : State} {a0 : Array Value} (hw : ∀ d ∈ tables_1, d.before a0 Z = true) : ((Jvm.Cond.fieldLink "java/lang/StringUTF16" (63 : Nat) "java/lang/StringUTF16" "LO_BYTE_SHIFT" "I")).before a0 Z = true := hw _ (List.mem_of_getElem? (i := 103) rfl)
theorem wd104 {Z : State} {a0 : Array Value} (hw : ∀ d ∈ tables_1, d.before a0 Z = true) : ((Jvm.Cond.methodLink "java/lang/StringUTF16" (71 : Nat) ({ cls := "java/lang/StringUTF16", name := "getChar", desc := "([BI)C" } : Jvm.MethodName))).before a0 Z = true := hw _ (List.mem_of_getElem? (i := 104) rfl)
theorem wd105 {Z : State} {a0 : Array Value} (hw : ∀ d ∈ tables_1, d.before a0 Z = true) : ((Jvm.Cond.static ({ cls := "java/lang/StringUTF16", name := "getChar", desc := "([BI)C" } : Jvm.MethodName))).before a0 Z = true := hw _ (List.mem_of_getElem? (i := 105) rfl)
theorem wd106 {Z : State} {a0 : Array Value} (hw : ∀ d ∈ tables_1, d.before a0 Z = true) : ((Jvm.Cond.code ({ cls := "java/lang/StringUTF16", name := "getChar", desc := "([BI)C" } : Jvm.MethodName) jdk_52_method_5_code (2 : Nat) (Option.some Jvm.ClassFile.FieldType.char))).before a0 Z = true := hw _ (List.mem_of_getElem? (i := 106) rfl)
theorem wd107 {Z : State} {a0 : Array Value} (hw : ∀ d ∈ tables_1, d.before a0 Z = true) : ((Jvm.Cond.methodLink "java/lang/String" (640 : Nat) ({ cls := "java/lang/StringUTF16", name := "indexOf", desc := "([BIII)I" } : Jvm.MethodName))).before a0 Z = true := hw _ (List.mem_of_getElem? (i := 107) rfl)
theorem wd108 {Z : State} {a0 : Array Value} (hw : ∀ d ∈ tables_1, d.before a0 Z = true) : ((Jvm.Cond.static ({ cls := "java/lang/StringUTF16", name := "indexOf", desc := "([BIII)I" } : Jvm.MethodName))).before a0 Z = true := hw _ (List.mem_of_getElem? (i := 108) rfl)
theorem wd109 {Z : State} {a0 : Array Value} (hw : ∀ d ∈ tables_1, d.before a0 Z = true) : ((Jvm.Cond.code ({ cls := "java/lang/StringUTF16", name := "indexOf", desc := "([BIII)I" } : Jvm.MethodName) jdk_52_method_40_code (4 : Nat) (Option.some Jvm.ClassFile.FieldType.int))).before a0 Z = true := hw _ (List.mem_of_getElem? (i := 109) rfl)
theorem wd110 {Z : State} {a0 : Array Value} (hw : ∀ d ∈ tables_1, d.before a0 Z = true) : ((Jvm.Cond.methodLink "java/lang/StringUTF16" (224 : Nat) ({ cls := "java/lang/Math", name := "max", desc := "(II)I" } : Jvm.MethodName))).before a0 Z = true := hw _ (List.mem_of_getElem? (i := 110) rfl)
theorem wd111 {Z : State} {a0 : Array Value} (hw : ∀ d ∈ tables_1, d.before a0 Z = true) : ((Jvm.Cond.methodLink "java/lang/StringUTF16" (183 : Nat) ({ cls := "java/lang/Math", name := "min", desc := "(II)I" } : Jvm.MethodName))).before a0 Z = true := hw _ (List.mem_of_getElem? (i := 111) rfl)
theorem wd112 {Z : State} {a0 : Array Value} (hw : ∀ d ∈ tables_1, d.before a0 Z = true) : ((Jvm.Cond.constant "java/lang/StringUTF16" (227 : Nat) (65536 : Int32))).before a0 Z = true := hw _ (List.mem_of_getElem? (i := 112) rfl)
theorem wd113 {Z : State} {a0 : Array Value} (hw : ∀ d ∈ tables_1, d.before a0 Z = true) : ((Jvm.Cond.methodLink "java/lang/StringUTF16" (228 : Nat) ({ cls := "java/lang/StringUTF16", name := "indexOfChar", desc := "([BIII)I" } : Jvm.MethodName))).before a0 Z = true := hw _ (List.mem_of_getElem? (i := 113) rfl)
theorem wd114 {Z : State} {a0 : Array Value} (hw : ∀ d ∈ tables_1, d.before a0 Z = true) : ((Jvm.Cond.static ({ cls := "java/lang/StringUTF16", name := "indexOfChar", desc := "([BIII)I" } : Jvm.MethodName))).before a0 Z = true := hw _ (List.mem_of_getElem? (i := 114) rfl)
theorem wd115 {Z : State} {a0 : Array Value} (hw : ∀ d ∈ tables_1, d.before a0 Z = true) : ((Jvm.Cond.code ({ cls := "java/lang/StringUTF16", name := "indexOfChar", desc := "([BIII)I" } : Jvm.MethodName) jdk_52_method_47_code (4 : Nat) (Option.some Jvm.ClassFile.FieldType.int))).before a0 Z = true := hw _ (List.mem_of_getElem? (i := 115) rfl)
theorem wd116 {Z : State} {a0 : Array Value} (hw : ∀ d ∈ tables_1, d.before a0 Z = true) : ((Jvm.Cond.methodLink "java/lang/StringUTF16" (96 : Nat) ({ cls := "java/lang/StringUTF16", name := "checkBoundsBeginEnd", desc := "(II[B)V" } : Jvm.MethodName))).before a0 Z = true := hw _ (List.mem_of_getElem? (i := 116) rfl)
theorem wd117 {Z : State} {a0 : Array Value} (hw : ∀ d ∈ tables_1, d.before a0 Z = true) : ((Jvm.Cond.static ({ cls := "java/lang/StringUTF16", name := "checkBoundsBeginEnd", desc := "(II[B)V" } : Jvm.MethodName))).before a0 Z = true := hw _ (List.mem_of_getElem? (i := 117) rfl)
theorem wd118 {Z : State} {a0 : Array Value} (hw : ∀ d ∈ tables_1, d.before a0 Z = true) : ((Jvm.Cond.code ({ cls := "java/lang/StringUTF16", name := "checkBoundsBeginEnd", desc := "(II[B)V" } : Jvm.MethodName) jdk_52_method_93_code (3 : Nat) (Option.none : Option Jvm.ClassFile.FieldType))).before a0 Z = true := hw _ (List.mem_of_getElem? (i := 118) rfl)
theorem wd119 {Z : State} {a0 : Array Value} (hw : ∀ d ∈ tables_1, d.before a0 Z = true) : ((Jvm.Cond.methodLink "java/lang/StringUTF16" (48 : Nat) ({ cls := "java/lang/StringUTF16", name := "length", desc := "([B)I" } : Jvm.MethodName))).before a0 Z = true := hw _ (List.mem_of_getElem? (i := 119) rfl)
theorem wd120 {Z : State} {a0 : Array Value} (hw : ∀ d ∈ tables_1, d.before a0 Z = true) : ((Jvm.Cond.static ({ cls := "java/lang/StringUTF16", name := "length", desc := "([B)I" } : Jvm.MethodName))).before a0 Z = true := hw _ (List.mem_of_getElem? (i := 120) rfl)
theorem wd121 {Z : State} {a0 : Array Value} (hw : ∀ d ∈ tables_1, d.before a0 Z = true) : ((Jvm.Cond.code ({ cls := "java/lang/StringUTF16", name := "length", desc := "([B)I" } : Jvm.MethodName) jdk_52_method_6_code (1 : Nat) (Option.some Jvm.ClassFile.FieldType.int))).before a0 Z = true := hw _ (List.mem_of_getElem? (i := 121) rfl)
theorem wd122 {Z : State} {a0 : Array Value} (hw : ∀ d ∈ tables_1, d.before a0 Z = true) : ((Jvm.Cond.methodLink "java/lang/StringUTF16" (241 : Nat) ({ cls := "java/lang/String", name := "checkBoundsBeginEnd", desc := "(III)V" } : Jvm.MethodName))).before a0 Z = true := hw _ (List.mem_of_getElem? (i := 122) rfl)
theorem wd123 {Z : State} {a0 : Array Value} (hw : ∀ d ∈ tables_1, d.before a0 Z = true) : ((Jvm.Cond.static ({ cls := "java/lang/String", name := "checkBoundsBeginEnd", desc := "(III)V" } : Jvm.MethodName))).before a0 Z = true := hw _ (List.mem_of_getElem? (i := 123) rfl)
theorem wd124 {Z : State} {a0 : Array Value} (hw : ∀ d ∈ tables_1, d.before a0 Z = true) : ((Jvm.Cond.code ({ cls := "java/lang/String", name := "checkBoundsBeginEnd", desc := "(III)V" } : Jvm.MethodName) jdk_42_method_158_code (3 : Nat) (Option.none : Option Jvm.ClassFile.FieldType))).before a0 Z = true := hw _ (List.mem_of_getElem? (i := 124) rfl)
theorem wd125 {Z : State} {a0 : Array Value} (hw : ∀ d ∈ tables_1, d.before a0 Z = true) : ((Jvm.Cond.fieldLink "java/lang/String" (1053 : Nat) "jdk/internal/util/Preconditions" "SIOOBE_FORMATTER" "Ljava/util/function/BiFunction;")).before a0 Z = true := hw _ (List.mem_of_getElem? (i := 125) rfl)
theorem wd126 {Z : State} {a0 : Array Value} (hw : ∀ d ∈ tables_1, d.before a0 Z = true) : ((Jvm.Cond.initialized "jdk/internal/util/Preconditions")).before a0 Z = true := hw _ (List.mem_of_getElem? (i := 126) rfl)
theorem wd127 {Z : State} {a0 : Array Value} (hw : ∀ d ∈ tables_1, d.before a0 Z = true) : ((Jvm.Cond.methodLink "java/lang/String" (1062 : Nat) ({ cls := "jdk/internal/util/Preconditions", name := "checkFromToIndex", desc := "(IIILjava/util/function/BiFunction;)I" } : Jvm.MethodName))).before a0 Z = true := hw _ (List.mem_of_getElem? (i := 127) rfl)
theorem wd128 {Z : State} {a0 : Array Value} (hw : ∀ d ∈ tables_1, d.before a0 Z = true) : ((Jvm.Cond.static ({ cls := "jdk/internal/util/Preconditions", name := "checkFromToIndex", desc := "(IIILjava/util/function/BiFunction;)I" } : Jvm.MethodName))).before a0 Z = true := hw _ (List.mem_of_getElem? (i := 128) rfl)
theorem wd129 {Z : State} {a0 : Array Value} (hw : ∀ d ∈ tables_1, d.before a0 Z = true) : ((Jvm.Cond.code ({ cls := "jdk/internal/util/Preconditions", name := "checkFromToIndex", desc := "(IIILjava/util/function/BiFunction;)I" } : Jvm.MethodName) jdk_41_method_12_code (4 : Nat) (Option.some Jvm.ClassFile.FieldType.int))).before a0 Z = true := hw _ (List.mem_of_getElem? (i := 129) rfl)
theorem wd130 {Z : State} {a0 : Array Value} (hw : ∀ d ∈ tables_1, d.before a0 Z = true) : ((Jvm.Cond.methodLink "java/lang/StringUTF16" (244 : Nat) ({ cls := "java/lang/StringUTF16", name := "indexOfCharUnsafe", desc := "([BIII)I" } : Jvm.MethodName))).before a0 Z = true := hw _ (List.mem_of_getElem? (i := 130) rfl)
theorem wd131 {Z : State} {a0 : Array Value} (hw : ∀ d ∈ tables_1, d.before a0 Z = true) : ((Jvm.Cond.static ({ cls := "java/lang/StringUTF16", name := "indexOfCharUnsafe", desc := "([BIII)I" } : Jvm.MethodName))).before a0 Z = true := hw _ (List.mem_of_getElem? (i := 131) rfl)
theorem wd132 {Z : State} {a0 : Array Value} (hw : ∀ d ∈ tables_1, d.before a0 Z = true) : ((Jvm.Cond.code ({ cls := "java/lang/StringUTF16", name := "indexOfCharUnsafe", desc := "([BIII)I" } : Jvm.MethodName) jdk_52_method_48_code (5 : Nat) (Option.some Jvm.ClassFile.FieldType.int))).before a0 Z = true := hw _ (List.mem_of_getElem? (i := 132) rfl)

def own_s (Z : State) (h : Heap) (x : Addr) (cs : List Int32) (cd : Int32) : Prop := ∃ (t : Addr) (kb : ClassId) (N : Int32) (vs : List Value), Exa Z h x "java/lang/String" ∧ Fld Z h x "java/lang/String" "value" "[B" (.ref t) ∧ Fld Z h x "java/lang/String" "coder" "B" (.int cd) ∧ Arv Z h t kb .byte N vs (.int 0) ∧ StrChars.Road.CodA cs cd N vs
theorem own_s.ext {Z : State} {h h' : Heap} {x : Addr} {cs : List Int32} {cd : Int32} (F : own_s Z h x cs cd) (E : Ext h h') : own_s Z h' x cs cd := by
 obtain ⟨t, kb, N, vs, a1, a2, a3, a4, a5⟩ := F
 exact ⟨t, kb, N, vs, a1.ext E, a2.ext E, a3.ext E, a4.ext E, a5⟩
def own_env (Z : State) (h : Heap) : Prop := ∃ (z : Int32) (fm : Value), Sta Z h "java/lang/String" "COMPACT_STRINGS" "Z" (.int z) ∧ ¬ z = 0 ∧ Sta Z h "jdk/internal/util/Preconditions" "SIOOBE_FORMATTER" "Ljava/util/function/BiFunction;" fm ∧ fm.isRef = true ∧ Sta Z h "java/lang/StringUTF16" "$assertionsDisabled" "Z" (.int 1) ∧ Sta Z h "java/lang/StringUTF16" "HI_BYTE_SHIFT" "I" (.int 0) ∧ Sta Z h "java/lang/StringUTF16" "LO_BYTE_SHIFT" "I" (.int 8)
theorem own_env.ext {Z : State} {h h' : Heap} (F : own_env Z h) (E : Ext h h') : own_env Z h' := by
 obtain ⟨z, fm, a1, a2, a3, a4, a5, a6, a7⟩ := F
 exact ⟨z, fm, a1.ext E, a2, a3.ext E, a4, a5.ext E, a6.ext E, a7.ext E⟩
theorem own_env.wr {Z : State} {h h' : Heap} {a : Addr} {sl : Nat} {v : Value} (F : own_env Z h) (W : Wr h h' a sl v) (_ : True) : own_env Z h' := by
 obtain ⟨z, fm, a1, a2, a3, a4, a5, a6, a7⟩ := F
 exact ⟨z, fm, a1.wr W, a2, a3.wr W, a4, a5.wr W, a6.wr W, a7.wr W⟩
theorem own_stk {Z : State} {h h' : Heap} {C n d : String} {v : Value} {b : Addr} (F : Sta Z h C n d v) (K : Keep h h' [b]) (q : ∀ cell : Cell, h[b]? = some cell → cell.vm.isStatics = false) : Sta Z h' C n d v := by
 obtain ⟨cf, i, k, f, st, cell, h1, h2, h3, h4, h5, h6, h7⟩ := F
 refine ⟨cf, i, k, f, st, cell, h1, h2, h3, h4, K.2.1 _ _ h5 (fun hm => ?_), h6, h7⟩
 cases List.mem_singleton.mp hm
 rw [q _ h5] at h6
 cases h6
theorem own_env.keep {Z : State} {h h' : Heap} {b : Addr} (F : own_env Z h) (K : Keep h h' [b]) (q : ∀ cell : Cell, h[b]? = some cell → cell.vm.isStatics = false) : own_env Z h' := by
 obtain ⟨z, fm, a1, a2, a3, a4, a5, a6, a7⟩ := F
 exact ⟨z, fm, own_stk a1 K q, a2, own_stk a3 K q, a4, own_stk a5 K q, own_stk a6 K q, own_stk a7 K q⟩
theorem own_ext {h h' : Heap} (K : Keep h h' []) : Ext h h' := ⟨K.1, fun a c q => K.2.1 a c q nin0⟩
def own_b (c : Int32) : Prop := ¬ c < 0 ∧ ¬ (65535 : Int32) < c
theorem own_nar {c : Int32} (h : own_b c) : nar .char c = c := by
 apply Int32.toInt_inj.mp
 have q := c_i2c c
 show (c.toUInt32.toUInt16.toUInt32.toInt32).toInt = _
 obtain ⟨h1, h2⟩ := h
 rw [Int32.lt_iff_toInt_lt] at h1 h2
 have e1 : (0 : Int32).toInt = 0 := rfl
 have e2 : (65535 : Int32).toInt = 65535 := rfl
 omega
theorem own_narc {z : Int32} (h : own_b z) : narrow .char (.int z) = .int z := congrArg Value.int (own_nar h)
theorem own_bc (z : Int32) : own_b (z.toUInt32.toUInt16.toUInt32.toInt32) := by
 have q := c_i2c z
 simp only [own_b, Int32.lt_iff_toInt_lt]
 have e1 : (0 : Int32).toInt = 0 := rfl
 have e2 : (65535 : Int32).toInt = 65535 := rfl
 omega
def own_pk (x : Int32) : Int32 := if (x &&& (3 : Int32)) = 0 then 36 else if (x &&& (3 : Int32)) = 1 then 92 else (((x.toUInt32 >>> ((2 : Int32) &&& 31).toUInt32).toInt32) &&& (65535 : Int32)).toUInt32.toUInt16.toUInt32.toInt32
theorem own_pkb (x : Int32) : own_b (own_pk x) := by
 unfold own_pk
 split
 ·unfold own_b; decide
 split
 ·unfold own_b; decide
 exact own_bc _
def own_pl (c : Int32) : Int32 := if c = 36 then 0 else if c = 92 then 0 else 1
def own_min (x y : Int32) : Int32 := if y < x then y else x
def own_max (x y : Int32) : Int32 := if x < y then y else x
theorem own_lo (x : Int32) : x.toInt8.toInt32.toInt8.toInt32 = StrChars.lo8 x := by
 apply Int32.toInt_inj.mp
 show ((x.toInt8.toInt32).toInt8.toInt32).toInt = (x.toInt8.toInt32).toInt
 have h2 := c_i2b x
 generalize x.toInt8.toInt32 = z at h2 ⊢
 have h3 := c_i2b z
 omega
theorem own_sh0 (x : Int32) : x >>> ((0 : Int32) &&& 31) = x := by
 apply Int32.toInt_inj.mp
 rw [c_ishr x 0 0 (by decide)]
 omega
def own_gc (y0 y1 : Int32) : Int32 := (((y0 &&& (255 : Int32)) <<< ((0 : Int32) &&& 31)) ||| ((y1 &&& (255 : Int32)) <<< ((8 : Int32) &&& 31))).toUInt32.toUInt16.toUInt32.toInt32
theorem own_gcv {c : Int32} (h : own_b c) : own_gc (StrChars.lo8 c) (StrChars.hi8 c) = c := by
 apply Int32.toInt_inj.mp
 unfold own_gc StrChars.hi8 StrChars.lo8
 obtain ⟨h1, h2⟩ := h
 rw [Int32.lt_iff_toInt_lt] at h1 h2
 have e1 : (0 : Int32).toInt = 0 := rfl
 have e2 : (65535 : Int32).toInt = 65535 := rfl
 have r1 := c_ishr c 8 8 (by decide)
 generalize c >>> ((8 : Int32) &&& 31) = d at r1 ⊢
 have a1 := c_i2b c
 generalize c.toInt8.toInt32 = y0 at a1 ⊢
 have a2 := c_i2b d
 generalize d.toInt8.toInt32 = y1 at a2 ⊢
 have b1 := c_mask y0 255 8 (by decide) (by decide)
 have b2 := c_mask y1 255 8 (by decide) (by decide)
 generalize y0 &&& (255 : Int32) = m0 at b1 ⊢
 generalize y1 &&& (255 : Int32) = m1 at b2 ⊢
 have s0 := c_ishl m0 0 0 (by decide)
 have s1 := c_ishl m1 8 8 (by decide)
 have g0 := rng32 (m0 <<< ((0 : Int32) &&& 31))
 have g1 := rng32 (m1 <<< ((8 : Int32) &&& 31))
 generalize m0 <<< ((0 : Int32) &&& 31) = u0 at s0 g0 ⊢
 generalize m1 <<< ((8 : Int32) &&& 31) = u1 at s1 g1 ⊢
 rw [Int32.or_comm]
 have k := c_or u1 u0 8 (by decide) 256 (by decide) (by omega) (by omega) (by omega)
 have g2 := rng32 (u1 ||| u0)
 generalize u1 ||| u0 = w at k g2 ⊢
 have z := c_i2c w
 omega

theorem pn_k0 : plainName "com/example/oxpecker/oxpecker/MessageTemplateIsTextAlonePinLaw" = true := by first | (simp [plainName, overriddenIn]; done) | decide +kernel

theorem pn_k1 : plainName "com/example/oxpecker/oxpecker/MessageTemplate" = true := by first | (simp [plainName, overriddenIn]; done) | decide +kernel

theorem pn_k2 : plainName "java/lang/String" = true := by first | (simp [plainName, overriddenIn]; done) | decide +kernel

theorem pn_k3 : plainName "jdk/internal/util/Preconditions" = true := by first | (simp [plainName, overriddenIn]; done) | decide +kernel

theorem pn_k4 : plainName "java/lang/StringLatin1" = true := by first | (simp [plainName, overriddenIn]; done) | decide +kernel

theorem pn_k5 : plainName "java/lang/StringUTF16" = true := by first | (simp [plainName, overriddenIn]; done) | decide +kernel

theorem d1_0 : decode method_3_code 0 = .ok (.iload_n 0, 1) := by decide +kernel
theorem d1_1 : decode method_3_code 1 = .ok (.iconst 3, 1) := by decide +kernel
theorem d1_2 : decode method_3_code 2 = .ok (.iand, 1) := by decide +kernel
theorem d1_3 : decode method_3_code 3 = .ok (.istore_n 1, 1) := by decide +kernel
theorem d1_4 : decode method_3_code 4 = .ok (.iload_n 1, 1) := by decide +kernel
theorem d1_5 : decode method_3_code 5 = .ok (.ifCond .ne 6, 3) := by decide +kernel
theorem d1_8 : decode method_3_code 8 = .ok (.bipush 36, 2) := by decide +kernel
theorem d1_10 : decode method_3_code 10 = .ok (.ireturn, 1) := by decide +kernel
theorem d1_11 : decode method_3_code 11 = .ok (.iload_n 1, 1) := by decide +kernel
theorem d1_12 : decode method_3_code 12 = .ok (.iconst 1, 1) := by decide +kernel
theorem d1_13 : decode method_3_code 13 = .ok (.if_icmp .ne 6, 3) := by decide +kernel
theorem d1_16 : decode method_3_code 16 = .ok (.bipush 92, 2) := by decide +kernel
theorem d1_18 : decode method_3_code 18 = .ok (.ireturn, 1) := by decide +kernel
theorem d1_19 : decode method_3_code 19 = .ok (.iload_n 0, 1) := by decide +kernel
theorem d1_20 : decode method_3_code 20 = .ok (.iconst 2, 1) := by decide +kernel
theorem d1_21 : decode method_3_code 21 = .ok (.iushr, 1) := by decide +kernel
theorem d1_22 : decode method_3_code 22 = .ok (.ldc 29, 2) := by decide +kernel
theorem d1_24 : decode method_3_code 24 = .ok (.iand, 1) := by decide +kernel
theorem d1_25 : decode method_3_code 25 = .ok (.i2c, 1) := by decide +kernel
theorem d1_26 : decode method_3_code 26 = .ok (.ireturn, 1) := by decide +kernel

theorem pd_pk : parseMethodDescriptor "(I)C" = some ⟨[.int], some .char⟩ := by decide +kernel

theorem ef_pk (m : MethodId) (x0 : Int32)  : entryFrame m #[(.int x0)] 2 = mkF m 0 #[.val (.int x0), .unset] [] := by first | (simp [entryFrame, mkF, argsToLocals, Value.category]; done) | rfl
def Qpk (Z : State) (p1 : Int32) (h0 : Heap) (n0 : Nat) (v : Option Value) (h : Heap) (L : List Loc) : Prop := v = some (.int (own_pk p1)) ∧ Fr n0 L ∧ h = h0
set_option maxRecDepth 65536 in
set_option maxHeartbeats 40000000 in
theorem rmpk (l : Launch) (Z : State) (a0 : Array Value) (hw : ∀ d ∈ tables_1, d.before a0 Z = true) (ws : List Jvm.Cond) (p1 : Int32) (h0 : Heap) (n0 : Nat) (Z0 : n0 ≤ h0.size)  :
  own_M l Z own_z0 method_3_code 2 (some .char) ({ frames := 0, cells := 0, slots := 0, locals := 0 } : Room) ws #[(.int p1)] h0 (Qpk Z p1 h0 n0) := by
 refine MetFree.of_bodySF (plainFor_of_name pn_k0) hisR ?_
 intro p e s m args below meth c s₁ Bd hml0 hP hK
 obtain ⟨rfl, hZ, hh⟩ := hP
 have hx := Bd.exec
 have hby := Bd.bytes
 have hml : c.maxLocals = 2 := hml0
 have hown : s.vm.findClass "com/example/oxpecker/oxpecker/MessageTemplateIsTextAlonePinLaw" = some m.cls := findClass_of_methodNamed Bd.named
 have hnm := (name_of_methodNamed Bd.named Bd.method).1
 have X0 : Stand p l e ({ frames := 0, cells := 0, slots := 0, locals := 0 } : Room) s m #[(.int p1)] below meth c s₁ [] 0 0 := Stand.of_body Bd
 have e0 : s₁.heap = h0 := by rw [← hh, Bd.state]; rfl
 have N0 := Fr.nil n0
 have pre0 : ∀ t, Steps p.tables e below (s₁.setTop (mkF m 0 #[.val (.int p1), .unset] [])) t → Steps p.tables e below (s₁.setTop (entryFrame m #[(.int p1)] 2)) t := fun t k => castTop (ef_pk m p1) k
 have pre1 : ∀ t, Steps p.tables e below (s₁.setTop (mkF m 5 #[.val (.int p1), .val (.int (p1 &&& (3 : Int32)))] [(.int (p1 &&& (3 : Int32)))])) t → Steps p.tables e below (s₁.setTop (entryFrame m #[(.int p1)] 2)) t := fun t k => pre0 t (by
  show Steps p.tables e below (s₁.setTop (mkF m 0 #[.val (.int p1), .unset] [])) _
  refine XS.iloadN X0.here hx rfl (hb hby d1_0) rfl ?_
  refine XS.iconst X0.here hx rfl (hb hby d1_1) ?_
  refine XS.iand X0.here hx rfl (hb hby d1_2) rfl ?_
  refine XS.istoreN X0.here hx rfl (hb hby d1_3) rfl (l' := #[.val (.int p1), .val (.int (p1 &&& (3 : Int32)))]) rfl ?_
  refine XS.iloadN X0.here hx rfl (hb hby d1_4) rfl ?_
  exact k)
 by_cases hc5 : (p1 &&& (3 : Int32)) = (0 : Int32)
 ·have pre2 : ∀ t, Steps p.tables e below (s₁.setTop (mkF m 10 #[.val (.int p1), .val (.int (p1 &&& (3 : Int32)))] [(.int (36 : Int32))])) t → Steps p.tables e below (s₁.setTop (entryFrame m #[(.int p1)] 2)) t := fun t k => pre1 t (by
   show Steps p.tables e below (s₁.setTop (mkF m 5 #[.val (.int p1), .val (.int (p1 &&& (3 : Int32)))] [(.int (p1 &&& (3 : Int32)))])) _
   refine XS.ifNo X0.here hx rfl (hb hby d1_5) rfl ((if0 _ _).trans (teq hc5).2) ?_
   refine XS.bipush X0.here hx rfl (hb hby d1_8) ?_
   exact k)
  obtain ⟨fs3, hr3, hrun3, hended3, hW3, hsame3⟩ := X0.leave (v := some (.int (36 : Int32))) (fun h => by rw [Bd.returns] at h; cases h)
  refine ⟨_, _, pre2 _ ?_, hrun3, hended3, _, _, rfl, ?_, ⟨_, rfl⟩, hW3, hsame3.mono (by decide) (by decide)⟩
  ·show Steps p.tables e below (s₁.setTop (mkF m 10 #[.val (.int p1), .val (.int (p1 &&& (3 : Int32)))] [(.int (36 : Int32))])) _
   exact retOut X0 hx (t := .char) Bd.returns (own_narc (by first | exact own_bc _ | (unfold own_b; decide))) (Or.inl ⟨rfl, by simp, _, rfl⟩) (hb hby d1_10) hr3
  ·show Qpk Z p1 h0 n0 _ s₁.heap _
   rw [e0]
   exact ⟨by unfold own_pk; rw [if_pos hc5], N0, rfl⟩
 have pre4 : ∀ t, Steps p.tables e below (s₁.setTop (mkF m 13 #[.val (.int p1), .val (.int (p1 &&& (3 : Int32)))] [(.int (1 : Int32)), (.int (p1 &&& (3 : Int32)))])) t → Steps p.tables e below (s₁.setTop (entryFrame m #[(.int p1)] 2)) t := fun t k => pre1 t (by
  show Steps p.tables e below (s₁.setTop (mkF m 5 #[.val (.int p1), .val (.int (p1 &&& (3 : Int32)))] [(.int (p1 &&& (3 : Int32)))])) _
  refine XS.ifYes X0.here hx rfl (pc0 := 5) (pc' := 11) rfl (hb hby d1_5) rfl ((if0 _ _).trans (feq hc5).2) (by decide) (by decide) ?_
  refine XS.iloadN X0.here hx rfl (hb hby d1_11) rfl ?_
  refine XS.iconst X0.here hx rfl (hb hby d1_12) ?_
  exact k)
 by_cases hc13 : (p1 &&& (3 : Int32)) = (1 : Int32)
 ·have pre5 : ∀ t, Steps p.tables e below (s₁.setTop (mkF m 18 #[.val (.int p1), .val (.int (p1 &&& (3 : Int32)))] [(.int (92 : Int32))])) t → Steps p.tables e below (s₁.setTop (entryFrame m #[(.int p1)] 2)) t := fun t k => pre4 t (by
   show Steps p.tables e below (s₁.setTop (mkF m 13 #[.val (.int p1), .val (.int (p1 &&& (3 : Int32)))] [(.int (1 : Int32)), (.int (p1 &&& (3 : Int32)))])) _
   refine XS.icmpNo X0.here hx rfl (hb hby d1_13) rfl (teq hc13).2 ?_
   refine XS.bipush X0.here hx rfl (hb hby d1_16) ?_
   exact k)
  obtain ⟨fs6, hr6, hrun6, hended6, hW6, hsame6⟩ := X0.leave (v := some (.int (92 : Int32))) (fun h => by rw [Bd.returns] at h; cases h)
  refine ⟨_, _, pre5 _ ?_, hrun6, hended6, _, _, rfl, ?_, ⟨_, rfl⟩, hW6, hsame6.mono (by decide) (by decide)⟩
  ·show Steps p.tables e below (s₁.setTop (mkF m 18 #[.val (.int p1), .val (.int (p1 &&& (3 : Int32)))] [(.int (92 : Int32))])) _
   exact retOut X0 hx (t := .char) Bd.returns (own_narc (by first | exact own_bc _ | (unfold own_b; decide))) (Or.inl ⟨rfl, by simp, _, rfl⟩) (hb hby d1_18) hr6
  ·show Qpk Z p1 h0 n0 _ s₁.heap _
   rw [e0]
   exact ⟨by unfold own_pk; rw [if_neg hc5, if_pos hc13], N0, rfl⟩
 have pre7 : ∀ t, Steps p.tables e below (s₁.setTop (mkF m 26 #[.val (.int p1), .val (.int (p1 &&& (3 : Int32)))] [(.int ((((p1.toUInt32 >>> ((2 : Int32) &&& 31).toUInt32).toInt32) &&& (65535 : Int32)).toUInt32.toUInt16.toUInt32.toInt32))])) t → Steps p.tables e below (s₁.setTop (entryFrame m #[(.int p1)] 2)) t := fun t k => pre4 t (by
  show Steps p.tables e below (s₁.setTop (mkF m 13 #[.val (.int p1), .val (.int (p1 &&& (3 : Int32)))] [(.int (1 : Int32)), (.int (p1 &&& (3 : Int32)))])) _
  refine XS.icmpYes X0.here hx rfl (pc0 := 13) (pc' := 19) rfl (hb hby d1_13) rfl (feq hc13).2 (by decide) (by decide) ?_
  refine XS.iloadN X0.here hx rfl (hb hby d1_19) rfl ?_
  refine XS.iconst X0.here hx rfl (hb hby d1_20) ?_
  refine XS.iushr X0.here hx rfl (hb hby d1_21) rfl ?_
  refine X0.ldcI hx hown (mvT hZ (wd5 hw)) (g := (mkF m 22 #[.val (.int p1), .val (.int (p1 &&& (3 : Int32)))] [(.int ((p1.toUInt32 >>> ((2 : Int32) &&& 31).toUInt32).toInt32))])) rfl (hb hby d1_22) ?_
  refine XS.iand X0.here hx rfl (hb hby d1_24) rfl ?_
  refine XS.i2c X0.here hx rfl (hb hby d1_25) rfl ?_
  exact k)
 obtain ⟨fs8, hr8, hrun8, hended8, hW8, hsame8⟩ := X0.leave (v := some (.int ((((p1.toUInt32 >>> ((2 : Int32) &&& 31).toUInt32).toInt32) &&& (65535 : Int32)).toUInt32.toUInt16.toUInt32.toInt32))) (fun h => by rw [Bd.returns] at h; cases h)
 refine ⟨_, _, pre7 _ ?_, hrun8, hended8, _, _, rfl, ?_, ⟨_, rfl⟩, hW8, hsame8.mono (by decide) (by decide)⟩
 ·show Steps p.tables e below (s₁.setTop (mkF m 26 #[.val (.int p1), .val (.int (p1 &&& (3 : Int32)))] [(.int ((((p1.toUInt32 >>> ((2 : Int32) &&& 31).toUInt32).toInt32) &&& (65535 : Int32)).toUInt32.toUInt16.toUInt32.toInt32))])) _
  exact retOut X0 hx (t := .char) Bd.returns (own_narc (by first | exact own_bc _ | (unfold own_b; decide))) (Or.inl ⟨rfl, by simp, _, rfl⟩) (hb hby d1_26) hr8
 ·show Qpk Z p1 h0 n0 _ s₁.heap _
  rw [e0]
  exact ⟨by unfold own_pk; rw [if_neg hc5, if_neg hc13], N0, rfl⟩

theorem d18_0 : decode method_4_code 0 = .ok (.iload_n 0, 1) := by decide +kernel
theorem d18_1 : decode method_4_code 1 = .ok (.bipush 36, 2) := by decide +kernel
theorem d18_3 : decode method_4_code 3 = .ok (.if_icmp .eq 13, 3) := by decide +kernel
theorem d18_6 : decode method_4_code 6 = .ok (.iload_n 0, 1) := by decide +kernel
theorem d18_7 : decode method_4_code 7 = .ok (.bipush 92, 2) := by decide +kernel
theorem d18_9 : decode method_4_code 9 = .ok (.if_icmp .eq 7, 3) := by decide +kernel
theorem d18_12 : decode method_4_code 12 = .ok (.iconst 1, 1) := by decide +kernel
theorem d18_13 : decode method_4_code 13 = .ok (.goto 4, 3) := by decide +kernel
theorem d18_16 : decode method_4_code 16 = .ok (.iconst 0, 1) := by decide +kernel
theorem d18_17 : decode method_4_code 17 = .ok (.ireturn, 1) := by decide +kernel

theorem pd_pl : parseMethodDescriptor "(C)Z" = some ⟨[.char], some .boolean⟩ := by decide +kernel

theorem ef_pl (m : MethodId) (x0 : Int32)  : entryFrame m #[(.int x0)] 1 = mkF m 0 #[.val (.int x0)] [] := by first | (simp [entryFrame, mkF, argsToLocals, Value.category]; done) | rfl
def Qpl (Z : State) (p1 : Int32) (h0 : Heap) (n0 : Nat) (v : Option Value) (h : Heap) (L : List Loc) : Prop := v = some (.int (own_pl p1)) ∧ Fr n0 L ∧ h = h0
set_option maxRecDepth 65536 in
set_option maxHeartbeats 40000000 in
theorem rmpl (l : Launch) (Z : State) (a0 : Array Value) (hw : ∀ d ∈ tables_1, d.before a0 Z = true) (ws : List Jvm.Cond) (p1 : Int32) (h0 : Heap) (n0 : Nat) (Z0 : n0 ≤ h0.size)  :
  own_M l Z own_z1 method_4_code 1 (some .boolean) ({ frames := 0, cells := 0, slots := 0, locals := 0 } : Room) ws #[(.int p1)] h0 (Qpl Z p1 h0 n0) := by
 refine MetFree.of_bodySF (plainFor_of_name pn_k0) hisR ?_
 intro p e s m args below meth c s₁ Bd hml0 hP hK
 obtain ⟨rfl, hZ, hh⟩ := hP
 have hx := Bd.exec
 have hby := Bd.bytes
 have hml : c.maxLocals = 1 := hml0
 have hown : s.vm.findClass "com/example/oxpecker/oxpecker/MessageTemplateIsTextAlonePinLaw" = some m.cls := findClass_of_methodNamed Bd.named
 have hnm := (name_of_methodNamed Bd.named Bd.method).1
 have X0 : Stand p l e ({ frames := 0, cells := 0, slots := 0, locals := 0 } : Room) s m #[(.int p1)] below meth c s₁ [] 0 0 := Stand.of_body Bd
 have e0 : s₁.heap = h0 := by rw [← hh, Bd.state]; rfl
 have N0 := Fr.nil n0
 have pre0 : ∀ t, Steps p.tables e below (s₁.setTop (mkF m 0 #[.val (.int p1)] [])) t → Steps p.tables e below (s₁.setTop (entryFrame m #[(.int p1)] 1)) t := fun t k => castTop (ef_pl m p1) k
 have pre1 : ∀ t, Steps p.tables e below (s₁.setTop (mkF m 3 #[.val (.int p1)] [(.int (36 : Int32)), (.int p1)])) t → Steps p.tables e below (s₁.setTop (entryFrame m #[(.int p1)] 1)) t := fun t k => pre0 t (by
  show Steps p.tables e below (s₁.setTop (mkF m 0 #[.val (.int p1)] [])) _
  refine XS.iloadN X0.here hx rfl (hb hby d18_0) rfl ?_
  refine XS.bipush X0.here hx rfl (hb hby d18_1) ?_
  exact k)
 by_cases hc3 : p1 = (36 : Int32)
 ·have pre2 : ∀ t, Steps p.tables e below (s₁.setTop (mkF m 17 #[.val (.int p1)] [(.int (0 : Int32))])) t → Steps p.tables e below (s₁.setTop (entryFrame m #[(.int p1)] 1)) t := fun t k => pre1 t (by
   show Steps p.tables e below (s₁.setTop (mkF m 3 #[.val (.int p1)] [(.int (36 : Int32)), (.int p1)])) _
   refine XS.icmpYes X0.here hx rfl (pc0 := 3) (pc' := 16) rfl (hb hby d18_3) rfl (teq hc3).1 (by decide) (by decide) ?_
   refine XS.iconst X0.here hx rfl (hb hby d18_16) ?_
   exact k)
  obtain ⟨fs3, hr3, hrun3, hended3, hW3, hsame3⟩ := X0.leave (v := some (.int (0 : Int32))) (fun h => by rw [Bd.returns] at h; cases h)
  refine ⟨_, _, pre2 _ ?_, hrun3, hended3, _, _, rfl, ?_, ⟨_, rfl⟩, hW3, hsame3.mono (by decide) (by decide)⟩
  ·show Steps p.tables e below (s₁.setTop (mkF m 17 #[.val (.int p1)] [(.int (0 : Int32))])) _
   exact retN X0 hx (t := .boolean) Bd.returns (by simp) (hb hby d18_17) hr3
  ·show Qpl Z p1 h0 n0 _ s₁.heap _
   rw [e0]
   exact ⟨by unfold own_pl; rw [if_pos hc3], N0, rfl⟩
 have pre4 : ∀ t, Steps p.tables e below (s₁.setTop (mkF m 9 #[.val (.int p1)] [(.int (92 : Int32)), (.int p1)])) t → Steps p.tables e below (s₁.setTop (entryFrame m #[(.int p1)] 1)) t := fun t k => pre1 t (by
  show Steps p.tables e below (s₁.setTop (mkF m 3 #[.val (.int p1)] [(.int (36 : Int32)), (.int p1)])) _
  refine XS.icmpNo X0.here hx rfl (hb hby d18_3) rfl (feq hc3).1 ?_
  refine XS.iloadN X0.here hx rfl (hb hby d18_6) rfl ?_
  refine XS.bipush X0.here hx rfl (hb hby d18_7) ?_
  exact k)
 by_cases hc9 : p1 = (92 : Int32)
 ·have pre5 : ∀ t, Steps p.tables e below (s₁.setTop (mkF m 17 #[.val (.int p1)] [(.int (0 : Int32))])) t → Steps p.tables e below (s₁.setTop (entryFrame m #[(.int p1)] 1)) t := fun t k => pre4 t (by
   show Steps p.tables e below (s₁.setTop (mkF m 9 #[.val (.int p1)] [(.int (92 : Int32)), (.int p1)])) _
   refine XS.icmpYes X0.here hx rfl (pc0 := 9) (pc' := 16) rfl (hb hby d18_9) rfl (teq hc9).1 (by decide) (by decide) ?_
   refine XS.iconst X0.here hx rfl (hb hby d18_16) ?_
   exact k)
  obtain ⟨fs6, hr6, hrun6, hended6, hW6, hsame6⟩ := X0.leave (v := some (.int (0 : Int32))) (fun h => by rw [Bd.returns] at h; cases h)
  refine ⟨_, _, pre5 _ ?_, hrun6, hended6, _, _, rfl, ?_, ⟨_, rfl⟩, hW6, hsame6.mono (by decide) (by decide)⟩
  ·show Steps p.tables e below (s₁.setTop (mkF m 17 #[.val (.int p1)] [(.int (0 : Int32))])) _
   exact retN X0 hx (t := .boolean) Bd.returns (by simp) (hb hby d18_17) hr6
  ·show Qpl Z p1 h0 n0 _ s₁.heap _
   rw [e0]
   exact ⟨by unfold own_pl; rw [if_neg hc3, if_pos hc9], N0, rfl⟩
 have pre7 : ∀ t, Steps p.tables e below (s₁.setTop (mkF m 17 #[.val (.int p1)] [(.int (1 : Int32))])) t → Steps p.tables e below (s₁.setTop (entryFrame m #[(.int p1)] 1)) t := fun t k => pre4 t (by
  show Steps p.tables e below (s₁.setTop (mkF m 9 #[.val (.int p1)] [(.int (92 : Int32)), (.int p1)])) _
  refine XS.icmpNo X0.here hx rfl (hb hby d18_9) rfl (feq hc9).1 ?_
  refine XS.iconst X0.here hx rfl (hb hby d18_12) ?_
  refine XS.goto X0.here hx rfl (pc0 := 13) (pc' := 17) rfl (hb hby d18_13) (by decide) (by decide) ?_
  exact k)
 obtain ⟨fs8, hr8, hrun8, hended8, hW8, hsame8⟩ := X0.leave (v := some (.int (1 : Int32))) (fun h => by rw [Bd.returns] at h; cases h)
 refine ⟨_, _, pre7 _ ?_, hrun8, hended8, _, _, rfl, ?_, ⟨_, rfl⟩, hW8, hsame8.mono (by decide) (by decide)⟩
 ·show Steps p.tables e below (s₁.setTop (mkF m 17 #[.val (.int p1)] [(.int (1 : Int32))])) _
  exact retN X0 hx (t := .boolean) Bd.returns (by simp) (hb hby d18_17) hr8
 ·show Qpl Z p1 h0 n0 _ s₁.heap _
  rw [e0]
  exact ⟨by unfold own_pl; rw [if_neg hc3, if_neg hc9], N0, rfl⟩

theorem d13_0 : decode jdk_29_method_65_code 0 = .ok (.iload_n 0, 1) := by decide +kernel
theorem d13_1 : decode jdk_29_method_65_code 1 = .ok (.iload_n 1, 1) := by decide +kernel
theorem d13_2 : decode jdk_29_method_65_code 2 = .ok (.if_icmp .lt 7, 3) := by decide +kernel
theorem d13_5 : decode jdk_29_method_65_code 5 = .ok (.iload_n 0, 1) := by decide +kernel
theorem d13_6 : decode jdk_29_method_65_code 6 = .ok (.goto 4, 3) := by decide +kernel
theorem d13_9 : decode jdk_29_method_65_code 9 = .ok (.iload_n 1, 1) := by decide +kernel
theorem d13_10 : decode jdk_29_method_65_code 10 = .ok (.ireturn, 1) := by decide +kernel

theorem pd_mx : parseMethodDescriptor "(II)I" = some ⟨[.int, .int], some .int⟩ := by decide +kernel

theorem ef_mx (m : MethodId) (x0 : Int32) (x1 : Int32)  : entryFrame m #[(.int x0), (.int x1)] 2 = mkF m 0 #[.val (.int x0), .val (.int x1)] [] := by first | (simp [entryFrame, mkF, argsToLocals, Value.category]; done) | rfl
def Qmx (Z : State) (p1 p2 r : Int32) (h0 : Heap) (n0 : Nat) (v : Option Value) (h : Heap) (L : List Loc) : Prop := v = some (.int r) ∧ Fr n0 L ∧ h = h0
set_option maxRecDepth 65536 in
set_option maxHeartbeats 40000000 in
theorem rmmx (l : Launch) (Z : State) (a0 : Array Value) (hw : ∀ d ∈ tables_1, d.before a0 Z = true) (ws : List Jvm.Cond) (p1 p2 r : Int32) (h0 : Heap) (n0 : Nat) (Z0 : n0 ≤ h0.size) (hr : own_max p1 p2 = r) :
  own_M l Z own_z2 jdk_29_method_65_code 2 (some .int) ({ frames := 0, cells := 0, slots := 0, locals := 0 } : Room) ws #[(.int p1), (.int p2)] h0 (Qmx Z p1 p2 r h0 n0) := by
 refine MetFree.of_bodySF (Jvm.Free.JP.mathPlain rfl (by decide +kernel)) hisR ?_
 intro p e s m args below meth c s₁ Bd hml0 hP hK
 obtain ⟨rfl, hZ, hh⟩ := hP
 have hx := Bd.exec
 have hby := Bd.bytes
 have hml : c.maxLocals = 2 := hml0
 have hown : s.vm.findClass "java/lang/Math" = some m.cls := findClass_of_methodNamed Bd.named
 have hnm := (name_of_methodNamed Bd.named Bd.method).1
 have X0 : Stand p l e ({ frames := 0, cells := 0, slots := 0, locals := 0 } : Room) s m #[(.int p1), (.int p2)] below meth c s₁ [] 0 0 := Stand.of_body Bd
 have e0 : s₁.heap = h0 := by rw [← hh, Bd.state]; rfl
 have N0 := Fr.nil n0
 have pre0 : ∀ t, Steps p.tables e below (s₁.setTop (mkF m 0 #[.val (.int p1), .val (.int p2)] [])) t → Steps p.tables e below (s₁.setTop (entryFrame m #[(.int p1), (.int p2)] 2)) t := fun t k => castTop (ef_mx m p1 p2) k
 have pre1 : ∀ t, Steps p.tables e below (s₁.setTop (mkF m 2 #[.val (.int p1), .val (.int p2)] [(.int p2), (.int p1)])) t → Steps p.tables e below (s₁.setTop (entryFrame m #[(.int p1), (.int p2)] 2)) t := fun t k => pre0 t (by
  show Steps p.tables e below (s₁.setTop (mkF m 0 #[.val (.int p1), .val (.int p2)] [])) _
  refine XS.iloadN X0.here hx rfl (hb hby d13_0) rfl ?_
  refine XS.iloadN X0.here hx rfl (hb hby d13_1) rfl ?_
  exact k)
 by_cases hc2 : p1 < p2
 ·have pre2 : ∀ t, Steps p.tables e below (s₁.setTop (mkF m 10 #[.val (.int p1), .val (.int p2)] [(.int p2)])) t → Steps p.tables e below (s₁.setTop (entryFrame m #[(.int p1), (.int p2)] 2)) t := fun t k => pre1 t (by
   show Steps p.tables e below (s₁.setTop (mkF m 2 #[.val (.int p1), .val (.int p2)] [(.int p2), (.int p1)])) _
   refine XS.icmpYes X0.here hx rfl (pc0 := 2) (pc' := 9) rfl (hb hby d13_2) rfl (tlt hc2).1 (by decide) (by decide) ?_
   refine XS.iloadN X0.here hx rfl (hb hby d13_9) rfl ?_
   exact k)
  obtain ⟨fs3, hr3, hrun3, hended3, hW3, hsame3⟩ := X0.leave (v := some (.int p2)) (fun h => by rw [Bd.returns] at h; cases h)
  refine ⟨_, _, pre2 _ ?_, hrun3, hended3, _, _, rfl, ?_, ⟨_, rfl⟩, hW3, hsame3.mono (by decide) (by decide)⟩
  ·show Steps p.tables e below (s₁.setTop (mkF m 10 #[.val (.int p1), .val (.int p2)] [(.int p2)])) _
   exact retOut X0 hx (t := .int) Bd.returns rfl (Or.inl ⟨rfl, Or.inl rfl, _, rfl⟩) (hb hby d13_10) hr3
  ·show Qmx Z p1 p2 r h0 n0 _ s₁.heap _
   rw [e0]
   exact ⟨by rw [← hr]; unfold own_max; rw [if_pos hc2], N0, rfl⟩
 have pre4 : ∀ t, Steps p.tables e below (s₁.setTop (mkF m 10 #[.val (.int p1), .val (.int p2)] [(.int p1)])) t → Steps p.tables e below (s₁.setTop (entryFrame m #[(.int p1), (.int p2)] 2)) t := fun t k => pre1 t (by
  show Steps p.tables e below (s₁.setTop (mkF m 2 #[.val (.int p1), .val (.int p2)] [(.int p2), (.int p1)])) _
  refine XS.icmpNo X0.here hx rfl (hb hby d13_2) rfl (flt hc2).1 ?_
  refine XS.iloadN X0.here hx rfl (hb hby d13_5) rfl ?_
  refine XS.goto X0.here hx rfl (pc0 := 6) (pc' := 10) rfl (hb hby d13_6) (by decide) (by decide) ?_
  exact k)
 obtain ⟨fs5, hr5, hrun5, hended5, hW5, hsame5⟩ := X0.leave (v := some (.int p1)) (fun h => by rw [Bd.returns] at h; cases h)
 refine ⟨_, _, pre4 _ ?_, hrun5, hended5, _, _, rfl, ?_, ⟨_, rfl⟩, hW5, hsame5.mono (by decide) (by decide)⟩
 ·show Steps p.tables e below (s₁.setTop (mkF m 10 #[.val (.int p1), .val (.int p2)] [(.int p1)])) _
  exact retOut X0 hx (t := .int) Bd.returns rfl (Or.inl ⟨rfl, Or.inl rfl, _, rfl⟩) (hb hby d13_10) hr5
 ·show Qmx Z p1 p2 r h0 n0 _ s₁.heap _
  rw [e0]
  exact ⟨by rw [← hr]; unfold own_max; rw [if_neg hc2], N0, rfl⟩

theorem d14_0 : decode jdk_29_method_69_code 0 = .ok (.iload_n 0, 1) := by decide +kernel
theorem d14_1 : decode jdk_29_method_69_code 1 = .ok (.iload_n 1, 1) := by decide +kernel
theorem d14_2 : decode jdk_29_method_69_code 2 = .ok (.if_icmp .gt 7, 3) := by decide +kernel
theorem d14_5 : decode jdk_29_method_69_code 5 = .ok (.iload_n 0, 1) := by decide +kernel
theorem d14_6 : decode jdk_29_method_69_code 6 = .ok (.goto 4, 3) := by decide +kernel
theorem d14_9 : decode jdk_29_method_69_code 9 = .ok (.iload_n 1, 1) := by decide +kernel
theorem d14_10 : decode jdk_29_method_69_code 10 = .ok (.ireturn, 1) := by decide +kernel


def Qmn (Z : State) (p1 p2 r : Int32) (h0 : Heap) (n0 : Nat) (v : Option Value) (h : Heap) (L : List Loc) : Prop := v = some (.int r) ∧ Fr n0 L ∧ h = h0
set_option maxRecDepth 65536 in
set_option maxHeartbeats 40000000 in
theorem rmmn (l : Launch) (Z : State) (a0 : Array Value) (hw : ∀ d ∈ tables_1, d.before a0 Z = true) (ws : List Jvm.Cond) (p1 p2 r : Int32) (h0 : Heap) (n0 : Nat) (Z0 : n0 ≤ h0.size) (hr : own_min p1 p2 = r) :
  own_M l Z own_z3 jdk_29_method_69_code 2 (some .int) ({ frames := 0, cells := 0, slots := 0, locals := 0 } : Room) ws #[(.int p1), (.int p2)] h0 (Qmn Z p1 p2 r h0 n0) := by
 refine MetFree.of_bodySF (Jvm.Free.JP.mathPlain rfl (by decide +kernel)) hisR ?_
 intro p e s m args below meth c s₁ Bd hml0 hP hK
 obtain ⟨rfl, hZ, hh⟩ := hP
 have hx := Bd.exec
 have hby := Bd.bytes
 have hml : c.maxLocals = 2 := hml0
 have hown : s.vm.findClass "java/lang/Math" = some m.cls := findClass_of_methodNamed Bd.named
 have hnm := (name_of_methodNamed Bd.named Bd.method).1
 have X0 : Stand p l e ({ frames := 0, cells := 0, slots := 0, locals := 0 } : Room) s m #[(.int p1), (.int p2)] below meth c s₁ [] 0 0 := Stand.of_body Bd
 have e0 : s₁.heap = h0 := by rw [← hh, Bd.state]; rfl
 have N0 := Fr.nil n0
 have pre0 : ∀ t, Steps p.tables e below (s₁.setTop (mkF m 0 #[.val (.int p1), .val (.int p2)] [])) t → Steps p.tables e below (s₁.setTop (entryFrame m #[(.int p1), (.int p2)] 2)) t := fun t k => castTop (ef_mx m p1 p2) k
 have pre1 : ∀ t, Steps p.tables e below (s₁.setTop (mkF m 2 #[.val (.int p1), .val (.int p2)] [(.int p2), (.int p1)])) t → Steps p.tables e below (s₁.setTop (entryFrame m #[(.int p1), (.int p2)] 2)) t := fun t k => pre0 t (by
  show Steps p.tables e below (s₁.setTop (mkF m 0 #[.val (.int p1), .val (.int p2)] [])) _
  refine XS.iloadN X0.here hx rfl (hb hby d14_0) rfl ?_
  refine XS.iloadN X0.here hx rfl (hb hby d14_1) rfl ?_
  exact k)
 by_cases hc2 : p2 < p1
 ·have pre2 : ∀ t, Steps p.tables e below (s₁.setTop (mkF m 10 #[.val (.int p1), .val (.int p2)] [(.int p2)])) t → Steps p.tables e below (s₁.setTop (entryFrame m #[(.int p1), (.int p2)] 2)) t := fun t k => pre1 t (by
   show Steps p.tables e below (s₁.setTop (mkF m 2 #[.val (.int p1), .val (.int p2)] [(.int p2), (.int p1)])) _
   refine XS.icmpYes X0.here hx rfl (pc0 := 2) (pc' := 9) rfl (hb hby d14_2) rfl (tlt hc2).2.2.1 (by decide) (by decide) ?_
   refine XS.iloadN X0.here hx rfl (hb hby d14_9) rfl ?_
   exact k)
  obtain ⟨fs3, hr3, hrun3, hended3, hW3, hsame3⟩ := X0.leave (v := some (.int p2)) (fun h => by rw [Bd.returns] at h; cases h)
  refine ⟨_, _, pre2 _ ?_, hrun3, hended3, _, _, rfl, ?_, ⟨_, rfl⟩, hW3, hsame3.mono (by decide) (by decide)⟩
  ·show Steps p.tables e below (s₁.setTop (mkF m 10 #[.val (.int p1), .val (.int p2)] [(.int p2)])) _
   exact retOut X0 hx (t := .int) Bd.returns rfl (Or.inl ⟨rfl, Or.inl rfl, _, rfl⟩) (hb hby d14_10) hr3
  ·show Qmn Z p1 p2 r h0 n0 _ s₁.heap _
   rw [e0]
   exact ⟨by rw [← hr]; unfold own_min; rw [if_pos hc2], N0, rfl⟩
 have pre4 : ∀ t, Steps p.tables e below (s₁.setTop (mkF m 10 #[.val (.int p1), .val (.int p2)] [(.int p1)])) t → Steps p.tables e below (s₁.setTop (entryFrame m #[(.int p1), (.int p2)] 2)) t := fun t k => pre1 t (by
  show Steps p.tables e below (s₁.setTop (mkF m 2 #[.val (.int p1), .val (.int p2)] [(.int p2), (.int p1)])) _
  refine XS.icmpNo X0.here hx rfl (hb hby d14_2) rfl (flt hc2).2.2.1 ?_
  refine XS.iloadN X0.here hx rfl (hb hby d14_5) rfl ?_
  refine XS.goto X0.here hx rfl (pc0 := 6) (pc' := 10) rfl (hb hby d14_6) (by decide) (by decide) ?_
  exact k)
 obtain ⟨fs5, hr5, hrun5, hended5, hW5, hsame5⟩ := X0.leave (v := some (.int p1)) (fun h => by rw [Bd.returns] at h; cases h)
 refine ⟨_, _, pre4 _ ?_, hrun5, hended5, _, _, rfl, ?_, ⟨_, rfl⟩, hW5, hsame5.mono (by decide) (by decide)⟩
 ·show Steps p.tables e below (s₁.setTop (mkF m 10 #[.val (.int p1), .val (.int p2)] [(.int p1)])) _
  exact retOut X0 hx (t := .int) Bd.returns rfl (Or.inl ⟨rfl, Or.inl rfl, _, rfl⟩) (hb hby d14_10) hr5
 ·show Qmn Z p1 p2 r h0 n0 _ s₁.heap _
  rw [e0]
  exact ⟨by rw [← hr]; unfold own_min; rw [if_neg hc2], N0, rfl⟩

theorem d12_0 : decode jdk_43_method_4_code 0 = .ok (.iload_n 0, 1) := by decide +kernel
theorem d12_1 : decode jdk_43_method_4_code 1 = .ok (.ifCond .lt 14, 3) := by decide +kernel
theorem d12_4 : decode jdk_43_method_4_code 4 = .ok (.iload_n 0, 1) := by decide +kernel
theorem d12_5 : decode jdk_43_method_4_code 5 = .ok (.sipush 255, 3) := by decide +kernel
theorem d12_8 : decode jdk_43_method_4_code 8 = .ok (.if_icmp .gt 7, 3) := by decide +kernel
theorem d12_11 : decode jdk_43_method_4_code 11 = .ok (.iconst 1, 1) := by decide +kernel
theorem d12_12 : decode jdk_43_method_4_code 12 = .ok (.goto 4, 3) := by decide +kernel
theorem d12_16 : decode jdk_43_method_4_code 16 = .ok (.ireturn, 1) := by decide +kernel

theorem pd_ce : parseMethodDescriptor "(I)Z" = some ⟨[.int], some .boolean⟩ := by decide +kernel

def Qce (Z : State) (p1 : Int32) (h0 : Heap) (n0 : Nat) (v : Option Value) (h : Heap) (L : List Loc) : Prop := v = some (.int (1 : Int32)) ∧ Fr n0 L ∧ h = h0
set_option maxRecDepth 65536 in
set_option maxHeartbeats 40000000 in
theorem rmce (l : Launch) (Z : State) (a0 : Array Value) (hw : ∀ d ∈ tables_1, d.before a0 Z = true) (ws : List Jvm.Cond) (p1 : Int32) (h0 : Heap) (n0 : Nat) (Z0 : n0 ≤ h0.size) (hp1 : ¬ p1 < (0 : Int32)) (hp2 : ¬ (255 : Int32) < p1) :
  own_M l Z own_z4 jdk_43_method_4_code 1 (some .boolean) ({ frames := 0, cells := 0, slots := 0, locals := 0 } : Room) ws #[(.int p1)] h0 (Qce Z p1 h0 n0) := by
 refine MetFree.of_bodySF (plainFor_of_name pn_k4) hisR ?_
 intro p e s m args below meth c s₁ Bd hml0 hP hK
 obtain ⟨rfl, hZ, hh⟩ := hP
 have hx := Bd.exec
 have hby := Bd.bytes
 have hml : c.maxLocals = 1 := hml0
 have hown : s.vm.findClass "java/lang/StringLatin1" = some m.cls := findClass_of_methodNamed Bd.named
 have hnm := (name_of_methodNamed Bd.named Bd.method).1
 have X0 : Stand p l e ({ frames := 0, cells := 0, slots := 0, locals := 0 } : Room) s m #[(.int p1)] below meth c s₁ [] 0 0 := Stand.of_body Bd
 have e0 : s₁.heap = h0 := by rw [← hh, Bd.state]; rfl
 have N0 := Fr.nil n0
 have pre0 : ∀ t, Steps p.tables e below (s₁.setTop (mkF m 0 #[.val (.int p1)] [])) t → Steps p.tables e below (s₁.setTop (entryFrame m #[(.int p1)] 1)) t := fun t k => castTop (ef_pl m p1) k
 have pre1 : ∀ t, Steps p.tables e below (s₁.setTop (mkF m 16 #[.val (.int p1)] [(.int (1 : Int32))])) t → Steps p.tables e below (s₁.setTop (entryFrame m #[(.int p1)] 1)) t := fun t k => pre0 t (by
  show Steps p.tables e below (s₁.setTop (mkF m 0 #[.val (.int p1)] [])) _
  refine XS.iloadN X0.here hx rfl (hb hby d12_0) rfl ?_
  refine XS.ifNo X0.here hx rfl (hb hby d12_1) rfl ((if0 _ _).trans (flt hp1).1) ?_
  refine XS.iloadN X0.here hx rfl (hb hby d12_4) rfl ?_
  refine XS.sipush X0.here hx rfl (hb hby d12_5) ?_
  refine XS.icmpNo X0.here hx rfl (hb hby d12_8) rfl (flt hp2).2.2.1 ?_
  refine XS.iconst X0.here hx rfl (hb hby d12_11) ?_
  refine XS.goto X0.here hx rfl (pc0 := 12) (pc' := 16) rfl (hb hby d12_12) (by decide) (by decide) ?_
  exact k)
 obtain ⟨fs2, hr2, hrun2, hended2, hW2, hsame2⟩ := X0.leave (v := some (.int (1 : Int32))) (fun h => by rw [Bd.returns] at h; cases h)
 refine ⟨_, _, pre1 _ ?_, hrun2, hended2, _, _, rfl, ?_, ⟨_, rfl⟩, hW2, hsame2.mono (by decide) (by decide)⟩
 ·show Steps p.tables e below (s₁.setTop (mkF m 16 #[.val (.int p1)] [(.int (1 : Int32))])) _
  exact retN X0 hx (t := .boolean) Bd.returns (by simp) (hb hby d12_16) hr2
 ·show Qce Z p1 h0 n0 _ s₁.heap _
  rw [e0]
  exact ⟨rfl, N0, rfl⟩

theorem d30_0 : decode jdk_41_method_12_code 0 = .ok (.iload_n 0, 1) := by decide +kernel
theorem d30_1 : decode jdk_41_method_12_code 1 = .ok (.ifCond .lt 13, 3) := by decide +kernel
theorem d30_4 : decode jdk_41_method_12_code 4 = .ok (.iload_n 0, 1) := by decide +kernel
theorem d30_5 : decode jdk_41_method_12_code 5 = .ok (.iload_n 1, 1) := by decide +kernel
theorem d30_6 : decode jdk_41_method_12_code 6 = .ok (.if_icmp .gt 8, 3) := by decide +kernel
theorem d30_9 : decode jdk_41_method_12_code 9 = .ok (.iload_n 1, 1) := by decide +kernel
theorem d30_10 : decode jdk_41_method_12_code 10 = .ok (.iload_n 2, 1) := by decide +kernel
theorem d30_11 : decode jdk_41_method_12_code 11 = .ok (.if_icmp .le 11, 3) := by decide +kernel
theorem d30_22 : decode jdk_41_method_12_code 22 = .ok (.iload_n 0, 1) := by decide +kernel
theorem d30_23 : decode jdk_41_method_12_code 23 = .ok (.ireturn, 1) := by decide +kernel

theorem pd_cf : parseMethodDescriptor "(IIILjava/util/function/BiFunction;)I" = some ⟨[.int, .int, .int, (.object "java/util/function/BiFunction")], some .int⟩ := by decide +kernel

theorem ef_cf (m : MethodId) (x0 : Int32) (x1 : Int32) (x2 : Int32) (x3 : Value) (hx3 : x3.isRef = true) : entryFrame m #[(.int x0), (.int x1), (.int x2), x3] 4 = mkF m 0 #[.val (.int x0), .val (.int x1), .val (.int x2), .val x3] [] := by
 rcases ref_cases hx3 with rfl | ⟨_, rfl⟩ <;> first | (simp [entryFrame, mkF, argsToLocals, Value.category]; done) | rfl
def Qcf (Z : State) (p1 p2 p3 : Int32) (fm : Value) (h0 : Heap) (n0 : Nat) (v : Option Value) (h : Heap) (L : List Loc) : Prop := v = some (.int p1) ∧ Fr n0 L ∧ h = h0
set_option maxRecDepth 65536 in
set_option maxHeartbeats 40000000 in
theorem rmcf (l : Launch) (Z : State) (a0 : Array Value) (hw : ∀ d ∈ tables_1, d.before a0 Z = true) (ws : List Jvm.Cond) (p1 p2 p3 : Int32) (fm : Value) (h0 : Heap) (n0 : Nat) (Z0 : n0 ≤ h0.size) (hfm : fm.isRef = true) (hp1 : ¬ p1 < (0 : Int32)) (hp2 : ¬ p2 < p1) (hp3 : ¬ p3 < p2) :
  own_M l Z own_z5 jdk_41_method_12_code 4 (some .int) ({ frames := 0, cells := 0, slots := 0, locals := 0 } : Room) ws #[(.int p1), (.int p2), (.int p3), fm] h0 (Qcf Z p1 p2 p3 fm h0 n0) := by
 refine MetFree.of_bodySF (plainFor_of_name pn_k3) hisR ?_
 intro p e s m args below meth c s₁ Bd hml0 hP hK
 obtain ⟨rfl, hZ, hh⟩ := hP
 have hx := Bd.exec
 have hby := Bd.bytes
 have hml : c.maxLocals = 4 := hml0
 have hown : s.vm.findClass "jdk/internal/util/Preconditions" = some m.cls := findClass_of_methodNamed Bd.named
 have hnm := (name_of_methodNamed Bd.named Bd.method).1
 have X0 : Stand p l e ({ frames := 0, cells := 0, slots := 0, locals := 0 } : Room) s m #[(.int p1), (.int p2), (.int p3), fm] below meth c s₁ [] 0 0 := Stand.of_body Bd
 have e0 : s₁.heap = h0 := by rw [← hh, Bd.state]; rfl
 have N0 := Fr.nil n0
 have pre0 : ∀ t, Steps p.tables e below (s₁.setTop (mkF m 0 #[.val (.int p1), .val (.int p2), .val (.int p3), .val fm] [])) t → Steps p.tables e below (s₁.setTop (entryFrame m #[(.int p1), (.int p2), (.int p3), fm] 4)) t := fun t k => castTop (ef_cf m p1 p2 p3 fm hfm) k
 have pre1 : ∀ t, Steps p.tables e below (s₁.setTop (mkF m 23 #[.val (.int p1), .val (.int p2), .val (.int p3), .val fm] [(.int p1)])) t → Steps p.tables e below (s₁.setTop (entryFrame m #[(.int p1), (.int p2), (.int p3), fm] 4)) t := fun t k => pre0 t (by
  show Steps p.tables e below (s₁.setTop (mkF m 0 #[.val (.int p1), .val (.int p2), .val (.int p3), .val fm] [])) _
  refine XS.iloadN X0.here hx rfl (hb hby d30_0) rfl ?_
  refine XS.ifNo X0.here hx rfl (hb hby d30_1) rfl ((if0 _ _).trans (flt hp1).1) ?_
  refine XS.iloadN X0.here hx rfl (hb hby d30_4) rfl ?_
  refine XS.iloadN X0.here hx rfl (hb hby d30_5) rfl ?_
  refine XS.icmpNo X0.here hx rfl (hb hby d30_6) rfl (flt hp2).2.2.1 ?_
  refine XS.iloadN X0.here hx rfl (hb hby d30_9) rfl ?_
  refine XS.iloadN X0.here hx rfl (hb hby d30_10) rfl ?_
  refine XS.icmpYes X0.here hx rfl (pc0 := 11) (pc' := 22) rfl (hb hby d30_11) rfl (flt hp3).2.2.2 (by decide) (by decide) ?_
  refine XS.iloadN X0.here hx rfl (hb hby d30_22) rfl ?_
  exact k)
 obtain ⟨fs2, hr2, hrun2, hended2, hW2, hsame2⟩ := X0.leave (v := some (.int p1)) (fun h => by rw [Bd.returns] at h; cases h)
 refine ⟨_, _, pre1 _ ?_, hrun2, hended2, _, _, rfl, ?_, ⟨_, rfl⟩, hW2, hsame2.mono (by decide) (by decide)⟩
 ·show Steps p.tables e below (s₁.setTop (mkF m 23 #[.val (.int p1), .val (.int p2), .val (.int p3), .val fm] [(.int p1)])) _
  exact retOut X0 hx (t := .int) Bd.returns rfl (Or.inl ⟨rfl, Or.inl rfl, _, rfl⟩) (hb hby d30_23) hr2
 ·show Qcf Z p1 p2 p3 fm h0 n0 _ s₁.heap _
  rw [e0]
  exact ⟨rfl, N0, rfl⟩

theorem d29_0 : decode jdk_42_method_158_code 0 = .ok (.iload_n 0, 1) := by decide +kernel
theorem d29_1 : decode jdk_42_method_158_code 1 = .ok (.iload_n 1, 1) := by decide +kernel
theorem d29_2 : decode jdk_42_method_158_code 2 = .ok (.iload_n 2, 1) := by decide +kernel
theorem d29_3 : decode jdk_42_method_158_code 3 = .ok (.getstatic 1053, 3) := by decide +kernel
theorem d29_6 : decode jdk_42_method_158_code 6 = .ok (.invokestatic 1062, 3) := by decide +kernel
theorem d29_9 : decode jdk_42_method_158_code 9 = .ok (.pop, 1) := by decide +kernel
theorem d29_10 : decode jdk_42_method_158_code 10 = .ok (.return_, 1) := by decide +kernel

theorem pd_cb : parseMethodDescriptor "(III)V" = some ⟨[.int, .int, .int], none⟩ := by decide +kernel

theorem ef_cb (m : MethodId) (x0 : Int32) (x1 : Int32) (x2 : Int32)  : entryFrame m #[(.int x0), (.int x1), (.int x2)] 3 = mkF m 0 #[.val (.int x0), .val (.int x1), .val (.int x2)] [] := by first | (simp [entryFrame, mkF, argsToLocals, Value.category]; done) | rfl
def Qcb (Z : State) (p1 p2 p3 : Int32) (h0 : Heap) (n0 : Nat) (v : Option Value) (h : Heap) (L : List Loc) : Prop := v = none ∧ Fr n0 L ∧ h = h0
set_option maxRecDepth 65536 in
set_option maxHeartbeats 40000000 in
theorem rmcb (l : Launch) (Z : State) (a0 : Array Value) (hw : ∀ d ∈ tables_1, d.before a0 Z = true) (ws : List Jvm.Cond) (p1 p2 p3 : Int32) (h0 : Heap) (n0 : Nat) (Z0 : n0 ≤ h0.size) (EN : own_env Z h0) (hp1 : ¬ p1 < (0 : Int32)) (hp2 : ¬ p2 < p1) (hp3 : ¬ p3 < p2) :
  own_M l Z own_z6 jdk_42_method_158_code 3 none ({ frames := 1, cells := 0, slots := 0, locals := 16 } : Room) ws #[(.int p1), (.int p2), (.int p3)] h0 (Qcb Z p1 p2 p3 h0 n0) := by
 refine MetFree.of_bodySF (plainFor_of_name pn_k2) hisR ?_
 intro p e s m args below meth c s₁ Bd hml0 hP hK
 obtain ⟨rfl, hZ, hh⟩ := hP
 have hx := Bd.exec
 have hby := Bd.bytes
 have hml : c.maxLocals = 3 := hml0
 have hown : s.vm.findClass "java/lang/String" = some m.cls := findClass_of_methodNamed Bd.named
 have hnm := (name_of_methodNamed Bd.named Bd.method).1
 have X0 : Stand p l e ({ frames := 1, cells := 0, slots := 0, locals := 16 } : Room) s m #[(.int p1), (.int p2), (.int p3)] below meth c s₁ [] 0 0 := Stand.of_body Bd
 have e0 : s₁.heap = h0 := by rw [← hh, Bd.state]; rfl
 have N0 := Fr.nil n0
 have pre0 : ∀ t, Steps p.tables e below (s₁.setTop (mkF m 0 #[.val (.int p1), .val (.int p2), .val (.int p3)] [])) t → Steps p.tables e below (s₁.setTop (entryFrame m #[(.int p1), (.int p2), (.int p3)] 3)) t := fun t k => castTop (ef_cb m p1 p2 p3) k
 obtain ⟨z, fm, Sz, hz, Sf, hfm, Sa, Sh, Sl⟩ := EN
 obtain ⟨T1, X1, e1, st1⟩ := getS2 X0 hx hZ hown (host := "") (Or.inl (wd125 hw)) Via.refl e0 Sf (g := (mkF m 3 #[.val (.int p1), .val (.int p2), .val (.int p3)] [(.int p3), (.int p2), (.int p1)])) rfl (hb hby d29_3)
 obtain ⟨_, _, ⟨T2, L2, k2, n2⟩, -, X2, ⟨Lc2, hQ2, l2, y2, z2⟩, st2⟩ := Jvm.LawKit.callS X1 hx (y := own_z5) hown (mvT hZ (wd127 hw)) (mvT hZ (wd128 hw)) (mvT hZ (wd126 hw)) (mvT hZ (wd129 hw)) (by decide) (backOf (W := 0) (rmcf l Z a0 hw [] p1 p2 p3 fm h0 n0 Z0 hfm hp1 hp2 hp3) hZ (wd129 hw) (wd126 hw) (by decide) (by decide)) (g := (mkF m 6 #[.val (.int p1), .val (.int p2), .val (.int p3)] [fm, (.int p3), (.int p2), (.int p1)])) rfl (by rw [hml]; rfl) (argsL := [(.int p1), (.int p2), (.int p3), fm]) (rest := []) (lenOf pd_cf rfl) rfl (by show 2 * 0 + _ ≤ _; exact Nat.le_of_eq rfl) (hb hby d29_6) (fun _ _ => ⟨rfl, e1, (by decide : 0 + 0 ≤ _), (by decide : 0 + 0 ≤ _)⟩)
 dsimp only [Pt.U, Pt.locs, Pt.cells, Pt.slots] at X2 l2 y2 z2 st2 hQ2
 subst l2 y2 z2
 obtain ⟨rfl, N2q, q2⟩ := hQ2
 have N2 := Fr.app N0 N2q
 have pre3 : ∀ t, Steps p.tables e below (T2.setTop (mkF m 10 #[.val (.int p1), .val (.int p2), .val (.int p3)] [])) t → Steps p.tables e below (s₁.setTop (entryFrame m #[(.int p1), (.int p2), (.int p3)] 3)) t := fun t k => pre0 t (by
  show Steps p.tables e below (s₁.setTop (mkF m 0 #[.val (.int p1), .val (.int p2), .val (.int p3)] [])) _
  refine XS.iloadN X0.here hx rfl (hb hby d29_0) rfl ?_
  refine XS.iloadN X0.here hx rfl (hb hby d29_1) rfl ?_
  refine XS.iloadN X0.here hx rfl (hb hby d29_2) rfl ?_
  refine st1 _ ?_
  refine st2 _ ?_
  refine XS.pop X2.here hx rfl (hb hby d29_9) rfl rfl ?_
  exact k)
 obtain ⟨fs4, hr4, hrun4, hended4, hW4, hsame4⟩ := X2.leave (v := none) (fun _ => rfl)
 refine ⟨_, _, pre3 _ ?_, hrun4, hended4, _, _, rfl, ?_, ⟨_, rfl⟩, hW4, hsame4.mono (by decide) (by decide)⟩
 ·show Steps p.tables e below (T2.setTop (mkF m 10 #[.val (.int p1), .val (.int p2), .val (.int p3)] [])) _
  exact X2.returnOut hx Bd.returns (hb hby d29_10) hr4
 ·show Qcb Z p1 p2 p3 h0 n0 _ T2.heap _
  rw [q2]
  exact ⟨rfl, N2, rfl⟩

theorem d8_0 : decode jdk_42_method_154_code 0 = .ok (.getstatic 38, 3) := by decide +kernel
theorem d8_3 : decode jdk_42_method_154_code 3 = .ok (.ifCond .eq 14, 3) := by decide +kernel
theorem d8_6 : decode jdk_42_method_154_code 6 = .ok (.aload_n 0, 1) := by decide +kernel
theorem d8_7 : decode jdk_42_method_154_code 7 = .ok (.getfield 15, 3) := by decide +kernel
theorem d8_10 : decode jdk_42_method_154_code 10 = .ok (.ifCond .ne 7, 3) := by decide +kernel
theorem d8_13 : decode jdk_42_method_154_code 13 = .ok (.iconst 1, 1) := by decide +kernel
theorem d8_14 : decode jdk_42_method_154_code 14 = .ok (.goto 4, 3) := by decide +kernel
theorem d8_17 : decode jdk_42_method_154_code 17 = .ok (.iconst 0, 1) := by decide +kernel
theorem d8_18 : decode jdk_42_method_154_code 18 = .ok (.ireturn, 1) := by decide +kernel

theorem pd_l1 : parseMethodDescriptor "()Z" = some ⟨[], some .boolean⟩ := by decide +kernel

theorem ef_l1 (m : MethodId) (x0 : Addr)  : entryFrame m #[(.ref x0)] 1 = mkF m 0 #[.val (.ref x0)] [] := by first | (simp [entryFrame, mkF, argsToLocals, Value.category]; done) | rfl
def Ql1 (Z : State) (a1 : Addr) (h0 : Heap) (n0 : Nat) (v : Option Value) (h : Heap) (L : List Loc) : Prop := v = some (.int (1 : Int32)) ∧ Fr n0 L ∧ h = h0
set_option maxRecDepth 65536 in
set_option maxHeartbeats 40000000 in
theorem rml1 (l : Launch) (Z : State) (a0 : Array Value) (hw : ∀ d ∈ tables_1, d.before a0 Z = true) (ws : List Jvm.Cond) (a1 : Addr) (h0 : Heap) (n0 : Nat) (Z0 : n0 ≤ h0.size) (EN : own_env Z h0) (C1 : Fld Z h0 a1 "java/lang/String" "coder" "B" (.int 0)) :
  own_M l Z own_z7 jdk_42_method_154_code 1 (some .boolean) ({ frames := 0, cells := 0, slots := 0, locals := 0 } : Room) ws #[(.ref a1)] h0 (Ql1 Z a1 h0 n0) := by
 refine MetFree.of_bodySF (plainFor_of_name pn_k2) hisR ?_
 intro p e s m args below meth c s₁ Bd hml0 hP hK
 obtain ⟨rfl, hZ, hh⟩ := hP
 have hx := Bd.exec
 have hby := Bd.bytes
 have hml : c.maxLocals = 1 := hml0
 have hown : s.vm.findClass "java/lang/String" = some m.cls := findClass_of_methodNamed Bd.named
 have hnm := (name_of_methodNamed Bd.named Bd.method).1
 have X0 : Stand p l e ({ frames := 0, cells := 0, slots := 0, locals := 0 } : Room) s m #[(.ref a1)] below meth c s₁ [] 0 0 := Stand.of_body Bd
 have e0 : s₁.heap = h0 := by rw [← hh, Bd.state]; rfl
 have N0 := Fr.nil n0
 have pre0 : ∀ t, Steps p.tables e below (s₁.setTop (mkF m 0 #[.val (.ref a1)] [])) t → Steps p.tables e below (s₁.setTop (entryFrame m #[(.ref a1)] 1)) t := fun t k => castTop (ef_l1 m a1) k
 obtain ⟨z, fm, Sz, hz, Sf, hfm, Sa, Sh, Sl⟩ := EN
 obtain ⟨T1, X1, e1, st1⟩ := getS2 X0 hx hZ hown (host := "") (Or.inl (wd47 hw)) Via.refl e0 Sz (g := (mkF m 0 #[.val (.ref a1)] [])) rfl (hb hby d8_0)
 obtain ⟨T2, X2, e2, st2⟩ := getF X1 hx hZ hown (host := "") (Or.inl (wd27 hw)) Via.refl e1 C1 (g := (mkF m 7 #[.val (.ref a1)] [(.ref a1)])) rfl rfl (hb hby d8_7)
 have pre3 : ∀ t, Steps p.tables e below (T2.setTop (mkF m 18 #[.val (.ref a1)] [(.int (1 : Int32))])) t → Steps p.tables e below (s₁.setTop (entryFrame m #[(.ref a1)] 1)) t := fun t k => pre0 t (by
  show Steps p.tables e below (s₁.setTop (mkF m 0 #[.val (.ref a1)] [])) _
  refine st1 _ ?_
  refine XS.ifNo X1.here hx rfl (hb hby d8_3) rfl ((if0 _ _).trans (feq hz).1) ?_
  refine XS.aloadN X1.here hx rfl (hb hby d8_6) rfl rfl ?_
  refine st2 _ ?_
  refine XS.ifNo X2.here hx rfl (hb hby d8_10) rfl ((if0 _ _).trans (teq (by decide : (0 : Int32) = (0 : Int32))).2) ?_
  refine XS.iconst X2.here hx rfl (hb hby d8_13) ?_
  refine XS.goto X2.here hx rfl (pc0 := 14) (pc' := 18) rfl (hb hby d8_14) (by decide) (by decide) ?_
  exact k)
 obtain ⟨fs4, hr4, hrun4, hended4, hW4, hsame4⟩ := X2.leave (v := some (.int (1 : Int32))) (fun h => by rw [Bd.returns] at h; cases h)
 refine ⟨_, _, pre3 _ ?_, hrun4, hended4, _, _, rfl, ?_, ⟨_, rfl⟩, hW4, hsame4.mono (by decide) (by decide)⟩
 ·show Steps p.tables e below (T2.setTop (mkF m 18 #[.val (.ref a1)] [(.int (1 : Int32))])) _
  exact retN X2 hx (t := .boolean) Bd.returns (by simp) (hb hby d8_18) hr4
 ·show Ql1 Z a1 h0 n0 _ T2.heap _
  rw [e2]
  exact ⟨rfl, N0, rfl⟩


def Ql1w (Z : State) (a1 : Addr) (h0 : Heap) (n0 : Nat) (v : Option Value) (h : Heap) (L : List Loc) : Prop := v = some (.int (0 : Int32)) ∧ Fr n0 L ∧ h = h0
set_option maxRecDepth 65536 in
set_option maxHeartbeats 40000000 in
theorem rml1w (l : Launch) (Z : State) (a0 : Array Value) (hw : ∀ d ∈ tables_1, d.before a0 Z = true) (ws : List Jvm.Cond) (a1 : Addr) (h0 : Heap) (n0 : Nat) (Z0 : n0 ≤ h0.size) (EN : own_env Z h0) (C1 : Fld Z h0 a1 "java/lang/String" "coder" "B" (.int 1)) :
  own_M l Z own_z7 jdk_42_method_154_code 1 (some .boolean) ({ frames := 0, cells := 0, slots := 0, locals := 0 } : Room) ws #[(.ref a1)] h0 (Ql1w Z a1 h0 n0) := by
 refine MetFree.of_bodySF (plainFor_of_name pn_k2) hisR ?_
 intro p e s m args below meth c s₁ Bd hml0 hP hK
 obtain ⟨rfl, hZ, hh⟩ := hP
 have hx := Bd.exec
 have hby := Bd.bytes
 have hml : c.maxLocals = 1 := hml0
 have hown : s.vm.findClass "java/lang/String" = some m.cls := findClass_of_methodNamed Bd.named
 have hnm := (name_of_methodNamed Bd.named Bd.method).1
 have X0 : Stand p l e ({ frames := 0, cells := 0, slots := 0, locals := 0 } : Room) s m #[(.ref a1)] below meth c s₁ [] 0 0 := Stand.of_body Bd
 have e0 : s₁.heap = h0 := by rw [← hh, Bd.state]; rfl
 have N0 := Fr.nil n0
 have pre0 : ∀ t, Steps p.tables e below (s₁.setTop (mkF m 0 #[.val (.ref a1)] [])) t → Steps p.tables e below (s₁.setTop (entryFrame m #[(.ref a1)] 1)) t := fun t k => castTop (ef_l1 m a1) k
 obtain ⟨z, fm, Sz, hz, Sf, hfm, Sa, Sh, Sl⟩ := EN
 obtain ⟨T1, X1, e1, st1⟩ := getS2 X0 hx hZ hown (host := "") (Or.inl (wd47 hw)) Via.refl e0 Sz (g := (mkF m 0 #[.val (.ref a1)] [])) rfl (hb hby d8_0)
 obtain ⟨T2, X2, e2, st2⟩ := getF X1 hx hZ hown (host := "") (Or.inl (wd27 hw)) Via.refl e1 C1 (g := (mkF m 7 #[.val (.ref a1)] [(.ref a1)])) rfl rfl (hb hby d8_7)
 have pre3 : ∀ t, Steps p.tables e below (T2.setTop (mkF m 18 #[.val (.ref a1)] [(.int (0 : Int32))])) t → Steps p.tables e below (s₁.setTop (entryFrame m #[(.ref a1)] 1)) t := fun t k => pre0 t (by
  show Steps p.tables e below (s₁.setTop (mkF m 0 #[.val (.ref a1)] [])) _
  refine st1 _ ?_
  refine XS.ifNo X1.here hx rfl (hb hby d8_3) rfl ((if0 _ _).trans (feq hz).1) ?_
  refine XS.aloadN X1.here hx rfl (hb hby d8_6) rfl rfl ?_
  refine st2 _ ?_
  refine XS.ifYes X2.here hx rfl (pc0 := 10) (pc' := 17) rfl (hb hby d8_10) rfl ((if0 _ _).trans (feq (by decide : ¬ ((1 : Int32) = (0 : Int32)))).2) (by decide) (by decide) ?_
  refine XS.iconst X2.here hx rfl (hb hby d8_17) ?_
  exact k)
 obtain ⟨fs4, hr4, hrun4, hended4, hW4, hsame4⟩ := X2.leave (v := some (.int (0 : Int32))) (fun h => by rw [Bd.returns] at h; cases h)
 refine ⟨_, _, pre3 _ ?_, hrun4, hended4, _, _, rfl, ?_, ⟨_, rfl⟩, hW4, hsame4.mono (by decide) (by decide)⟩
 ·show Steps p.tables e below (T2.setTop (mkF m 18 #[.val (.ref a1)] [(.int (0 : Int32))])) _
  exact retN X2 hx (t := .boolean) Bd.returns (by simp) (hb hby d8_18) hr4
 ·show Ql1w Z a1 h0 n0 _ T2.heap _
  rw [e2]
  exact ⟨rfl, N0, rfl⟩

theorem d28_0 : decode jdk_52_method_6_code 0 = .ok (.aload_n 0, 1) := by decide +kernel
theorem d28_1 : decode jdk_52_method_6_code 1 = .ok (.arraylength, 1) := by decide +kernel
theorem d28_2 : decode jdk_52_method_6_code 2 = .ok (.iconst 1, 1) := by decide +kernel
theorem d28_3 : decode jdk_52_method_6_code 3 = .ok (.ishr, 1) := by decide +kernel
theorem d28_4 : decode jdk_52_method_6_code 4 = .ok (.ireturn, 1) := by decide +kernel

theorem pd_ul : parseMethodDescriptor "([B)I" = some ⟨[(.array .byte)], some .int⟩ := by decide +kernel

def Qul (Z : State) (a1 : Addr) (k1 : ClassId) (vs : List Value) (NZ : Int32) (h0 : Heap) (n0 : Nat) (v : Option Value) (h : Heap) (L : List Loc) : Prop := v = some (.int (NZ >>> ((1 : Int32) &&& 31))) ∧ Fr n0 L ∧ h = h0
set_option maxRecDepth 65536 in
set_option maxHeartbeats 40000000 in
theorem rmul (l : Launch) (Z : State) (a0 : Array Value) (hw : ∀ d ∈ tables_1, d.before a0 Z = true) (ws : List Jvm.Cond) (a1 : Addr) (k1 : ClassId) (vs : List Value) (NZ : Int32) (h0 : Heap) (n0 : Nat) (Z0 : n0 ≤ h0.size) (As : Arv Z h0 a1 k1 .byte NZ vs (.int 0)) :
  own_M l Z own_z8 jdk_52_method_6_code 1 (some .int) ({ frames := 0, cells := 0, slots := 0, locals := 0 } : Room) ws #[(.ref a1)] h0 (Qul Z a1 k1 vs NZ h0 n0) := by
 refine MetFree.of_bodySF (plainFor_of_name pn_k5) hisR ?_
 intro p e s m args below meth c s₁ Bd hml0 hP hK
 obtain ⟨rfl, hZ, hh⟩ := hP
 have hx := Bd.exec
 have hby := Bd.bytes
 have hml : c.maxLocals = 1 := hml0
 have hown : s.vm.findClass "java/lang/StringUTF16" = some m.cls := findClass_of_methodNamed Bd.named
 have hnm := (name_of_methodNamed Bd.named Bd.method).1
 have X0 : Stand p l e ({ frames := 0, cells := 0, slots := 0, locals := 0 } : Room) s m #[(.ref a1)] below meth c s₁ [] 0 0 := Stand.of_body Bd
 have e0 : s₁.heap = h0 := by rw [← hh, Bd.state]; rfl
 have N0 := Fr.nil n0
 have pre0 : ∀ t, Steps p.tables e below (s₁.setTop (mkF m 0 #[.val (.ref a1)] [])) t → Steps p.tables e below (s₁.setTop (entryFrame m #[(.ref a1)] 1)) t := fun t k => castTop (ef_l1 m a1) k
 have Vc1 := As
 obtain ⟨cl1, Ar1, qq1, sz1, nn1, Ha1, Gf1⟩ := Vc1
 have pre2 : ∀ t, Steps p.tables e below (s₁.setTop (mkF m 4 #[.val (.ref a1)] [(.int (NZ >>> ((1 : Int32) &&& 31)))])) t → Steps p.tables e below (s₁.setTop (entryFrame m #[(.ref a1)] 1)) t := fun t k => pre0 t (by
  show Steps p.tables e below (s₁.setTop (mkF m 0 #[.val (.ref a1)] [])) _
  refine XS.aloadN X0.here hx rfl (hb hby d28_0) rfl rfl ?_
  refine X0.arraylength hx (by rw [e0]; exact Ar1.1) (State.isArrayOf_alike hZ.alike Ar1.2.1) (g := (mkF m 1 #[.val (.ref a1)] [(.ref a1)])) rfl rfl (hb hby d28_1) _ ?_
  rw [len_of sz1 nn1]
  refine XS.iconst X0.here hx rfl (hb hby d28_2) ?_
  refine XS.ishr X0.here hx rfl (hb hby d28_3) rfl ?_
  exact k)
 obtain ⟨fs3, hr3, hrun3, hended3, hW3, hsame3⟩ := X0.leave (v := some (.int (NZ >>> ((1 : Int32) &&& 31)))) (fun h => by rw [Bd.returns] at h; cases h)
 refine ⟨_, _, pre2 _ ?_, hrun3, hended3, _, _, rfl, ?_, ⟨_, rfl⟩, hW3, hsame3.mono (by decide) (by decide)⟩
 ·show Steps p.tables e below (s₁.setTop (mkF m 4 #[.val (.ref a1)] [(.int (NZ >>> ((1 : Int32) &&& 31)))])) _
  exact retOut X0 hx (t := .int) Bd.returns rfl (Or.inl ⟨rfl, Or.inl rfl, _, rfl⟩) (hb hby d28_4) hr3
 ·show Qul Z a1 k1 vs NZ h0 n0 _ s₁.heap _
  rw [e0]
  exact ⟨rfl, N0, rfl⟩

theorem d27_0 : decode jdk_52_method_93_code 0 = .ok (.iload_n 0, 1) := by decide +kernel
theorem d27_1 : decode jdk_52_method_93_code 1 = .ok (.iload_n 1, 1) := by decide +kernel
theorem d27_2 : decode jdk_52_method_93_code 2 = .ok (.aload_n 2, 1) := by decide +kernel
theorem d27_3 : decode jdk_52_method_93_code 3 = .ok (.invokestatic 48, 3) := by decide +kernel
theorem d27_6 : decode jdk_52_method_93_code 6 = .ok (.invokestatic 241, 3) := by decide +kernel
theorem d27_9 : decode jdk_52_method_93_code 9 = .ok (.return_, 1) := by decide +kernel

theorem pd_ub : parseMethodDescriptor "(II[B)V" = some ⟨[.int, .int, (.array .byte)], none⟩ := by decide +kernel

theorem ef_ub (m : MethodId) (x0 : Int32) (x1 : Int32) (x2 : Addr)  : entryFrame m #[(.int x0), (.int x1), (.ref x2)] 3 = mkF m 0 #[.val (.int x0), .val (.int x1), .val (.ref x2)] [] := by first | (simp [entryFrame, mkF, argsToLocals, Value.category]; done) | rfl
def Qub (Z : State) (a1 : Addr) (k1 : ClassId) (vs : List Value) (NZ n : Int32) (h0 : Heap) (n0 : Nat) (v : Option Value) (h : Heap) (L : List Loc) : Prop := v = none ∧ Fr n0 L ∧ h = h0
set_option maxRecDepth 65536 in
set_option maxHeartbeats 40000000 in
theorem rmub (l : Launch) (Z : State) (a0 : Array Value) (hw : ∀ d ∈ tables_1, d.before a0 Z = true) (ws : List Jvm.Cond) (a1 : Addr) (k1 : ClassId) (vs : List Value) (NZ n : Int32) (h0 : Heap) (n0 : Nat) (Z0 : n0 ≤ h0.size) (As : Arv Z h0 a1 k1 .byte NZ vs (.int 0)) (EN : own_env Z h0) (hsh : NZ >>> ((1 : Int32) &&& 31) = n) (hn0 : ¬ n < (0 : Int32)) :
  own_M l Z own_z9 jdk_52_method_93_code 3 none ({ frames := 2, cells := 0, slots := 0, locals := 30 } : Room) ws #[(.int (0 : Int32)), (.int n), (.ref a1)] h0 (Qub Z a1 k1 vs NZ n h0 n0) := by
 refine MetFree.of_bodySF (plainFor_of_name pn_k5) hisR ?_
 intro p e s m args below meth c s₁ Bd hml0 hP hK
 obtain ⟨rfl, hZ, hh⟩ := hP
 have hx := Bd.exec
 have hby := Bd.bytes
 have hml : c.maxLocals = 3 := hml0
 have hown : s.vm.findClass "java/lang/StringUTF16" = some m.cls := findClass_of_methodNamed Bd.named
 have hnm := (name_of_methodNamed Bd.named Bd.method).1
 have X0 : Stand p l e ({ frames := 2, cells := 0, slots := 0, locals := 30 } : Room) s m #[(.int (0 : Int32)), (.int n), (.ref a1)] below meth c s₁ [] 0 0 := Stand.of_body Bd
 have e0 : s₁.heap = h0 := by rw [← hh, Bd.state]; rfl
 have N0 := Fr.nil n0
 have pre0 : ∀ t, Steps p.tables e below (s₁.setTop (mkF m 0 #[.val (.int (0 : Int32)), .val (.int n), .val (.ref a1)] [])) t → Steps p.tables e below (s₁.setTop (entryFrame m #[(.int (0 : Int32)), (.int n), (.ref a1)] 3)) t := fun t k => castTop (ef_ub m (0 : Int32) n a1) k
 obtain ⟨_, _, ⟨T1, L1, k1, n1⟩, -, X1, ⟨Lc1, hQ1, l1, y1, z1⟩, st1⟩ := Jvm.LawKit.callS X0 hx (y := own_z8) hown (mvT hZ (wd119 hw)) (mvT hZ (wd120 hw)) (mvT hZ (wd74 hw)) (mvT hZ (wd121 hw)) (by decide) (backOf (W := 2) (rmul l Z a0 hw [] a1 k1 vs NZ h0 n0 Z0 As) hZ (wd121 hw) (wd74 hw) (by decide) (by decide)) (g := (mkF m 3 #[.val (.int (0 : Int32)), .val (.int n), .val (.ref a1)] [(.ref a1), (.int n), (.int (0 : Int32))])) rfl (by rw [hml]; rfl) (argsL := [(.ref a1)]) (rest := [(.int n), (.int (0 : Int32))]) (lenOf pd_ul rfl) rfl (by show 2 * 0 + _ ≤ _; exact Nat.le_of_eq rfl) (hb hby d27_3) (fun _ _ => ⟨rfl, e0, (by decide : 0 + 0 ≤ _), (by decide : 0 + 0 ≤ _)⟩)
 dsimp only [Pt.U, Pt.locs, Pt.cells, Pt.slots] at X1 l1 y1 z1 st1 hQ1
 subst l1 y1 z1
 obtain ⟨rfl, N1q, q1⟩ := hQ1
 have N1 := Fr.app N0 N1q
 obtain ⟨_, _, ⟨T2, L2, k2, n2⟩, -, X2, ⟨Lc2, hQ2, l2, y2, z2⟩, st2⟩ := Jvm.LawKit.callS X1 hx (y := own_z6) hown (mvT hZ (wd122 hw)) (mvT hZ (wd123 hw)) (mvT hZ (wd8 hw)) (mvT hZ (wd124 hw)) (by decide) (backOf (W := 0) (rmcb l Z a0 hw [] (0 : Int32) n (NZ >>> ((1 : Int32) &&& 31)) h0 n0 Z0 EN (by decide) hn0 (by rw [hsh, Int32.lt_iff_toInt_lt]; omega)) hZ (wd124 hw) (wd8 hw) (by decide) (by decide)) (g := (mkF m 6 #[.val (.int (0 : Int32)), .val (.int n), .val (.ref a1)] [(.int (NZ >>> ((1 : Int32) &&& 31))), (.int n), (.int (0 : Int32))])) rfl (by rw [hml]; rfl) (argsL := [(.int (0 : Int32)), (.int n), (.int (NZ >>> ((1 : Int32) &&& 31)))]) (rest := []) (lenOf pd_cb rfl) rfl (by show 2 * 0 + _ ≤ _; exact Nat.le_of_eq rfl) (hb hby d27_6) (fun _ _ => ⟨rfl, q1, (by decide : 0 + 0 ≤ _), (by decide : 0 + 0 ≤ _)⟩)
 dsimp only [Pt.U, Pt.locs, Pt.cells, Pt.slots] at X2 l2 y2 z2 st2 hQ2
 subst l2 y2 z2
 obtain ⟨rfl, N2q, q2⟩ := hQ2
 have N2 := Fr.app N1 N2q
 have pre3 : ∀ t, Steps p.tables e below (T2.setTop (mkF m 9 #[.val (.int (0 : Int32)), .val (.int n), .val (.ref a1)] [])) t → Steps p.tables e below (s₁.setTop (entryFrame m #[(.int (0 : Int32)), (.int n), (.ref a1)] 3)) t := fun t k => pre0 t (by
  show Steps p.tables e below (s₁.setTop (mkF m 0 #[.val (.int (0 : Int32)), .val (.int n), .val (.ref a1)] [])) _
  refine XS.iloadN X0.here hx rfl (hb hby d27_0) rfl ?_
  refine XS.iloadN X0.here hx rfl (hb hby d27_1) rfl ?_
  refine XS.aloadN X0.here hx rfl (hb hby d27_2) rfl rfl ?_
  refine st1 _ ?_
  refine st2 _ ?_
  exact k)
 obtain ⟨fs4, hr4, hrun4, hended4, hW4, hsame4⟩ := X2.leave (v := none) (fun _ => rfl)
 refine ⟨_, _, pre3 _ ?_, hrun4, hended4, _, _, rfl, ?_, ⟨_, rfl⟩, hW4, hsame4.mono (by decide) (by decide)⟩
 ·show Steps p.tables e below (T2.setTop (mkF m 9 #[.val (.int (0 : Int32)), .val (.int n), .val (.ref a1)] [])) _
  exact X2.returnOut hx Bd.returns (hb hby d27_9) hr4
 ·show Qub Z a1 k1 vs NZ n h0 n0 _ T2.heap _
  rw [q2]
  exact ⟨rfl, N2, rfl⟩

def own_rd (cl : Cell) (j y : Int32) : Prop := ¬ (j < 0 ∨ cl.slots.size ≤ j.toNatClampNeg) ∧ cl.slots[j.toNatClampNeg]? = some (.int y)
theorem own_rdOf {c : Cell} {z j y : Int32} {vs : List Value} {dv : Value} (S : c.slots.size = z.toNatClampNeg) (H : Has c vs dv) (q : ¬ j < 0 ∧ j < z) (u : vs.getD j.toNatClampNeg dv = .int y) : own_rd c j y := ⟨inb_of S q, Has.at H (inb_of S q) u⟩

theorem d24_0 : decode jdk_52_method_5_code 0 = .ok (.getstatic 44, 3) := by decide +kernel
theorem d24_3 : decode jdk_52_method_5_code 3 = .ok (.ifCond .ne 25, 3) := by decide +kernel
theorem d24_28 : decode jdk_52_method_5_code 28 = .ok (.iload_n 1, 1) := by decide +kernel
theorem d24_29 : decode jdk_52_method_5_code 29 = .ok (.iconst 1, 1) := by decide +kernel
theorem d24_30 : decode jdk_52_method_5_code 30 = .ok (.ishl, 1) := by decide +kernel
theorem d24_31 : decode jdk_52_method_5_code 31 = .ok (.istore_n 1, 1) := by decide +kernel
theorem d24_32 : decode jdk_52_method_5_code 32 = .ok (.aload_n 0, 1) := by decide +kernel
theorem d24_33 : decode jdk_52_method_5_code 33 = .ok (.iload_n 1, 1) := by decide +kernel
theorem d24_34 : decode jdk_52_method_5_code 34 = .ok (.iinc 1 1, 3) := by decide +kernel
theorem d24_37 : decode jdk_52_method_5_code 37 = .ok (.baload, 1) := by decide +kernel
theorem d24_38 : decode jdk_52_method_5_code 38 = .ok (.sipush 255, 3) := by decide +kernel
theorem d24_41 : decode jdk_52_method_5_code 41 = .ok (.iand, 1) := by decide +kernel
theorem d24_42 : decode jdk_52_method_5_code 42 = .ok (.getstatic 59, 3) := by decide +kernel
theorem d24_45 : decode jdk_52_method_5_code 45 = .ok (.ishl, 1) := by decide +kernel
theorem d24_46 : decode jdk_52_method_5_code 46 = .ok (.aload_n 0, 1) := by decide +kernel
theorem d24_47 : decode jdk_52_method_5_code 47 = .ok (.iload_n 1, 1) := by decide +kernel
theorem d24_48 : decode jdk_52_method_5_code 48 = .ok (.baload, 1) := by decide +kernel
theorem d24_49 : decode jdk_52_method_5_code 49 = .ok (.sipush 255, 3) := by decide +kernel
theorem d24_52 : decode jdk_52_method_5_code 52 = .ok (.iand, 1) := by decide +kernel
theorem d24_53 : decode jdk_52_method_5_code 53 = .ok (.getstatic 63, 3) := by decide +kernel
theorem d24_56 : decode jdk_52_method_5_code 56 = .ok (.ishl, 1) := by decide +kernel
theorem d24_57 : decode jdk_52_method_5_code 57 = .ok (.ior, 1) := by decide +kernel
theorem d24_58 : decode jdk_52_method_5_code 58 = .ok (.i2c, 1) := by decide +kernel
theorem d24_59 : decode jdk_52_method_5_code 59 = .ok (.ireturn, 1) := by decide +kernel

theorem pd_gc : parseMethodDescriptor "([BI)C" = some ⟨[(.array .byte), .int], some .char⟩ := by decide +kernel

theorem ef_gc (m : MethodId) (x0 : Addr) (x1 : Int32)  : entryFrame m #[(.ref x0), (.int x1)] 2 = mkF m 0 #[.val (.ref x0), .val (.int x1)] [] := by first | (simp [entryFrame, mkF, argsToLocals, Value.category]; done) | rfl
def Qgc (Z : State) (a1 : Addr) (cl : Cell) (p1 y0 y1 r : Int32) (h0 : Heap) (n0 : Nat) (v : Option Value) (h : Heap) (L : List Loc) : Prop := v = some (.int r) ∧ Fr n0 L ∧ h = h0
set_option maxRecDepth 65536 in
set_option maxHeartbeats 40000000 in
theorem rmgc (l : Launch) (Z : State) (a0 : Array Value) (hw : ∀ d ∈ tables_1, d.before a0 Z = true) (ws : List Jvm.Cond) (a1 : Addr) (cl : Cell) (p1 y0 y1 r : Int32) (h0 : Heap) (n0 : Nat) (Z0 : n0 ≤ h0.size) (EN : own_env Z h0) (hr : own_gc y0 y1 = r) (A : Arr Z h0 a1 cl .byte) (r0 : own_rd cl (p1 <<< ((1 : Int32) &&& 31)) y0) (r1 : own_rd cl ((p1 <<< ((1 : Int32) &&& 31)) + (1 : Int32)) y1) :
  own_M l Z own_z10 jdk_52_method_5_code 2 (some .char) ({ frames := 0, cells := 0, slots := 0, locals := 0 } : Room) ws #[(.ref a1), (.int p1)] h0 (Qgc Z a1 cl p1 y0 y1 r h0 n0) := by
 refine MetFree.of_bodySF (plainFor_of_name pn_k5) hisR ?_
 intro p e s m args below meth c s₁ Bd hml0 hP hK
 obtain ⟨rfl, hZ, hh⟩ := hP
 have hx := Bd.exec
 have hby := Bd.bytes
 have hml : c.maxLocals = 2 := hml0
 have hown : s.vm.findClass "java/lang/StringUTF16" = some m.cls := findClass_of_methodNamed Bd.named
 have hnm := (name_of_methodNamed Bd.named Bd.method).1
 have X0 : Stand p l e ({ frames := 0, cells := 0, slots := 0, locals := 0 } : Room) s m #[(.ref a1), (.int p1)] below meth c s₁ [] 0 0 := Stand.of_body Bd
 have e0 : s₁.heap = h0 := by rw [← hh, Bd.state]; rfl
 have N0 := Fr.nil n0
 have pre0 : ∀ t, Steps p.tables e below (s₁.setTop (mkF m 0 #[.val (.ref a1), .val (.int p1)] [])) t → Steps p.tables e below (s₁.setTop (entryFrame m #[(.ref a1), (.int p1)] 2)) t := fun t k => castTop (ef_gc m a1 p1) k
 obtain ⟨z, fm, Sz, hz, Sf, hfm, Sa, Sh, Sl⟩ := EN
 obtain ⟨T1, X1, e1, st1⟩ := getS2 X0 hx hZ hown (host := "") (Or.inl (wd101 hw)) Via.refl e0 Sa (g := (mkF m 0 #[.val (.ref a1), .val (.int p1)] [])) rfl (hb hby d24_0)
 obtain ⟨T2, X2, e2, st2⟩ := getS2 X1 hx hZ hown (host := "") (Or.inl (wd102 hw)) Via.refl e1 Sh (g := (mkF m 42 #[.val (.ref a1), .val (.int ((p1 <<< ((1 : Int32) &&& 31)) + (1 : Int32)))] [(.int (y0 &&& (255 : Int32)))])) rfl (hb hby d24_42)
 obtain ⟨T3, X3, e3, st3⟩ := getS2 X2 hx hZ hown (host := "") (Or.inl (wd103 hw)) Via.refl e2 Sl (g := (mkF m 53 #[.val (.ref a1), .val (.int ((p1 <<< ((1 : Int32) &&& 31)) + (1 : Int32)))] [(.int (y1 &&& (255 : Int32))), (.int ((y0 &&& (255 : Int32)) <<< ((0 : Int32) &&& 31)))])) rfl (hb hby d24_53)
 have pre4 : ∀ t, Steps p.tables e below (T3.setTop (mkF m 59 #[.val (.ref a1), .val (.int ((p1 <<< ((1 : Int32) &&& 31)) + (1 : Int32)))] [(.int ((((y0 &&& (255 : Int32)) <<< ((0 : Int32) &&& 31)) ||| ((y1 &&& (255 : Int32)) <<< ((8 : Int32) &&& 31))).toUInt32.toUInt16.toUInt32.toInt32))])) t → Steps p.tables e below (s₁.setTop (entryFrame m #[(.ref a1), (.int p1)] 2)) t := fun t k => pre0 t (by
  show Steps p.tables e below (s₁.setTop (mkF m 0 #[.val (.ref a1), .val (.int p1)] [])) _
  refine st1 _ ?_
  refine XS.ifYes X1.here hx rfl (pc0 := 3) (pc' := 28) rfl (hb hby d24_3) rfl ((if0 _ _).trans (feq (by decide : ¬ ((1 : Int32) = (0 : Int32)))).2) (by decide) (by decide) ?_
  refine XS.iloadN X1.here hx rfl (hb hby d24_28) rfl ?_
  refine XS.iconst X1.here hx rfl (hb hby d24_29) ?_
  refine XS.ishl X1.here hx rfl (hb hby d24_30) rfl ?_
  refine XS.istoreN X1.here hx rfl (hb hby d24_31) rfl (l' := #[.val (.ref a1), .val (.int (p1 <<< ((1 : Int32) &&& 31)))]) rfl ?_
  refine XS.aloadN X1.here hx rfl (hb hby d24_32) rfl rfl ?_
  refine XS.iloadN X1.here hx rfl (hb hby d24_33) rfl ?_
  refine XS.iinc X1.here hx rfl (hb hby d24_34) rfl (l' := #[.val (.ref a1), .val (.int ((p1 <<< ((1 : Int32) &&& 31)) + (1 : Int32)))]) rfl ?_
  refine X1.baloadBytes hx (j := (p1 <<< ((1 : Int32) &&& 31))) (v := (.int y0)) (by rw [e1]; exact A.1) (State.isArrayOf_alike hZ.alike A.2.1) A.2.2 r0.1 r0.2 (g := (mkF m 37 #[.val (.ref a1), .val (.int ((p1 <<< ((1 : Int32) &&& 31)) + (1 : Int32)))] [(.int (p1 <<< ((1 : Int32) &&& 31))), (.ref a1)])) rfl rfl (hb hby d24_37) _ ?_
  refine XS.sipush X1.here hx rfl (hb hby d24_38) ?_
  refine XS.iand X1.here hx rfl (hb hby d24_41) rfl ?_
  refine st2 _ ?_
  refine XS.ishl X2.here hx rfl (hb hby d24_45) rfl ?_
  refine XS.aloadN X2.here hx rfl (hb hby d24_46) rfl rfl ?_
  refine XS.iloadN X2.here hx rfl (hb hby d24_47) rfl ?_
  refine X2.baloadBytes hx (j := ((p1 <<< ((1 : Int32) &&& 31)) + (1 : Int32))) (v := (.int y1)) (by rw [e2]; exact A.1) (State.isArrayOf_alike hZ.alike A.2.1) A.2.2 r1.1 r1.2 (g := (mkF m 48 #[.val (.ref a1), .val (.int ((p1 <<< ((1 : Int32) &&& 31)) + (1 : Int32)))] [(.int ((p1 <<< ((1 : Int32) &&& 31)) + (1 : Int32))), (.ref a1), (.int ((y0 &&& (255 : Int32)) <<< ((0 : Int32) &&& 31)))])) rfl rfl (hb hby d24_48) _ ?_
  refine XS.sipush X2.here hx rfl (hb hby d24_49) ?_
  refine XS.iand X2.here hx rfl (hb hby d24_52) rfl ?_
  refine st3 _ ?_
  refine XS.ishl X3.here hx rfl (hb hby d24_56) rfl ?_
  refine XS.ior X3.here hx rfl (hb hby d24_57) rfl ?_
  refine XS.i2c X3.here hx rfl (hb hby d24_58) rfl ?_
  exact k)
 obtain ⟨fs5, hr5, hrun5, hended5, hW5, hsame5⟩ := X3.leave (v := some (.int ((((y0 &&& (255 : Int32)) <<< ((0 : Int32) &&& 31)) ||| ((y1 &&& (255 : Int32)) <<< ((8 : Int32) &&& 31))).toUInt32.toUInt16.toUInt32.toInt32))) (fun h => by rw [Bd.returns] at h; cases h)
 refine ⟨_, _, pre4 _ ?_, hrun5, hended5, _, _, rfl, ?_, ⟨_, rfl⟩, hW5, hsame5.mono (by decide) (by decide)⟩
 ·show Steps p.tables e below (T3.setTop (mkF m 59 #[.val (.ref a1), .val (.int ((p1 <<< ((1 : Int32) &&& 31)) + (1 : Int32)))] [(.int ((((y0 &&& (255 : Int32)) <<< ((0 : Int32) &&& 31)) ||| ((y1 &&& (255 : Int32)) <<< ((8 : Int32) &&& 31))).toUInt32.toUInt16.toUInt32.toInt32))])) _
  exact retOut X3 hx (t := .char) Bd.returns (own_narc (by first | exact own_bc _ | (unfold own_b; decide))) (Or.inl ⟨rfl, by simp, _, rfl⟩) (hb hby d24_59) hr5
 ·show Qgc Z a1 cl p1 y0 y1 r h0 n0 _ T3.heap _
  rw [e3]
  exact ⟨by rw [← hr]; rfl, N0, rfl⟩

theorem d23_0 : decode jdk_52_method_4_code 0 = .ok (.getstatic 44, 3) := by decide +kernel
theorem d23_3 : decode jdk_52_method_4_code 3 = .ok (.ifCond .ne 25, 3) := by decide +kernel
theorem d23_28 : decode jdk_52_method_4_code 28 = .ok (.iload_n 1, 1) := by decide +kernel
theorem d23_29 : decode jdk_52_method_4_code 29 = .ok (.iconst 1, 1) := by decide +kernel
theorem d23_30 : decode jdk_52_method_4_code 30 = .ok (.ishl, 1) := by decide +kernel
theorem d23_31 : decode jdk_52_method_4_code 31 = .ok (.istore_n 1, 1) := by decide +kernel
theorem d23_32 : decode jdk_52_method_4_code 32 = .ok (.aload_n 0, 1) := by decide +kernel
theorem d23_33 : decode jdk_52_method_4_code 33 = .ok (.iload_n 1, 1) := by decide +kernel
theorem d23_34 : decode jdk_52_method_4_code 34 = .ok (.iinc 1 1, 3) := by decide +kernel
theorem d23_37 : decode jdk_52_method_4_code 37 = .ok (.iload_n 2, 1) := by decide +kernel
theorem d23_38 : decode jdk_52_method_4_code 38 = .ok (.getstatic 59, 3) := by decide +kernel
theorem d23_41 : decode jdk_52_method_4_code 41 = .ok (.ishr, 1) := by decide +kernel
theorem d23_42 : decode jdk_52_method_4_code 42 = .ok (.i2b, 1) := by decide +kernel
theorem d23_43 : decode jdk_52_method_4_code 43 = .ok (.bastore, 1) := by decide +kernel
theorem d23_44 : decode jdk_52_method_4_code 44 = .ok (.aload_n 0, 1) := by decide +kernel
theorem d23_45 : decode jdk_52_method_4_code 45 = .ok (.iload_n 1, 1) := by decide +kernel
theorem d23_46 : decode jdk_52_method_4_code 46 = .ok (.iload_n 2, 1) := by decide +kernel
theorem d23_47 : decode jdk_52_method_4_code 47 = .ok (.getstatic 63, 3) := by decide +kernel
theorem d23_50 : decode jdk_52_method_4_code 50 = .ok (.ishr, 1) := by decide +kernel
theorem d23_51 : decode jdk_52_method_4_code 51 = .ok (.i2b, 1) := by decide +kernel
theorem d23_52 : decode jdk_52_method_4_code 52 = .ok (.bastore, 1) := by decide +kernel
theorem d23_53 : decode jdk_52_method_4_code 53 = .ok (.return_, 1) := by decide +kernel

theorem pd_pc : parseMethodDescriptor "([BII)V" = some ⟨[(.array .byte), .int, .int], none⟩ := by decide +kernel

theorem ef_pc (m : MethodId) (x0 : Addr) (x1 : Int32) (x2 : Int32)  : entryFrame m #[(.ref x0), (.int x1), (.int x2)] 3 = mkF m 0 #[.val (.ref x0), .val (.int x1), .val (.int x2)] [] := by first | (simp [entryFrame, mkF, argsToLocals, Value.category]; done) | rfl
def Qpc (Z : State) (a1 : Addr) (k1 : ClassId) (z1 : Int32) (vs : List Value) (m0 : Nat) (p1 p2 : Int32) (h0 : Heap) (n0 : Nat) (v : Option Value) (h : Heap) (L : List Loc) : Prop := v = none ∧ Fr n0 L ∧ Keep h0 h [a1] ∧ Arv Z h a1 k1 .byte z1 ((vs.set m0 (.int (StrChars.lo8 p2))).set (m0 + 1) (.int (StrChars.hi8 p2))) (.int 0)
set_option maxRecDepth 65536 in
set_option maxHeartbeats 40000000 in
theorem rmpc (l : Launch) (Z : State) (a0 : Array Value) (hw : ∀ d ∈ tables_1, d.before a0 Z = true) (ws : List Jvm.Cond) (a1 : Addr) (k1 : ClassId) (z1 : Int32) (vs : List Value) (m0 : Nat) (p1 p2 : Int32) (h0 : Heap) (n0 : Nat) (Z0 : n0 ≤ h0.size) (EN : own_env Z h0) (Va : Arv Z h0 a1 k1 .byte z1 vs (.int 0)) (g1 : n0 ≤ a1) (i0 : ¬ (p1 <<< ((1 : Int32) &&& 31)) < 0 ∧ (p1 <<< ((1 : Int32) &&& 31)) < z1) (i1 : ¬ ((p1 <<< ((1 : Int32) &&& 31)) + (1 : Int32)) < 0 ∧ ((p1 <<< ((1 : Int32) &&& 31)) + (1 : Int32)) < z1) (j0 : ((p1 <<< ((1 : Int32) &&& 31))).toNatClampNeg = m0) (j1 : ((p1 <<< ((1 : Int32) &&& 31)) + (1 : Int32)).toNatClampNeg = m0 + 1) (l0 : m0 < vs.length) (l1 : m0 + 1 < vs.length) :
  own_M l Z own_z11 jdk_52_method_4_code 3 none ({ frames := 0, cells := 0, slots := 0, locals := 0 } : Room) ws #[(.ref a1), (.int p1), (.int p2)] h0 (Qpc Z a1 k1 z1 vs m0 p1 p2 h0 n0) := by
 refine MetFree.of_bodySF (plainFor_of_name pn_k5) hisR ?_
 intro p e s m args below meth c s₁ Bd hml0 hP hK
 obtain ⟨rfl, hZ, hh⟩ := hP
 have hx := Bd.exec
 have hby := Bd.bytes
 have hml : c.maxLocals = 3 := hml0
 have hown : s.vm.findClass "java/lang/StringUTF16" = some m.cls := findClass_of_methodNamed Bd.named
 have hnm := (name_of_methodNamed Bd.named Bd.method).1
 have X0 : Stand p l e ({ frames := 0, cells := 0, slots := 0, locals := 0 } : Room) s m #[(.ref a1), (.int p1), (.int p2)] below meth c s₁ [] 0 0 := Stand.of_body Bd
 have e0 : s₁.heap = h0 := by rw [← hh, Bd.state]; rfl
 have N0 := Fr.nil n0
 have pre0 : ∀ t, Steps p.tables e below (s₁.setTop (mkF m 0 #[.val (.ref a1), .val (.int p1), .val (.int p2)] [])) t → Steps p.tables e below (s₁.setTop (entryFrame m #[(.ref a1), (.int p1), (.int p2)] 3)) t := fun t k => castTop (ef_pc m a1 p1 p2) k
 obtain ⟨z, fm, Sz, hz, Sf, hfm, Sa, Sh, Sl⟩ := EN
 obtain ⟨T1, X1, e1, st1⟩ := getS2 X0 hx hZ hown (host := "") (Or.inl (wd101 hw)) Via.refl e0 Sa (g := (mkF m 0 #[.val (.ref a1), .val (.int p1), .val (.int p2)] [])) rfl (hb hby d23_0)
 obtain ⟨T2, X2, e2, st2⟩ := getS2 X1 hx hZ hown (host := "") (Or.inl (wd102 hw)) Via.refl e1 Sh (g := (mkF m 38 #[.val (.ref a1), .val (.int ((p1 <<< ((1 : Int32) &&& 31)) + (1 : Int32))), .val (.int p2)] [(.int p2), (.int (p1 <<< ((1 : Int32) &&& 31))), (.ref a1)])) rfl (hb hby d23_38)
 have Vc3 := Va
 obtain ⟨cl3, Ar3, qq3, sz3, nn3, Ha3, Gf3⟩ := Vc3
 have hin3 : ¬ ((p1 <<< ((1 : Int32) &&& 31)) < 0 ∨ cl3.slots.size ≤ ((p1 <<< ((1 : Int32) &&& 31))).toNatClampNeg) := inb_of sz3 i0
 obtain ⟨T4, h4, X4, e4, W4, st4⟩ := stB X2 hx hZ e2 Ar3 (j := (p1 <<< ((1 : Int32) &&& 31))) hin3 (g := (mkF m 43 #[.val (.ref a1), .val (.int ((p1 <<< ((1 : Int32) &&& 31)) + (1 : Int32))), .val (.int p2)] [(.int ((p2 >>> ((0 : Int32) &&& 31)).toInt8.toInt32)), (.int (p1 <<< ((1 : Int32) &&& 31))), (.ref a1)])) rfl rfl (hb hby d23_43)
 have N4 := Fr.snoc X4 N0 g1
 have Va_4 := Arv.set Ar3 qq3 sz3 nn3 Ha3 Gf3 (fits_nar_byte _) W4 m0 j0 (by first | exact l0 | (rw [List.length_set]; exact l1))
 have Sa_4 := Sa.wr W4
 have Sh_4 := Sh.wr W4
 have Sl_4 := Sl.wr W4
 obtain ⟨T5, X5, e5, st5⟩ := getS2 X4 hx hZ hown (host := "") (Or.inl (wd103 hw)) Via.refl e4 Sl_4 (g := (mkF m 47 #[.val (.ref a1), .val (.int ((p1 <<< ((1 : Int32) &&& 31)) + (1 : Int32))), .val (.int p2)] [(.int p2), (.int ((p1 <<< ((1 : Int32) &&& 31)) + (1 : Int32))), (.ref a1)])) rfl (hb hby d23_47)
 have Vc6 := Va_4
 obtain ⟨cl6, Ar6, qq6, sz6, nn6, Ha6, Gf6⟩ := Vc6
 have hin6 : ¬ (((p1 <<< ((1 : Int32) &&& 31)) + (1 : Int32)) < 0 ∨ cl6.slots.size ≤ (((p1 <<< ((1 : Int32) &&& 31)) + (1 : Int32))).toNatClampNeg) := inb_of sz6 i1
 obtain ⟨T7, h7, X7, e7, W7, st7⟩ := stB X5 hx hZ e5 Ar6 (j := ((p1 <<< ((1 : Int32) &&& 31)) + (1 : Int32))) hin6 (g := (mkF m 52 #[.val (.ref a1), .val (.int ((p1 <<< ((1 : Int32) &&& 31)) + (1 : Int32))), .val (.int p2)] [(.int ((p2 >>> ((8 : Int32) &&& 31)).toInt8.toInt32)), (.int ((p1 <<< ((1 : Int32) &&& 31)) + (1 : Int32))), (.ref a1)])) rfl rfl (hb hby d23_52)
 have N7 := Fr.snoc X7 N4 g1
 have Va_7 := Arv.set Ar6 qq6 sz6 nn6 Ha6 Gf6 (fits_nar_byte _) W7 (m0 + 1) j1 (by first | exact l0 | (rw [List.length_set]; exact l1))
 have Sa_7 := Sa_4.wr W7
 have Sh_7 := Sh_4.wr W7
 have Sl_7 := Sl_4.wr W7
 have pre8 : ∀ t, Steps p.tables e below (T7.setTop (mkF m 53 #[.val (.ref a1), .val (.int ((p1 <<< ((1 : Int32) &&& 31)) + (1 : Int32))), .val (.int p2)] [])) t → Steps p.tables e below (s₁.setTop (entryFrame m #[(.ref a1), (.int p1), (.int p2)] 3)) t := fun t k => pre0 t (by
  show Steps p.tables e below (s₁.setTop (mkF m 0 #[.val (.ref a1), .val (.int p1), .val (.int p2)] [])) _
  refine st1 _ ?_
  refine XS.ifYes X1.here hx rfl (pc0 := 3) (pc' := 28) rfl (hb hby d23_3) rfl ((if0 _ _).trans (feq (by decide : ¬ ((1 : Int32) = (0 : Int32)))).2) (by decide) (by decide) ?_
  refine XS.iloadN X1.here hx rfl (hb hby d23_28) rfl ?_
  refine XS.iconst X1.here hx rfl (hb hby d23_29) ?_
  refine XS.ishl X1.here hx rfl (hb hby d23_30) rfl ?_
  refine XS.istoreN X1.here hx rfl (hb hby d23_31) rfl (l' := #[.val (.ref a1), .val (.int (p1 <<< ((1 : Int32) &&& 31))), .val (.int p2)]) rfl ?_
  refine XS.aloadN X1.here hx rfl (hb hby d23_32) rfl rfl ?_
  refine XS.iloadN X1.here hx rfl (hb hby d23_33) rfl ?_
  refine XS.iinc X1.here hx rfl (hb hby d23_34) rfl (l' := #[.val (.ref a1), .val (.int ((p1 <<< ((1 : Int32) &&& 31)) + (1 : Int32))), .val (.int p2)]) rfl ?_
  refine XS.iloadN X1.here hx rfl (hb hby d23_37) rfl ?_
  refine st2 _ ?_
  refine XS.ishr X2.here hx rfl (hb hby d23_41) rfl ?_
  refine XS.i2b X2.here hx rfl (hb hby d23_42) rfl ?_
  refine st4 _ ?_
  refine XS.aloadN X4.here hx rfl (hb hby d23_44) rfl rfl ?_
  refine XS.iloadN X4.here hx rfl (hb hby d23_45) rfl ?_
  refine XS.iloadN X4.here hx rfl (hb hby d23_46) rfl ?_
  refine st5 _ ?_
  refine XS.ishr X5.here hx rfl (hb hby d23_50) rfl ?_
  refine XS.i2b X5.here hx rfl (hb hby d23_51) rfl ?_
  refine st7 _ ?_
  exact k)
 obtain ⟨fs9, hr9, hrun9, hended9, hW9, hsame9⟩ := X7.leave (v := none) (fun _ => rfl)
 refine ⟨_, _, pre8 _ ?_, hrun9, hended9, _, _, rfl, ?_, ⟨_, rfl⟩, hW9, hsame9.mono (by decide) (by decide)⟩
 ·show Steps p.tables e below (T7.setTop (mkF m 53 #[.val (.ref a1), .val (.int ((p1 <<< ((1 : Int32) &&& 31)) + (1 : Int32))), .val (.int p2)] [])) _
  exact X7.returnOut hx Bd.returns (hb hby d23_53) hr9
 ·show Qpc Z a1 k1 z1 vs m0 p1 p2 h0 n0 _ T7.heap _
  rw [e7]
  refine ⟨rfl, N7, (Keep.of_wr W4).wr W7 (Or.inl (List.mem_singleton.mpr rfl)), ?_⟩
  have q := Va_7
  rw [own_lo, own_lo, own_sh0] at q
  exact q

theorem d22_0 : decode jdk_52_method_3_code 0 = .ok (.iload_n 0, 1) := by decide +kernel
theorem d22_1 : decode jdk_52_method_3_code 1 = .ok (.ifCond .ge 11, 3) := by decide +kernel
theorem d22_12 : decode jdk_52_method_3_code 12 = .ok (.iload_n 0, 1) := by decide +kernel
theorem d22_13 : decode jdk_52_method_3_code 13 = .ok (.ldc 20, 2) := by decide +kernel
theorem d22_15 : decode jdk_52_method_3_code 15 = .ok (.if_icmp .lt 40, 3) := by decide +kernel
theorem d22_55 : decode jdk_52_method_3_code 55 = .ok (.iload_n 0, 1) := by decide +kernel
theorem d22_56 : decode jdk_52_method_3_code 56 = .ok (.iconst 1, 1) := by decide +kernel
theorem d22_57 : decode jdk_52_method_3_code 57 = .ok (.ishl, 1) := by decide +kernel
theorem d22_58 : decode jdk_52_method_3_code 58 = .ok (.ireturn, 1) := by decide +kernel

theorem pd_bl1 : parseMethodDescriptor "(I)I" = some ⟨[.int], some .int⟩ := by decide +kernel

def Qbl1 (Z : State)  (h0 : Heap) (n0 : Nat) (v : Option Value) (h : Heap) (L : List Loc) : Prop := v = some (.int (2 : Int32)) ∧ Fr n0 L ∧ h = h0
set_option maxRecDepth 65536 in
set_option maxHeartbeats 40000000 in
theorem rmbl1 (l : Launch) (Z : State) (a0 : Array Value) (hw : ∀ d ∈ tables_1, d.before a0 Z = true) (ws : List Jvm.Cond)  (h0 : Heap) (n0 : Nat) (Z0 : n0 ≤ h0.size)  :
  own_M l Z own_z12 jdk_52_method_3_code 1 (some .int) ({ frames := 0, cells := 0, slots := 0, locals := 0 } : Room) ws #[(.int (1 : Int32))] h0 (Qbl1 Z  h0 n0) := by
 refine MetFree.of_bodySF (plainFor_of_name pn_k5) hisR ?_
 intro p e s m args below meth c s₁ Bd hml0 hP hK
 obtain ⟨rfl, hZ, hh⟩ := hP
 have hx := Bd.exec
 have hby := Bd.bytes
 have hml : c.maxLocals = 1 := hml0
 have hown : s.vm.findClass "java/lang/StringUTF16" = some m.cls := findClass_of_methodNamed Bd.named
 have hnm := (name_of_methodNamed Bd.named Bd.method).1
 have X0 : Stand p l e ({ frames := 0, cells := 0, slots := 0, locals := 0 } : Room) s m #[(.int (1 : Int32))] below meth c s₁ [] 0 0 := Stand.of_body Bd
 have e0 : s₁.heap = h0 := by rw [← hh, Bd.state]; rfl
 have N0 := Fr.nil n0
 have pre0 : ∀ t, Steps p.tables e below (s₁.setTop (mkF m 0 #[.val (.int (1 : Int32))] [])) t → Steps p.tables e below (s₁.setTop (entryFrame m #[(.int (1 : Int32))] 1)) t := fun t k => castTop (ef_pl m (1 : Int32)) k
 have pre1 : ∀ t, Steps p.tables e below (s₁.setTop (mkF m 58 #[.val (.int (1 : Int32))] [(.int (2 : Int32))])) t → Steps p.tables e below (s₁.setTop (entryFrame m #[(.int (1 : Int32))] 1)) t := fun t k => pre0 t (by
  show Steps p.tables e below (s₁.setTop (mkF m 0 #[.val (.int (1 : Int32))] [])) _
  refine XS.iloadN X0.here hx rfl (hb hby d22_0) rfl ?_
  refine XS.ifYes X0.here hx rfl (pc0 := 1) (pc' := 12) rfl (hb hby d22_1) rfl ((if0 _ _).trans (flt (by decide : ¬ ((1 : Int32) < (0 : Int32)))).2.1) (by decide) (by decide) ?_
  refine XS.iloadN X0.here hx rfl (hb hby d22_12) rfl ?_
  refine X0.ldcI hx hown (mvT hZ (wd97 hw)) (g := (mkF m 13 #[.val (.int (1 : Int32))] [(.int (1 : Int32))])) rfl (hb hby d22_13) ?_
  refine XS.icmpYes X0.here hx rfl (pc0 := 15) (pc' := 55) rfl (hb hby d22_15) rfl (tlt (by decide : (1 : Int32) < (1073741823 : Int32))).1 (by decide) (by decide) ?_
  refine XS.iloadN X0.here hx rfl (hb hby d22_55) rfl ?_
  refine XS.iconst X0.here hx rfl (hb hby d22_56) ?_
  refine XS.ishl X0.here hx rfl (hb hby d22_57) rfl ?_
  show Steps p.tables e below (s₁.setTop (mkF m 58 #[.val (.int (1 : Int32))] [(.int ((1 : Int32) <<< ((1 : Int32) &&& 31)))])) _
  rw [show ((1 : Int32) <<< ((1 : Int32) &&& 31)) = (2 : Int32) from by decide]
  exact k)
 obtain ⟨fs2, hr2, hrun2, hended2, hW2, hsame2⟩ := X0.leave (v := some (.int (2 : Int32))) (fun h => by rw [Bd.returns] at h; cases h)
 refine ⟨_, _, pre1 _ ?_, hrun2, hended2, _, _, rfl, ?_, ⟨_, rfl⟩, hW2, hsame2.mono (by decide) (by decide)⟩
 ·show Steps p.tables e below (s₁.setTop (mkF m 58 #[.val (.int (1 : Int32))] [(.int (2 : Int32))])) _
  exact retOut X0 hx (t := .int) Bd.returns rfl (Or.inl ⟨rfl, Or.inl rfl, _, rfl⟩) (hb hby d22_58) hr2
 ·show Qbl1 Z  h0 n0 _ s₁.heap _
  rw [e0]
  exact ⟨rfl, N0, rfl⟩

theorem d21_0 : decode jdk_52_method_2_code 0 = .ok (.iload_n 0, 1) := by decide +kernel
theorem d21_1 : decode jdk_52_method_2_code 1 = .ok (.invokestatic 11, 3) := by decide +kernel
theorem d21_4 : decode jdk_52_method_2_code 4 = .ok (.newarray .byte, 2) := by decide +kernel
theorem d21_6 : decode jdk_52_method_2_code 6 = .ok (.areturn, 1) := by decide +kernel

theorem pd_bf1 : parseMethodDescriptor "(I)[B" = some ⟨[.int], some (.array .byte)⟩ := by decide +kernel

def Qbf1 (Z : State)  (h0 : Heap) (n0 : Nat) (v : Option Value) (h : Heap) (L : List Loc) : Prop := ∃ b kb, v = some (.ref b) ∧ Fr n0 L ∧ Ext h0 h ∧ h0.size ≤ b ∧ Arv Z h b kb .byte (2 : Int32) [(.int 0), (.int 0)] (.int 0)
set_option maxRecDepth 65536 in
set_option maxHeartbeats 40000000 in
theorem rmbf1 (l : Launch) (Z : State) (a0 : Array Value) (hw : ∀ d ∈ tables_1, d.before a0 Z = true) (ws : List Jvm.Cond)  (h0 : Heap) (n0 : Nat) (Z0 : n0 ≤ h0.size)  :
  own_M l Z own_z13 jdk_52_method_2_code 1 (some (.array .byte)) ({ frames := 1, cells := 1, slots := 2, locals := 12 } : Room) ws #[(.int (1 : Int32))] h0 (Qbf1 Z  h0 n0) := by
 refine MetFree.of_bodySF (plainFor_of_name pn_k5) hisR ?_
 intro p e s m args below meth c s₁ Bd hml0 hP hK
 obtain ⟨rfl, hZ, hh⟩ := hP
 have hx := Bd.exec
 have hby := Bd.bytes
 have hml : c.maxLocals = 1 := hml0
 have hown : s.vm.findClass "java/lang/StringUTF16" = some m.cls := findClass_of_methodNamed Bd.named
 have hnm := (name_of_methodNamed Bd.named Bd.method).1
 have X0 : Stand p l e ({ frames := 1, cells := 1, slots := 2, locals := 12 } : Room) s m #[(.int (1 : Int32))] below meth c s₁ [] 0 0 := Stand.of_body Bd
 have e0 : s₁.heap = h0 := by rw [← hh, Bd.state]; rfl
 have N0 := Fr.nil n0
 have pre0 : ∀ t, Steps p.tables e below (s₁.setTop (mkF m 0 #[.val (.int (1 : Int32))] [])) t → Steps p.tables e below (s₁.setTop (entryFrame m #[(.int (1 : Int32))] 1)) t := fun t k => castTop (ef_pl m (1 : Int32)) k
 obtain ⟨_, _, ⟨T1, L1, k1, n1⟩, -, X1, ⟨Lc1, hQ1, l1, y1, z1⟩, st1⟩ := Jvm.LawKit.callS X0 hx (y := own_z12) hown (mvT hZ (wd94 hw)) (mvT hZ (wd95 hw)) (mvT hZ (wd74 hw)) (mvT hZ (wd96 hw)) (by decide) (backOf (W := 0) (rmbl1 l Z a0 hw [] h0 n0 Z0) hZ (wd96 hw) (wd74 hw) (by decide) (by decide)) (g := (mkF m 1 #[.val (.int (1 : Int32))] [(.int (1 : Int32))])) rfl (by rw [hml]; rfl) (argsL := [(.int (1 : Int32))]) (rest := []) (lenOf pd_bl1 rfl) rfl (by show 2 * 0 + _ ≤ _; exact Nat.le_of_eq rfl) (hb hby d21_1) (fun _ _ => ⟨rfl, e0, (by decide : 0 + 0 ≤ _), (by decide : 0 + 0 ≤ _)⟩)
 dsimp only [Pt.U, Pt.locs, Pt.cells, Pt.slots] at X1 l1 y1 z1 st1 hQ1
 subst l1 y1 z1
 obtain ⟨rfl, N1q, q1⟩ := hQ1
 have N1 := Fr.app N0 N1q
 obtain ⟨T2, h2, k2, X2, e2, E2, A2, st2⟩ := newP (aty := .byte) X1 hx hZ (wd21 hw) q1 (g := (mkF m 4 #[.val (.int (1 : Int32))] [(.int (2 : Int32))])) rfl (hb hby d21_4) rfl (by decide) (cap := 2) (by decide) (by decide) (by decide) (by decide)
 obtain ⟨b2, gb2⟩ : ∃ z, z = h0.size := ⟨_, rfl⟩
 rw [← gb2] at A2 st2
 have gn2 : n0 ≤ b2 := Nat.le_trans Z0 (Nat.le_of_eq gb2.symm)
 have sz2_b : h0.size ≤ b2 := Nat.le_trans (Keep.refl h0 []).1 (Nat.le_of_eq gb2.symm)
 have K2 := (Keep.refl h0 []).ext E2
 have V2 : Arv Z h2 b2 k2 .byte (2 : Int32) [(.int (0 : Int32)), (.int (0 : Int32))] (.int (0 : Int32)) := (Arv.new A2 (by decide)).pad (pad_rep [] (.int (0 : Int32)) 2)
 have pre3 : ∀ t, Steps p.tables e below (T2.setTop (mkF m 6 #[.val (.int (1 : Int32))] [(.ref b2)])) t → Steps p.tables e below (s₁.setTop (entryFrame m #[(.int (1 : Int32))] 1)) t := fun t k => pre0 t (by
  show Steps p.tables e below (s₁.setTop (mkF m 0 #[.val (.int (1 : Int32))] [])) _
  refine XS.iloadN X0.here hx rfl (hb hby d21_0) rfl ?_
  refine st1 _ ?_
  refine st2 _ ?_
  exact k)
 obtain ⟨fs4, hr4, hrun4, hended4, hW4, hsame4⟩ := X2.leave (v := some (.ref b2)) (fun h => by rw [Bd.returns] at h; cases h)
 refine ⟨_, _, pre3 _ ?_, hrun4, hended4, _, _, rfl, ?_, ⟨_, rfl⟩, hW4, hsame4.mono (by decide) (by decide)⟩
 ·show Steps p.tables e below (T2.setTop (mkF m 6 #[.val (.int (1 : Int32))] [(.ref b2)])) _
  exact retOut X2 hx (t := (.array .byte)) Bd.returns rfl (Or.inr (Or.inr (Or.inr (Or.inr ⟨rfl, rfl, rfl⟩)))) (hb hby d21_6) hr4
 ·show Qbf1 Z  h0 n0 _ T2.heap _
  rw [e2]
  exact ⟨_, _, rfl, N1, own_ext K2, sz2_b, V2⟩


def Qbl2 (Z : State)  (h0 : Heap) (n0 : Nat) (v : Option Value) (h : Heap) (L : List Loc) : Prop := v = some (.int (4 : Int32)) ∧ Fr n0 L ∧ h = h0
set_option maxRecDepth 65536 in
set_option maxHeartbeats 40000000 in
theorem rmbl2 (l : Launch) (Z : State) (a0 : Array Value) (hw : ∀ d ∈ tables_1, d.before a0 Z = true) (ws : List Jvm.Cond)  (h0 : Heap) (n0 : Nat) (Z0 : n0 ≤ h0.size)  :
  own_M l Z own_z12 jdk_52_method_3_code 1 (some .int) ({ frames := 0, cells := 0, slots := 0, locals := 0 } : Room) ws #[(.int (2 : Int32))] h0 (Qbl2 Z  h0 n0) := by
 refine MetFree.of_bodySF (plainFor_of_name pn_k5) hisR ?_
 intro p e s m args below meth c s₁ Bd hml0 hP hK
 obtain ⟨rfl, hZ, hh⟩ := hP
 have hx := Bd.exec
 have hby := Bd.bytes
 have hml : c.maxLocals = 1 := hml0
 have hown : s.vm.findClass "java/lang/StringUTF16" = some m.cls := findClass_of_methodNamed Bd.named
 have hnm := (name_of_methodNamed Bd.named Bd.method).1
 have X0 : Stand p l e ({ frames := 0, cells := 0, slots := 0, locals := 0 } : Room) s m #[(.int (2 : Int32))] below meth c s₁ [] 0 0 := Stand.of_body Bd
 have e0 : s₁.heap = h0 := by rw [← hh, Bd.state]; rfl
 have N0 := Fr.nil n0
 have pre0 : ∀ t, Steps p.tables e below (s₁.setTop (mkF m 0 #[.val (.int (2 : Int32))] [])) t → Steps p.tables e below (s₁.setTop (entryFrame m #[(.int (2 : Int32))] 1)) t := fun t k => castTop (ef_pl m (2 : Int32)) k
 have pre1 : ∀ t, Steps p.tables e below (s₁.setTop (mkF m 58 #[.val (.int (2 : Int32))] [(.int (4 : Int32))])) t → Steps p.tables e below (s₁.setTop (entryFrame m #[(.int (2 : Int32))] 1)) t := fun t k => pre0 t (by
  show Steps p.tables e below (s₁.setTop (mkF m 0 #[.val (.int (2 : Int32))] [])) _
  refine XS.iloadN X0.here hx rfl (hb hby d22_0) rfl ?_
  refine XS.ifYes X0.here hx rfl (pc0 := 1) (pc' := 12) rfl (hb hby d22_1) rfl ((if0 _ _).trans (flt (by decide : ¬ ((2 : Int32) < (0 : Int32)))).2.1) (by decide) (by decide) ?_
  refine XS.iloadN X0.here hx rfl (hb hby d22_12) rfl ?_
  refine X0.ldcI hx hown (mvT hZ (wd97 hw)) (g := (mkF m 13 #[.val (.int (2 : Int32))] [(.int (2 : Int32))])) rfl (hb hby d22_13) ?_
  refine XS.icmpYes X0.here hx rfl (pc0 := 15) (pc' := 55) rfl (hb hby d22_15) rfl (tlt (by decide : (2 : Int32) < (1073741823 : Int32))).1 (by decide) (by decide) ?_
  refine XS.iloadN X0.here hx rfl (hb hby d22_55) rfl ?_
  refine XS.iconst X0.here hx rfl (hb hby d22_56) ?_
  refine XS.ishl X0.here hx rfl (hb hby d22_57) rfl ?_
  show Steps p.tables e below (s₁.setTop (mkF m 58 #[.val (.int (2 : Int32))] [(.int ((2 : Int32) <<< ((1 : Int32) &&& 31)))])) _
  rw [show ((2 : Int32) <<< ((1 : Int32) &&& 31)) = (4 : Int32) from by decide]
  exact k)
 obtain ⟨fs2, hr2, hrun2, hended2, hW2, hsame2⟩ := X0.leave (v := some (.int (4 : Int32))) (fun h => by rw [Bd.returns] at h; cases h)
 refine ⟨_, _, pre1 _ ?_, hrun2, hended2, _, _, rfl, ?_, ⟨_, rfl⟩, hW2, hsame2.mono (by decide) (by decide)⟩
 ·show Steps p.tables e below (s₁.setTop (mkF m 58 #[.val (.int (2 : Int32))] [(.int (4 : Int32))])) _
  exact retOut X0 hx (t := .int) Bd.returns rfl (Or.inl ⟨rfl, Or.inl rfl, _, rfl⟩) (hb hby d22_58) hr2
 ·show Qbl2 Z  h0 n0 _ s₁.heap _
  rw [e0]
  exact ⟨rfl, N0, rfl⟩


def Qbf2 (Z : State)  (h0 : Heap) (n0 : Nat) (v : Option Value) (h : Heap) (L : List Loc) : Prop := ∃ b kb, v = some (.ref b) ∧ Fr n0 L ∧ Ext h0 h ∧ h0.size ≤ b ∧ Arv Z h b kb .byte (4 : Int32) [(.int 0), (.int 0), (.int 0), (.int 0)] (.int 0)
set_option maxRecDepth 65536 in
set_option maxHeartbeats 40000000 in
theorem rmbf2 (l : Launch) (Z : State) (a0 : Array Value) (hw : ∀ d ∈ tables_1, d.before a0 Z = true) (ws : List Jvm.Cond)  (h0 : Heap) (n0 : Nat) (Z0 : n0 ≤ h0.size)  :
  own_M l Z own_z13 jdk_52_method_2_code 1 (some (.array .byte)) ({ frames := 1, cells := 1, slots := 4, locals := 12 } : Room) ws #[(.int (2 : Int32))] h0 (Qbf2 Z  h0 n0) := by
 refine MetFree.of_bodySF (plainFor_of_name pn_k5) hisR ?_
 intro p e s m args below meth c s₁ Bd hml0 hP hK
 obtain ⟨rfl, hZ, hh⟩ := hP
 have hx := Bd.exec
 have hby := Bd.bytes
 have hml : c.maxLocals = 1 := hml0
 have hown : s.vm.findClass "java/lang/StringUTF16" = some m.cls := findClass_of_methodNamed Bd.named
 have hnm := (name_of_methodNamed Bd.named Bd.method).1
 have X0 : Stand p l e ({ frames := 1, cells := 1, slots := 4, locals := 12 } : Room) s m #[(.int (2 : Int32))] below meth c s₁ [] 0 0 := Stand.of_body Bd
 have e0 : s₁.heap = h0 := by rw [← hh, Bd.state]; rfl
 have N0 := Fr.nil n0
 have pre0 : ∀ t, Steps p.tables e below (s₁.setTop (mkF m 0 #[.val (.int (2 : Int32))] [])) t → Steps p.tables e below (s₁.setTop (entryFrame m #[(.int (2 : Int32))] 1)) t := fun t k => castTop (ef_pl m (2 : Int32)) k
 obtain ⟨_, _, ⟨T1, L1, k1, n1⟩, -, X1, ⟨Lc1, hQ1, l1, y1, z1⟩, st1⟩ := Jvm.LawKit.callS X0 hx (y := own_z12) hown (mvT hZ (wd94 hw)) (mvT hZ (wd95 hw)) (mvT hZ (wd74 hw)) (mvT hZ (wd96 hw)) (by decide) (backOf (W := 0) (rmbl2 l Z a0 hw [] h0 n0 Z0) hZ (wd96 hw) (wd74 hw) (by decide) (by decide)) (g := (mkF m 1 #[.val (.int (2 : Int32))] [(.int (2 : Int32))])) rfl (by rw [hml]; rfl) (argsL := [(.int (2 : Int32))]) (rest := []) (lenOf pd_bl1 rfl) rfl (by show 2 * 0 + _ ≤ _; exact Nat.le_of_eq rfl) (hb hby d21_1) (fun _ _ => ⟨rfl, e0, (by decide : 0 + 0 ≤ _), (by decide : 0 + 0 ≤ _)⟩)
 dsimp only [Pt.U, Pt.locs, Pt.cells, Pt.slots] at X1 l1 y1 z1 st1 hQ1
 subst l1 y1 z1
 obtain ⟨rfl, N1q, q1⟩ := hQ1
 have N1 := Fr.app N0 N1q
 obtain ⟨T2, h2, k2, X2, e2, E2, A2, st2⟩ := newP (aty := .byte) X1 hx hZ (wd21 hw) q1 (g := (mkF m 4 #[.val (.int (2 : Int32))] [(.int (4 : Int32))])) rfl (hb hby d21_4) rfl (by decide) (cap := 4) (by decide) (by decide) (by decide) (by decide)
 obtain ⟨b2, gb2⟩ : ∃ z, z = h0.size := ⟨_, rfl⟩
 rw [← gb2] at A2 st2
 have gn2 : n0 ≤ b2 := Nat.le_trans Z0 (Nat.le_of_eq gb2.symm)
 have sz2_b : h0.size ≤ b2 := Nat.le_trans (Keep.refl h0 []).1 (Nat.le_of_eq gb2.symm)
 have K2 := (Keep.refl h0 []).ext E2
 have V2 : Arv Z h2 b2 k2 .byte (4 : Int32) [(.int (0 : Int32)), (.int (0 : Int32)), (.int (0 : Int32)), (.int (0 : Int32))] (.int (0 : Int32)) := (Arv.new A2 (by decide)).pad (pad_rep [] (.int (0 : Int32)) 4)
 have pre3 : ∀ t, Steps p.tables e below (T2.setTop (mkF m 6 #[.val (.int (2 : Int32))] [(.ref b2)])) t → Steps p.tables e below (s₁.setTop (entryFrame m #[(.int (2 : Int32))] 1)) t := fun t k => pre0 t (by
  show Steps p.tables e below (s₁.setTop (mkF m 0 #[.val (.int (2 : Int32))] [])) _
  refine XS.iloadN X0.here hx rfl (hb hby d21_0) rfl ?_
  refine st1 _ ?_
  refine st2 _ ?_
  exact k)
 obtain ⟨fs4, hr4, hrun4, hended4, hW4, hsame4⟩ := X2.leave (v := some (.ref b2)) (fun h => by rw [Bd.returns] at h; cases h)
 refine ⟨_, _, pre3 _ ?_, hrun4, hended4, _, _, rfl, ?_, ⟨_, rfl⟩, hW4, hsame4.mono (by decide) (by decide)⟩
 ·show Steps p.tables e below (T2.setTop (mkF m 6 #[.val (.int (2 : Int32))] [(.ref b2)])) _
  exact retOut X2 hx (t := (.array .byte)) Bd.returns rfl (Or.inr (Or.inr (Or.inr (Or.inr ⟨rfl, rfl, rfl⟩)))) (hb hby d21_6) hr4
 ·show Qbf2 Z  h0 n0 _ T2.heap _
  rw [e2]
  exact ⟨_, _, rfl, N1, own_ext K2, sz2_b, V2⟩


def Qbl3 (Z : State)  (h0 : Heap) (n0 : Nat) (v : Option Value) (h : Heap) (L : List Loc) : Prop := v = some (.int (6 : Int32)) ∧ Fr n0 L ∧ h = h0
set_option maxRecDepth 65536 in
set_option maxHeartbeats 40000000 in
theorem rmbl3 (l : Launch) (Z : State) (a0 : Array Value) (hw : ∀ d ∈ tables_1, d.before a0 Z = true) (ws : List Jvm.Cond)  (h0 : Heap) (n0 : Nat) (Z0 : n0 ≤ h0.size)  :
  own_M l Z own_z12 jdk_52_method_3_code 1 (some .int) ({ frames := 0, cells := 0, slots := 0, locals := 0 } : Room) ws #[(.int (3 : Int32))] h0 (Qbl3 Z  h0 n0) := by
 refine MetFree.of_bodySF (plainFor_of_name pn_k5) hisR ?_
 intro p e s m args below meth c s₁ Bd hml0 hP hK
 obtain ⟨rfl, hZ, hh⟩ := hP
 have hx := Bd.exec
 have hby := Bd.bytes
 have hml : c.maxLocals = 1 := hml0
 have hown : s.vm.findClass "java/lang/StringUTF16" = some m.cls := findClass_of_methodNamed Bd.named
 have hnm := (name_of_methodNamed Bd.named Bd.method).1
 have X0 : Stand p l e ({ frames := 0, cells := 0, slots := 0, locals := 0 } : Room) s m #[(.int (3 : Int32))] below meth c s₁ [] 0 0 := Stand.of_body Bd
 have e0 : s₁.heap = h0 := by rw [← hh, Bd.state]; rfl
 have N0 := Fr.nil n0
 have pre0 : ∀ t, Steps p.tables e below (s₁.setTop (mkF m 0 #[.val (.int (3 : Int32))] [])) t → Steps p.tables e below (s₁.setTop (entryFrame m #[(.int (3 : Int32))] 1)) t := fun t k => castTop (ef_pl m (3 : Int32)) k
 have pre1 : ∀ t, Steps p.tables e below (s₁.setTop (mkF m 58 #[.val (.int (3 : Int32))] [(.int (6 : Int32))])) t → Steps p.tables e below (s₁.setTop (entryFrame m #[(.int (3 : Int32))] 1)) t := fun t k => pre0 t (by
  show Steps p.tables e below (s₁.setTop (mkF m 0 #[.val (.int (3 : Int32))] [])) _
  refine XS.iloadN X0.here hx rfl (hb hby d22_0) rfl ?_
  refine XS.ifYes X0.here hx rfl (pc0 := 1) (pc' := 12) rfl (hb hby d22_1) rfl ((if0 _ _).trans (flt (by decide : ¬ ((3 : Int32) < (0 : Int32)))).2.1) (by decide) (by decide) ?_
  refine XS.iloadN X0.here hx rfl (hb hby d22_12) rfl ?_
  refine X0.ldcI hx hown (mvT hZ (wd97 hw)) (g := (mkF m 13 #[.val (.int (3 : Int32))] [(.int (3 : Int32))])) rfl (hb hby d22_13) ?_
  refine XS.icmpYes X0.here hx rfl (pc0 := 15) (pc' := 55) rfl (hb hby d22_15) rfl (tlt (by decide : (3 : Int32) < (1073741823 : Int32))).1 (by decide) (by decide) ?_
  refine XS.iloadN X0.here hx rfl (hb hby d22_55) rfl ?_
  refine XS.iconst X0.here hx rfl (hb hby d22_56) ?_
  refine XS.ishl X0.here hx rfl (hb hby d22_57) rfl ?_
  show Steps p.tables e below (s₁.setTop (mkF m 58 #[.val (.int (3 : Int32))] [(.int ((3 : Int32) <<< ((1 : Int32) &&& 31)))])) _
  rw [show ((3 : Int32) <<< ((1 : Int32) &&& 31)) = (6 : Int32) from by decide]
  exact k)
 obtain ⟨fs2, hr2, hrun2, hended2, hW2, hsame2⟩ := X0.leave (v := some (.int (6 : Int32))) (fun h => by rw [Bd.returns] at h; cases h)
 refine ⟨_, _, pre1 _ ?_, hrun2, hended2, _, _, rfl, ?_, ⟨_, rfl⟩, hW2, hsame2.mono (by decide) (by decide)⟩
 ·show Steps p.tables e below (s₁.setTop (mkF m 58 #[.val (.int (3 : Int32))] [(.int (6 : Int32))])) _
  exact retOut X0 hx (t := .int) Bd.returns rfl (Or.inl ⟨rfl, Or.inl rfl, _, rfl⟩) (hb hby d22_58) hr2
 ·show Qbl3 Z  h0 n0 _ s₁.heap _
  rw [e0]
  exact ⟨rfl, N0, rfl⟩


def Qbf3 (Z : State)  (h0 : Heap) (n0 : Nat) (v : Option Value) (h : Heap) (L : List Loc) : Prop := ∃ b kb, v = some (.ref b) ∧ Fr n0 L ∧ Ext h0 h ∧ h0.size ≤ b ∧ Arv Z h b kb .byte (6 : Int32) [(.int 0), (.int 0), (.int 0), (.int 0), (.int 0), (.int 0)] (.int 0)
set_option maxRecDepth 65536 in
set_option maxHeartbeats 40000000 in
theorem rmbf3 (l : Launch) (Z : State) (a0 : Array Value) (hw : ∀ d ∈ tables_1, d.before a0 Z = true) (ws : List Jvm.Cond)  (h0 : Heap) (n0 : Nat) (Z0 : n0 ≤ h0.size)  :
  own_M l Z own_z13 jdk_52_method_2_code 1 (some (.array .byte)) ({ frames := 1, cells := 1, slots := 6, locals := 12 } : Room) ws #[(.int (3 : Int32))] h0 (Qbf3 Z  h0 n0) := by
 refine MetFree.of_bodySF (plainFor_of_name pn_k5) hisR ?_
 intro p e s m args below meth c s₁ Bd hml0 hP hK
 obtain ⟨rfl, hZ, hh⟩ := hP
 have hx := Bd.exec
 have hby := Bd.bytes
 have hml : c.maxLocals = 1 := hml0
 have hown : s.vm.findClass "java/lang/StringUTF16" = some m.cls := findClass_of_methodNamed Bd.named
 have hnm := (name_of_methodNamed Bd.named Bd.method).1
 have X0 : Stand p l e ({ frames := 1, cells := 1, slots := 6, locals := 12 } : Room) s m #[(.int (3 : Int32))] below meth c s₁ [] 0 0 := Stand.of_body Bd
 have e0 : s₁.heap = h0 := by rw [← hh, Bd.state]; rfl
 have N0 := Fr.nil n0
 have pre0 : ∀ t, Steps p.tables e below (s₁.setTop (mkF m 0 #[.val (.int (3 : Int32))] [])) t → Steps p.tables e below (s₁.setTop (entryFrame m #[(.int (3 : Int32))] 1)) t := fun t k => castTop (ef_pl m (3 : Int32)) k
 obtain ⟨_, _, ⟨T1, L1, k1, n1⟩, -, X1, ⟨Lc1, hQ1, l1, y1, z1⟩, st1⟩ := Jvm.LawKit.callS X0 hx (y := own_z12) hown (mvT hZ (wd94 hw)) (mvT hZ (wd95 hw)) (mvT hZ (wd74 hw)) (mvT hZ (wd96 hw)) (by decide) (backOf (W := 0) (rmbl3 l Z a0 hw [] h0 n0 Z0) hZ (wd96 hw) (wd74 hw) (by decide) (by decide)) (g := (mkF m 1 #[.val (.int (3 : Int32))] [(.int (3 : Int32))])) rfl (by rw [hml]; rfl) (argsL := [(.int (3 : Int32))]) (rest := []) (lenOf pd_bl1 rfl) rfl (by show 2 * 0 + _ ≤ _; exact Nat.le_of_eq rfl) (hb hby d21_1) (fun _ _ => ⟨rfl, e0, (by decide : 0 + 0 ≤ _), (by decide : 0 + 0 ≤ _)⟩)
 dsimp only [Pt.U, Pt.locs, Pt.cells, Pt.slots] at X1 l1 y1 z1 st1 hQ1
 subst l1 y1 z1
 obtain ⟨rfl, N1q, q1⟩ := hQ1
 have N1 := Fr.app N0 N1q
 obtain ⟨T2, h2, k2, X2, e2, E2, A2, st2⟩ := newP (aty := .byte) X1 hx hZ (wd21 hw) q1 (g := (mkF m 4 #[.val (.int (3 : Int32))] [(.int (6 : Int32))])) rfl (hb hby d21_4) rfl (by decide) (cap := 6) (by decide) (by decide) (by decide) (by decide)
 obtain ⟨b2, gb2⟩ : ∃ z, z = h0.size := ⟨_, rfl⟩
 rw [← gb2] at A2 st2
 have gn2 : n0 ≤ b2 := Nat.le_trans Z0 (Nat.le_of_eq gb2.symm)
 have sz2_b : h0.size ≤ b2 := Nat.le_trans (Keep.refl h0 []).1 (Nat.le_of_eq gb2.symm)
 have K2 := (Keep.refl h0 []).ext E2
 have V2 : Arv Z h2 b2 k2 .byte (6 : Int32) [(.int (0 : Int32)), (.int (0 : Int32)), (.int (0 : Int32)), (.int (0 : Int32)), (.int (0 : Int32)), (.int (0 : Int32))] (.int (0 : Int32)) := (Arv.new A2 (by decide)).pad (pad_rep [] (.int (0 : Int32)) 6)
 have pre3 : ∀ t, Steps p.tables e below (T2.setTop (mkF m 6 #[.val (.int (3 : Int32))] [(.ref b2)])) t → Steps p.tables e below (s₁.setTop (entryFrame m #[(.int (3 : Int32))] 1)) t := fun t k => pre0 t (by
  show Steps p.tables e below (s₁.setTop (mkF m 0 #[.val (.int (3 : Int32))] [])) _
  refine XS.iloadN X0.here hx rfl (hb hby d21_0) rfl ?_
  refine st1 _ ?_
  refine st2 _ ?_
  exact k)
 obtain ⟨fs4, hr4, hrun4, hended4, hW4, hsame4⟩ := X2.leave (v := some (.ref b2)) (fun h => by rw [Bd.returns] at h; cases h)
 refine ⟨_, _, pre3 _ ?_, hrun4, hended4, _, _, rfl, ?_, ⟨_, rfl⟩, hW4, hsame4.mono (by decide) (by decide)⟩
 ·show Steps p.tables e below (T2.setTop (mkF m 6 #[.val (.int (3 : Int32))] [(.ref b2)])) _
  exact retOut X2 hx (t := (.array .byte)) Bd.returns rfl (Or.inr (Or.inr (Or.inr (Or.inr ⟨rfl, rfl, rfl⟩)))) (hb hby d21_6) hr4
 ·show Qbf3 Z  h0 n0 _ T2.heap _
  rw [e2]
  exact ⟨_, _, rfl, N1, own_ext K2, sz2_b, V2⟩


def Qbl4 (Z : State)  (h0 : Heap) (n0 : Nat) (v : Option Value) (h : Heap) (L : List Loc) : Prop := v = some (.int (8 : Int32)) ∧ Fr n0 L ∧ h = h0
set_option maxRecDepth 65536 in
set_option maxHeartbeats 40000000 in
theorem rmbl4 (l : Launch) (Z : State) (a0 : Array Value) (hw : ∀ d ∈ tables_1, d.before a0 Z = true) (ws : List Jvm.Cond)  (h0 : Heap) (n0 : Nat) (Z0 : n0 ≤ h0.size)  :
  own_M l Z own_z12 jdk_52_method_3_code 1 (some .int) ({ frames := 0, cells := 0, slots := 0, locals := 0 } : Room) ws #[(.int (4 : Int32))] h0 (Qbl4 Z  h0 n0) := by
 refine MetFree.of_bodySF (plainFor_of_name pn_k5) hisR ?_
 intro p e s m args below meth c s₁ Bd hml0 hP hK
 obtain ⟨rfl, hZ, hh⟩ := hP
 have hx := Bd.exec
 have hby := Bd.bytes
 have hml : c.maxLocals = 1 := hml0
 have hown : s.vm.findClass "java/lang/StringUTF16" = some m.cls := findClass_of_methodNamed Bd.named
 have hnm := (name_of_methodNamed Bd.named Bd.method).1
 have X0 : Stand p l e ({ frames := 0, cells := 0, slots := 0, locals := 0 } : Room) s m #[(.int (4 : Int32))] below meth c s₁ [] 0 0 := Stand.of_body Bd
 have e0 : s₁.heap = h0 := by rw [← hh, Bd.state]; rfl
 have N0 := Fr.nil n0
 have pre0 : ∀ t, Steps p.tables e below (s₁.setTop (mkF m 0 #[.val (.int (4 : Int32))] [])) t → Steps p.tables e below (s₁.setTop (entryFrame m #[(.int (4 : Int32))] 1)) t := fun t k => castTop (ef_pl m (4 : Int32)) k
 have pre1 : ∀ t, Steps p.tables e below (s₁.setTop (mkF m 58 #[.val (.int (4 : Int32))] [(.int (8 : Int32))])) t → Steps p.tables e below (s₁.setTop (entryFrame m #[(.int (4 : Int32))] 1)) t := fun t k => pre0 t (by
  show Steps p.tables e below (s₁.setTop (mkF m 0 #[.val (.int (4 : Int32))] [])) _
  refine XS.iloadN X0.here hx rfl (hb hby d22_0) rfl ?_
  refine XS.ifYes X0.here hx rfl (pc0 := 1) (pc' := 12) rfl (hb hby d22_1) rfl ((if0 _ _).trans (flt (by decide : ¬ ((4 : Int32) < (0 : Int32)))).2.1) (by decide) (by decide) ?_
  refine XS.iloadN X0.here hx rfl (hb hby d22_12) rfl ?_
  refine X0.ldcI hx hown (mvT hZ (wd97 hw)) (g := (mkF m 13 #[.val (.int (4 : Int32))] [(.int (4 : Int32))])) rfl (hb hby d22_13) ?_
  refine XS.icmpYes X0.here hx rfl (pc0 := 15) (pc' := 55) rfl (hb hby d22_15) rfl (tlt (by decide : (4 : Int32) < (1073741823 : Int32))).1 (by decide) (by decide) ?_
  refine XS.iloadN X0.here hx rfl (hb hby d22_55) rfl ?_
  refine XS.iconst X0.here hx rfl (hb hby d22_56) ?_
  refine XS.ishl X0.here hx rfl (hb hby d22_57) rfl ?_
  show Steps p.tables e below (s₁.setTop (mkF m 58 #[.val (.int (4 : Int32))] [(.int ((4 : Int32) <<< ((1 : Int32) &&& 31)))])) _
  rw [show ((4 : Int32) <<< ((1 : Int32) &&& 31)) = (8 : Int32) from by decide]
  exact k)
 obtain ⟨fs2, hr2, hrun2, hended2, hW2, hsame2⟩ := X0.leave (v := some (.int (8 : Int32))) (fun h => by rw [Bd.returns] at h; cases h)
 refine ⟨_, _, pre1 _ ?_, hrun2, hended2, _, _, rfl, ?_, ⟨_, rfl⟩, hW2, hsame2.mono (by decide) (by decide)⟩
 ·show Steps p.tables e below (s₁.setTop (mkF m 58 #[.val (.int (4 : Int32))] [(.int (8 : Int32))])) _
  exact retOut X0 hx (t := .int) Bd.returns rfl (Or.inl ⟨rfl, Or.inl rfl, _, rfl⟩) (hb hby d22_58) hr2
 ·show Qbl4 Z  h0 n0 _ s₁.heap _
  rw [e0]
  exact ⟨rfl, N0, rfl⟩


def Qbf4 (Z : State)  (h0 : Heap) (n0 : Nat) (v : Option Value) (h : Heap) (L : List Loc) : Prop := ∃ b kb, v = some (.ref b) ∧ Fr n0 L ∧ Ext h0 h ∧ h0.size ≤ b ∧ Arv Z h b kb .byte (8 : Int32) [(.int 0), (.int 0), (.int 0), (.int 0), (.int 0), (.int 0), (.int 0), (.int 0)] (.int 0)
set_option maxRecDepth 65536 in
set_option maxHeartbeats 40000000 in
theorem rmbf4 (l : Launch) (Z : State) (a0 : Array Value) (hw : ∀ d ∈ tables_1, d.before a0 Z = true) (ws : List Jvm.Cond)  (h0 : Heap) (n0 : Nat) (Z0 : n0 ≤ h0.size)  :
  own_M l Z own_z13 jdk_52_method_2_code 1 (some (.array .byte)) ({ frames := 1, cells := 1, slots := 8, locals := 12 } : Room) ws #[(.int (4 : Int32))] h0 (Qbf4 Z  h0 n0) := by
 refine MetFree.of_bodySF (plainFor_of_name pn_k5) hisR ?_
 intro p e s m args below meth c s₁ Bd hml0 hP hK
 obtain ⟨rfl, hZ, hh⟩ := hP
 have hx := Bd.exec
 have hby := Bd.bytes
 have hml : c.maxLocals = 1 := hml0
 have hown : s.vm.findClass "java/lang/StringUTF16" = some m.cls := findClass_of_methodNamed Bd.named
 have hnm := (name_of_methodNamed Bd.named Bd.method).1
 have X0 : Stand p l e ({ frames := 1, cells := 1, slots := 8, locals := 12 } : Room) s m #[(.int (4 : Int32))] below meth c s₁ [] 0 0 := Stand.of_body Bd
 have e0 : s₁.heap = h0 := by rw [← hh, Bd.state]; rfl
 have N0 := Fr.nil n0
 have pre0 : ∀ t, Steps p.tables e below (s₁.setTop (mkF m 0 #[.val (.int (4 : Int32))] [])) t → Steps p.tables e below (s₁.setTop (entryFrame m #[(.int (4 : Int32))] 1)) t := fun t k => castTop (ef_pl m (4 : Int32)) k
 obtain ⟨_, _, ⟨T1, L1, k1, n1⟩, -, X1, ⟨Lc1, hQ1, l1, y1, z1⟩, st1⟩ := Jvm.LawKit.callS X0 hx (y := own_z12) hown (mvT hZ (wd94 hw)) (mvT hZ (wd95 hw)) (mvT hZ (wd74 hw)) (mvT hZ (wd96 hw)) (by decide) (backOf (W := 0) (rmbl4 l Z a0 hw [] h0 n0 Z0) hZ (wd96 hw) (wd74 hw) (by decide) (by decide)) (g := (mkF m 1 #[.val (.int (4 : Int32))] [(.int (4 : Int32))])) rfl (by rw [hml]; rfl) (argsL := [(.int (4 : Int32))]) (rest := []) (lenOf pd_bl1 rfl) rfl (by show 2 * 0 + _ ≤ _; exact Nat.le_of_eq rfl) (hb hby d21_1) (fun _ _ => ⟨rfl, e0, (by decide : 0 + 0 ≤ _), (by decide : 0 + 0 ≤ _)⟩)
 dsimp only [Pt.U, Pt.locs, Pt.cells, Pt.slots] at X1 l1 y1 z1 st1 hQ1
 subst l1 y1 z1
 obtain ⟨rfl, N1q, q1⟩ := hQ1
 have N1 := Fr.app N0 N1q
 obtain ⟨T2, h2, k2, X2, e2, E2, A2, st2⟩ := newP (aty := .byte) X1 hx hZ (wd21 hw) q1 (g := (mkF m 4 #[.val (.int (4 : Int32))] [(.int (8 : Int32))])) rfl (hb hby d21_4) rfl (by decide) (cap := 8) (by decide) (by decide) (by decide) (by decide)
 obtain ⟨b2, gb2⟩ : ∃ z, z = h0.size := ⟨_, rfl⟩
 rw [← gb2] at A2 st2
 have gn2 : n0 ≤ b2 := Nat.le_trans Z0 (Nat.le_of_eq gb2.symm)
 have sz2_b : h0.size ≤ b2 := Nat.le_trans (Keep.refl h0 []).1 (Nat.le_of_eq gb2.symm)
 have K2 := (Keep.refl h0 []).ext E2
 have V2 : Arv Z h2 b2 k2 .byte (8 : Int32) [(.int (0 : Int32)), (.int (0 : Int32)), (.int (0 : Int32)), (.int (0 : Int32)), (.int (0 : Int32)), (.int (0 : Int32)), (.int (0 : Int32)), (.int (0 : Int32))] (.int (0 : Int32)) := (Arv.new A2 (by decide)).pad (pad_rep [] (.int (0 : Int32)) 8)
 have pre3 : ∀ t, Steps p.tables e below (T2.setTop (mkF m 6 #[.val (.int (4 : Int32))] [(.ref b2)])) t → Steps p.tables e below (s₁.setTop (entryFrame m #[(.int (4 : Int32))] 1)) t := fun t k => pre0 t (by
  show Steps p.tables e below (s₁.setTop (mkF m 0 #[.val (.int (4 : Int32))] [])) _
  refine XS.iloadN X0.here hx rfl (hb hby d21_0) rfl ?_
  refine st1 _ ?_
  refine st2 _ ?_
  exact k)
 obtain ⟨fs4, hr4, hrun4, hended4, hW4, hsame4⟩ := X2.leave (v := some (.ref b2)) (fun h => by rw [Bd.returns] at h; cases h)
 refine ⟨_, _, pre3 _ ?_, hrun4, hended4, _, _, rfl, ?_, ⟨_, rfl⟩, hW4, hsame4.mono (by decide) (by decide)⟩
 ·show Steps p.tables e below (T2.setTop (mkF m 6 #[.val (.int (4 : Int32))] [(.ref b2)])) _
  exact retOut X2 hx (t := (.array .byte)) Bd.returns rfl (Or.inr (Or.inr (Or.inr (Or.inr ⟨rfl, rfl, rfl⟩)))) (hb hby d21_6) hr4
 ·show Qbf4 Z  h0 n0 _ T2.heap _
  rw [e2]
  exact ⟨_, _, rfl, N1, own_ext K2, sz2_b, V2⟩

theorem d20_0 : decode jdk_52_method_14_code 0 = .ok (.iload_n 2, 1) := by decide +kernel
theorem d20_1 : decode jdk_52_method_14_code 1 = .ok (.invokestatic 107, 3) := by decide +kernel
theorem d20_4 : decode jdk_52_method_14_code 4 = .ok (.astore_n 3, 1) := by decide +kernel
theorem d20_5 : decode jdk_52_method_14_code 5 = .ok (.iconst 0, 1) := by decide +kernel
theorem d20_6 : decode jdk_52_method_14_code 6 = .ok (.istore 4, 2) := by decide +kernel
theorem d20_8 : decode jdk_52_method_14_code 8 = .ok (.iload 4, 2) := by decide +kernel
theorem d20_10 : decode jdk_52_method_14_code 10 = .ok (.iload_n 2, 1) := by decide +kernel
theorem d20_11 : decode jdk_52_method_14_code 11 = .ok (.if_icmp .ge 21, 3) := by decide +kernel
theorem d20_14 : decode jdk_52_method_14_code 14 = .ok (.aload_n 3, 1) := by decide +kernel
theorem d20_15 : decode jdk_52_method_14_code 15 = .ok (.iload 4, 2) := by decide +kernel
theorem d20_17 : decode jdk_52_method_14_code 17 = .ok (.aload_n 0, 1) := by decide +kernel
theorem d20_18 : decode jdk_52_method_14_code 18 = .ok (.iload_n 1, 1) := by decide +kernel
theorem d20_19 : decode jdk_52_method_14_code 19 = .ok (.caload, 1) := by decide +kernel
theorem d20_20 : decode jdk_52_method_14_code 20 = .ok (.invokestatic 111, 3) := by decide +kernel
theorem d20_23 : decode jdk_52_method_14_code 23 = .ok (.iinc 1 1, 3) := by decide +kernel
theorem d20_26 : decode jdk_52_method_14_code 26 = .ok (.iinc 4 1, 3) := by decide +kernel
theorem d20_29 : decode jdk_52_method_14_code 29 = .ok (.goto (-21), 3) := by decide +kernel
theorem d20_32 : decode jdk_52_method_14_code 32 = .ok (.aload_n 3, 1) := by decide +kernel
theorem d20_33 : decode jdk_52_method_14_code 33 = .ok (.areturn, 1) := by decide +kernel

theorem pd_tb1 : parseMethodDescriptor "([CII)[B" = some ⟨[(.array .char), .int, .int], some (.array .byte)⟩ := by decide +kernel

theorem ef_tb1 (m : MethodId) (x0 : Addr) (x1 : Int32) (x2 : Int32)  : entryFrame m #[(.ref x0), (.int x1), (.int x2)] 5 = mkF m 0 #[.val (.ref x0), .val (.int x1), .val (.int x2), .unset, .unset] [] := by first | (simp [entryFrame, mkF, argsToLocals, Value.category]; done) | rfl
def Qtb1 (Z : State) (a1 : Addr) (kc : ClassId) (c0 : Int32) (h0 : Heap) (n0 : Nat) (v : Option Value) (h : Heap) (L : List Loc) : Prop := ∃ b kb, v = some (.ref b) ∧ Fr n0 L ∧ Ext h0 h ∧ Arv Z h b kb .byte (2 : Int32) (StrChars.Road.wideBytes [c0]) (.int 0)
set_option maxRecDepth 65536 in
set_option maxHeartbeats 40000000 in
theorem rmtb1 (l : Launch) (Z : State) (a0 : Array Value) (hw : ∀ d ∈ tables_1, d.before a0 Z = true) (ws : List Jvm.Cond) (a1 : Addr) (kc : ClassId) (c0 : Int32) (h0 : Heap) (n0 : Nat) (Z0 : n0 ≤ h0.size) (Ac : Arv Z h0 a1 kc .char (1 : Int32) ([c0].map Value.int) (.int 0)) (EN : own_env Z h0) :
  own_M l Z own_z14 jdk_52_method_14_code 5 (some (.array .byte)) ({ frames := 2, cells := 1, slots := 2, locals := 24 } : Room) ws #[(.ref a1), (.int (0 : Int32)), (.int (1 : Int32))] h0 (Qtb1 Z a1 kc c0 h0 n0) := by
 refine MetFree.of_bodySF (plainFor_of_name pn_k5) hisR ?_
 intro p e s m args below meth c s₁ Bd hml0 hP hK
 obtain ⟨rfl, hZ, hh⟩ := hP
 have hx := Bd.exec
 have hby := Bd.bytes
 have hml : c.maxLocals = 5 := hml0
 have hown : s.vm.findClass "java/lang/StringUTF16" = some m.cls := findClass_of_methodNamed Bd.named
 have hnm := (name_of_methodNamed Bd.named Bd.method).1
 have X0 : Stand p l e ({ frames := 2, cells := 1, slots := 2, locals := 24 } : Room) s m #[(.ref a1), (.int (0 : Int32)), (.int (1 : Int32))] below meth c s₁ [] 0 0 := Stand.of_body Bd
 have e0 : s₁.heap = h0 := by rw [← hh, Bd.state]; rfl
 have N0 := Fr.nil n0
 have pre0 : ∀ t, Steps p.tables e below (s₁.setTop (mkF m 0 #[.val (.ref a1), .val (.int (0 : Int32)), .val (.int (1 : Int32)), .unset, .unset] [])) t → Steps p.tables e below (s₁.setTop (entryFrame m #[(.ref a1), (.int (0 : Int32)), (.int (1 : Int32))] 5)) t := fun t k => castTop (ef_tb1 m a1 (0 : Int32) (1 : Int32)) k
 obtain ⟨_, _, ⟨T1, L1, k1, n1⟩, -, X1, ⟨Lc1, hQ1, l1, y1, z1⟩, st1⟩ := Jvm.LawKit.callS X0 hx (y := own_z13) hown (mvT hZ (wd91 hw)) (mvT hZ (wd92 hw)) (mvT hZ (wd74 hw)) (mvT hZ (wd93 hw)) (by decide) (backOf (W := 0) (rmbf1 l Z a0 hw [] h0 n0 Z0) hZ (wd93 hw) (wd74 hw) (by decide) (by decide)) (g := (mkF m 1 #[.val (.ref a1), .val (.int (0 : Int32)), .val (.int (1 : Int32)), .unset, .unset] [(.int (1 : Int32))])) rfl (by rw [hml]; rfl) (argsL := [(.int (1 : Int32))]) (rest := []) (lenOf pd_bf1 rfl) rfl (by show 2 * 0 + _ ≤ _; exact Nat.le_of_eq rfl) (hb hby d20_1) (fun _ _ => ⟨rfl, e0, (by decide : 0 + 1 ≤ _), (by decide : 0 + 2 ≤ _)⟩)
 dsimp only [Pt.U, Pt.locs, Pt.cells, Pt.slots] at X1 l1 y1 z1 st1 hQ1
 subst l1 y1 z1
 obtain ⟨b1, kb1, rfl, N1q, E1, gz1, V1⟩ := hQ1
 have N1 := Fr.app N0 N1q
 have Ac_1 := Ac.ext E1
 have EN_1 := EN.ext E1
 have K1 := (Keep.refl h0 []).ext E1
 have nab : a1 ≠ b1 := Nat.ne_of_lt (Nat.lt_of_lt_of_le Ac.lt gz1)
 have Vc2 := Ac_1
 obtain ⟨cl2, Ar2, qq2, sz2, nn2, Ha2, Gf2⟩ := Vc2
 have hin2 : ¬ ((0 : Int32) < 0 ∨ cl2.slots.size ≤ ((0 : Int32)).toNatClampNeg) := inb_of sz2 ⟨by decide, by decide⟩
 obtain ⟨_, _, ⟨T3, L3, k3, n3⟩, -, X3, ⟨Lc3, hQ3, l3, y3, z3⟩, st3⟩ := Jvm.LawKit.callS X1 hx (y := own_z11) hown (mvT hZ (wd98 hw)) (mvT hZ (wd99 hw)) (mvT hZ (wd74 hw)) (mvT hZ (wd100 hw)) (by decide) (backOf (W := 0) (rmpc l Z a0 hw [] b1 kb1 (2 : Int32) [.int 0, .int 0] 0 (0 : Int32) c0 T1.heap n0 (Nat.le_trans Z0 E1.1) EN_1 V1 (Nat.le_trans Z0 gz1) ⟨by decide, by decide⟩ ⟨by decide, by decide⟩ (by decide) (by decide) (Nat.le_of_ble_eq_true rfl) (Nat.le_of_ble_eq_true rfl)) hZ (wd100 hw) (wd74 hw) (by decide) (by decide)) (g := (mkF m 20 #[.val (.ref a1), .val (.int (0 : Int32)), .val (.int (1 : Int32)), .val (.ref b1), .val (.int (0 : Int32))] [(.int c0), (.int (0 : Int32)), (.ref b1)])) rfl (by rw [hml]; rfl) (argsL := [(.ref b1), (.int (0 : Int32)), (.int c0)]) (rest := []) (lenOf pd_pc rfl) rfl (by show 2 * 0 + _ ≤ _; exact Nat.le_of_eq rfl) (hb hby d20_20) (fun _ _ => ⟨rfl, rfl, (by decide : 1 + 0 ≤ _), (by decide : 2 + 0 ≤ _)⟩)
 dsimp only [Pt.U, Pt.locs, Pt.cells, Pt.slots] at X3 l3 y3 z3 st3 hQ3
 subst l3 y3 z3
 obtain ⟨rfl, N3q, Kp3, Vn3⟩ := hQ3
 have N3 := Fr.app N1 N3q
 have Ac_3 := Ac_1.keep Kp3 (ninS nab nin0)
 have EN_3 := EN_1.keep Kp3 V1.nostat
 have K3 := K1.trans Kp3 (fun x hx => by cases List.mem_singleton.mp hx; exact Or.inr gz1)
 have Vx3 : Arv Z T3.heap b1 kb1 .byte (2 : Int32) [.int (StrChars.lo8 c0), .int (StrChars.hi8 c0)] (.int 0) := Vn3
 have pre4 : ∀ t, Steps p.tables e below (T3.setTop (mkF m 33 #[.val (.ref a1), .val (.int (1 : Int32)), .val (.int (1 : Int32)), .val (.ref b1), .val (.int (1 : Int32))] [(.ref b1)])) t → Steps p.tables e below (s₁.setTop (entryFrame m #[(.ref a1), (.int (0 : Int32)), (.int (1 : Int32))] 5)) t := fun t k => pre0 t (by
  show Steps p.tables e below (s₁.setTop (mkF m 0 #[.val (.ref a1), .val (.int (0 : Int32)), .val (.int (1 : Int32)), .unset, .unset] [])) _
  refine XS.iloadN X0.here hx rfl (hb hby d20_0) rfl ?_
  refine st1 _ ?_
  refine XS.astoreN X1.here hx rfl (hb hby d20_4) rfl rfl (l' := #[.val (.ref a1), .val (.int (0 : Int32)), .val (.int (1 : Int32)), .val (.ref b1), .unset]) rfl ?_
  refine XS.iconst X1.here hx rfl (hb hby d20_5) ?_
  refine XS.istore X1.here hx rfl (hb hby d20_6) rfl (l' := #[.val (.ref a1), .val (.int (0 : Int32)), .val (.int (1 : Int32)), .val (.ref b1), .val (.int (0 : Int32))]) rfl ?_
  refine XS.iload X1.here hx rfl (hb hby d20_8) rfl ?_
  refine XS.iloadN X1.here hx rfl (hb hby d20_10) rfl ?_
  refine XS.icmpNo X1.here hx rfl (hb hby d20_11) rfl (tlt (by decide : (0 : Int32) < (1 : Int32))).2.1 ?_
  refine XS.aloadN X1.here hx rfl (hb hby d20_14) rfl rfl ?_
  refine XS.iload X1.here hx rfl (hb hby d20_15) rfl ?_
  refine XS.aloadN X1.here hx rfl (hb hby d20_17) rfl rfl ?_
  refine XS.iloadN X1.here hx rfl (hb hby d20_18) rfl ?_
  refine X1.caload hx (j := (0 : Int32)) (v := (.int c0)) Ar2.1 (State.isArrayOf_alike hZ.alike Ar2.2.1) Ar2.2.2 hin2 (Has.at Ha2 hin2 rfl) (g := (mkF m 19 #[.val (.ref a1), .val (.int (0 : Int32)), .val (.int (1 : Int32)), .val (.ref b1), .val (.int (0 : Int32))] [(.int (0 : Int32)), (.ref a1), (.int (0 : Int32)), (.ref b1)])) rfl rfl (hb hby d20_19) _ ?_
  refine st3 _ ?_
  refine XS.iinc X3.here hx rfl (hb hby d20_23) rfl (l' := #[.val (.ref a1), .val (.int ((0 : Int32) + (1 : Int32))), .val (.int (1 : Int32)), .val (.ref b1), .val (.int (0 : Int32))]) rfl ?_
  show Steps p.tables e below (T3.setTop (mkF m 26 #[.val (.ref a1), .val (.int ((0 : Int32) + (1 : Int32))), .val (.int (1 : Int32)), .val (.ref b1), .val (.int (0 : Int32))] [])) _
  rw [show ((0 : Int32) + (1 : Int32)) = (1 : Int32) from by decide]
  refine XS.iinc X3.here hx rfl (hb hby d20_26) rfl (l' := #[.val (.ref a1), .val (.int (1 : Int32)), .val (.int (1 : Int32)), .val (.ref b1), .val (.int ((0 : Int32) + (1 : Int32)))]) rfl ?_
  show Steps p.tables e below (T3.setTop (mkF m 29 #[.val (.ref a1), .val (.int (1 : Int32)), .val (.int (1 : Int32)), .val (.ref b1), .val (.int ((0 : Int32) + (1 : Int32)))] [])) _
  rw [show ((0 : Int32) + (1 : Int32)) = (1 : Int32) from by decide]
  refine XS.goto X3.here hx rfl (pc0 := 29) (pc' := 8) rfl (hb hby d20_29) (by decide) (by decide) ?_
  refine XS.iload X3.here hx rfl (hb hby d20_8) rfl ?_
  refine XS.iloadN X3.here hx rfl (hb hby d20_10) rfl ?_
  refine XS.icmpYes X3.here hx rfl (pc0 := 11) (pc' := 32) rfl (hb hby d20_11) rfl (flt (by decide : ¬ ((1 : Int32) < (1 : Int32)))).2.1 (by decide) (by decide) ?_
  refine XS.aloadN X3.here hx rfl (hb hby d20_32) rfl rfl ?_
  exact k)
 obtain ⟨fs5, hr5, hrun5, hended5, hW5, hsame5⟩ := X3.leave (v := some (.ref b1)) (fun h => by rw [Bd.returns] at h; cases h)
 refine ⟨_, _, pre4 _ ?_, hrun5, hended5, _, _, rfl, ?_, ⟨_, rfl⟩, hW5, hsame5.mono (by decide) (by decide)⟩
 ·show Steps p.tables e below (T3.setTop (mkF m 33 #[.val (.ref a1), .val (.int (1 : Int32)), .val (.int (1 : Int32)), .val (.ref b1), .val (.int (1 : Int32))] [(.ref b1)])) _
  exact retOut X3 hx (t := (.array .byte)) Bd.returns rfl (Or.inr (Or.inr (Or.inr (Or.inr ⟨rfl, rfl, rfl⟩)))) (hb hby d20_33) hr5
 ·show Qtb1 Z a1 kc c0 h0 n0 _ T3.heap _
  exact ⟨_, _, rfl, N3, own_ext K3, Vx3⟩

theorem d16_0 : decode jdk_52_method_21_code 0 = .ok (.iconst 0, 1) := by decide +kernel
theorem d16_1 : decode jdk_52_method_21_code 1 = .ok (.istore 5, 2) := by decide +kernel
theorem d16_3 : decode jdk_52_method_21_code 3 = .ok (.iload 5, 2) := by decide +kernel
theorem d16_5 : decode jdk_52_method_21_code 5 = .ok (.iload 4, 2) := by decide +kernel
theorem d16_7 : decode jdk_52_method_21_code 7 = .ok (.if_icmp .ge 37, 3) := by decide +kernel
theorem d16_10 : decode jdk_52_method_21_code 10 = .ok (.aload_n 0, 1) := by decide +kernel
theorem d16_11 : decode jdk_52_method_21_code 11 = .ok (.iload_n 1, 1) := by decide +kernel
theorem d16_12 : decode jdk_52_method_21_code 12 = .ok (.caload, 1) := by decide +kernel
theorem d16_13 : decode jdk_52_method_21_code 13 = .ok (.istore 6, 2) := by decide +kernel
theorem d16_15 : decode jdk_52_method_21_code 15 = .ok (.iload 6, 2) := by decide +kernel
theorem d16_17 : decode jdk_52_method_21_code 17 = .ok (.sipush 255, 3) := by decide +kernel
theorem d16_20 : decode jdk_52_method_21_code 20 = .ok (.if_icmp .le 6, 3) := by decide +kernel
theorem d16_23 : decode jdk_52_method_21_code 23 = .ok (.iload 5, 2) := by decide +kernel
theorem d16_25 : decode jdk_52_method_21_code 25 = .ok (.ireturn, 1) := by decide +kernel
theorem d16_26 : decode jdk_52_method_21_code 26 = .ok (.aload_n 2, 1) := by decide +kernel
theorem d16_27 : decode jdk_52_method_21_code 27 = .ok (.iload_n 3, 1) := by decide +kernel
theorem d16_28 : decode jdk_52_method_21_code 28 = .ok (.iload 6, 2) := by decide +kernel
theorem d16_30 : decode jdk_52_method_21_code 30 = .ok (.i2b, 1) := by decide +kernel
theorem d16_31 : decode jdk_52_method_21_code 31 = .ok (.bastore, 1) := by decide +kernel
theorem d16_32 : decode jdk_52_method_21_code 32 = .ok (.iinc 1 1, 3) := by decide +kernel
theorem d16_35 : decode jdk_52_method_21_code 35 = .ok (.iinc 3 1, 3) := by decide +kernel
theorem d16_38 : decode jdk_52_method_21_code 38 = .ok (.iinc 5 1, 3) := by decide +kernel
theorem d16_41 : decode jdk_52_method_21_code 41 = .ok (.goto (-38), 3) := by decide +kernel
theorem d16_44 : decode jdk_52_method_21_code 44 = .ok (.iload 4, 2) := by decide +kernel
theorem d16_46 : decode jdk_52_method_21_code 46 = .ok (.ireturn, 1) := by decide +kernel

theorem pd_cp1 : parseMethodDescriptor "([CI[BII)I" = some ⟨[(.array .char), .int, (.array .byte), .int, .int], some .int⟩ := by decide +kernel

theorem ef_cp1 (m : MethodId) (x0 : Addr) (x1 : Int32) (x2 : Addr) (x3 : Int32) (x4 : Int32)  : entryFrame m #[(.ref x0), (.int x1), (.ref x2), (.int x3), (.int x4)] 7 = mkF m 0 #[.val (.ref x0), .val (.int x1), .val (.ref x2), .val (.int x3), .val (.int x4), .unset, .unset] [] := by first | (simp [entryFrame, mkF, argsToLocals, Value.category]; done) | rfl
def Qcp1 (Z : State) (a1 a2 : Addr) (kc kd : ClassId) (c0 : Int32) (h0 : Heap) (n0 : Nat) (v : Option Value) (h : Heap) (L : List Loc) : Prop := ∃ j : Int32, v = some (.int j) ∧ Fr n0 L ∧ Keep h0 h [a2] ∧ ((j = (0 : Int32) ∧ (255 : Int32) < c0) ∨ (j = (1 : Int32) ∧ (¬ (255 : Int32) < c0) ∧ Arv Z h a2 kd .byte (1 : Int32) ([c0].map fun c => Value.int (StrChars.lo8 c)) (.int 0)))
set_option maxRecDepth 65536 in
set_option maxHeartbeats 40000000 in
theorem rmcp1 (l : Launch) (Z : State) (a0 : Array Value) (hw : ∀ d ∈ tables_1, d.before a0 Z = true) (ws : List Jvm.Cond) (a1 a2 : Addr) (kc kd : ClassId) (c0 : Int32) (h0 : Heap) (n0 : Nat) (Z0 : n0 ≤ h0.size) (Ac : Arv Z h0 a1 kc .char (1 : Int32) ([c0].map Value.int) (.int 0)) (Vd : Arv Z h0 a2 kd .byte (1 : Int32) [.int 0] (.int 0)) (hne : a1 ≠ a2) (gd : n0 ≤ a2) :
  own_M l Z own_z15 jdk_52_method_21_code 7 (some .int) ({ frames := 0, cells := 0, slots := 0, locals := 0 } : Room) ws #[(.ref a1), (.int (0 : Int32)), (.ref a2), (.int (0 : Int32)), (.int (1 : Int32))] h0 (Qcp1 Z a1 a2 kc kd c0 h0 n0) := by
 refine MetFree.of_bodySF (plainFor_of_name pn_k5) hisR ?_
 intro p e s m args below meth c s₁ Bd hml0 hP hK
 obtain ⟨rfl, hZ, hh⟩ := hP
 have hx := Bd.exec
 have hby := Bd.bytes
 have hml : c.maxLocals = 7 := hml0
 have hown : s.vm.findClass "java/lang/StringUTF16" = some m.cls := findClass_of_methodNamed Bd.named
 have hnm := (name_of_methodNamed Bd.named Bd.method).1
 have X0 : Stand p l e ({ frames := 0, cells := 0, slots := 0, locals := 0 } : Room) s m #[(.ref a1), (.int (0 : Int32)), (.ref a2), (.int (0 : Int32)), (.int (1 : Int32))] below meth c s₁ [] 0 0 := Stand.of_body Bd
 have e0 : s₁.heap = h0 := by rw [← hh, Bd.state]; rfl
 have N0 := Fr.nil n0
 have pre0 : ∀ t, Steps p.tables e below (s₁.setTop (mkF m 0 #[.val (.ref a1), .val (.int (0 : Int32)), .val (.ref a2), .val (.int (0 : Int32)), .val (.int (1 : Int32)), .unset, .unset] [])) t → Steps p.tables e below (s₁.setTop (entryFrame m #[(.ref a1), (.int (0 : Int32)), (.ref a2), (.int (0 : Int32)), (.int (1 : Int32))] 7)) t := fun t k => castTop (ef_cp1 m a1 (0 : Int32) a2 (0 : Int32) (1 : Int32)) k
 have Vc1 := Ac
 obtain ⟨cl1, Ar1, qq1, sz1, nn1, Ha1, Gf1⟩ := Vc1
 have hin1 : ¬ ((0 : Int32) < 0 ∨ cl1.slots.size ≤ ((0 : Int32)).toNatClampNeg) := inb_of sz1 ⟨by decide, by decide⟩
 have pre2 : ∀ t, Steps p.tables e below (s₁.setTop (mkF m 20 #[.val (.ref a1), .val (.int (0 : Int32)), .val (.ref a2), .val (.int (0 : Int32)), .val (.int (1 : Int32)), .val (.int (0 : Int32)), .val (.int c0)] [(.int (255 : Int32)), (.int c0)])) t → Steps p.tables e below (s₁.setTop (entryFrame m #[(.ref a1), (.int (0 : Int32)), (.ref a2), (.int (0 : Int32)), (.int (1 : Int32))] 7)) t := fun t k => pre0 t (by
  show Steps p.tables e below (s₁.setTop (mkF m 0 #[.val (.ref a1), .val (.int (0 : Int32)), .val (.ref a2), .val (.int (0 : Int32)), .val (.int (1 : Int32)), .unset, .unset] [])) _
  refine XS.iconst X0.here hx rfl (hb hby d16_0) ?_
  refine XS.istore X0.here hx rfl (hb hby d16_1) rfl (l' := #[.val (.ref a1), .val (.int (0 : Int32)), .val (.ref a2), .val (.int (0 : Int32)), .val (.int (1 : Int32)), .val (.int (0 : Int32)), .unset]) rfl ?_
  refine XS.iload X0.here hx rfl (hb hby d16_3) rfl ?_
  refine XS.iload X0.here hx rfl (hb hby d16_5) rfl ?_
  refine XS.icmpNo X0.here hx rfl (hb hby d16_7) rfl (tlt (by decide : (0 : Int32) < (1 : Int32))).2.1 ?_
  refine XS.aloadN X0.here hx rfl (hb hby d16_10) rfl rfl ?_
  refine XS.iloadN X0.here hx rfl (hb hby d16_11) rfl ?_
  refine X0.caload hx (j := (0 : Int32)) (v := (.int c0)) (by rw [e0]; exact Ar1.1) (State.isArrayOf_alike hZ.alike Ar1.2.1) Ar1.2.2 hin1 (Has.at Ha1 hin1 rfl) (g := (mkF m 12 #[.val (.ref a1), .val (.int (0 : Int32)), .val (.ref a2), .val (.int (0 : Int32)), .val (.int (1 : Int32)), .val (.int (0 : Int32)), .unset] [(.int (0 : Int32)), (.ref a1)])) rfl rfl (hb hby d16_12) _ ?_
  refine XS.istore X0.here hx rfl (hb hby d16_13) rfl (l' := #[.val (.ref a1), .val (.int (0 : Int32)), .val (.ref a2), .val (.int (0 : Int32)), .val (.int (1 : Int32)), .val (.int (0 : Int32)), .val (.int c0)]) rfl ?_
  refine XS.iload X0.here hx rfl (hb hby d16_15) rfl ?_
  refine XS.sipush X0.here hx rfl (hb hby d16_17) ?_
  exact k)
 by_cases hc20 : (255 : Int32) < c0
 ·have pre3 : ∀ t, Steps p.tables e below (s₁.setTop (mkF m 25 #[.val (.ref a1), .val (.int (0 : Int32)), .val (.ref a2), .val (.int (0 : Int32)), .val (.int (1 : Int32)), .val (.int (0 : Int32)), .val (.int c0)] [(.int (0 : Int32))])) t → Steps p.tables e below (s₁.setTop (entryFrame m #[(.ref a1), (.int (0 : Int32)), (.ref a2), (.int (0 : Int32)), (.int (1 : Int32))] 7)) t := fun t k => pre2 t (by
   show Steps p.tables e below (s₁.setTop (mkF m 20 #[.val (.ref a1), .val (.int (0 : Int32)), .val (.ref a2), .val (.int (0 : Int32)), .val (.int (1 : Int32)), .val (.int (0 : Int32)), .val (.int c0)] [(.int (255 : Int32)), (.int c0)])) _
   refine XS.icmpNo X0.here hx rfl (hb hby d16_20) rfl (tlt hc20).2.2.2 ?_
   refine XS.iload X0.here hx rfl (hb hby d16_23) rfl ?_
   exact k)
  obtain ⟨fs4, hr4, hrun4, hended4, hW4, hsame4⟩ := X0.leave (v := some (.int (0 : Int32))) (fun h => by rw [Bd.returns] at h; cases h)
  refine ⟨_, _, pre3 _ ?_, hrun4, hended4, _, _, rfl, ?_, ⟨_, rfl⟩, hW4, hsame4.mono (by decide) (by decide)⟩
  ·show Steps p.tables e below (s₁.setTop (mkF m 25 #[.val (.ref a1), .val (.int (0 : Int32)), .val (.ref a2), .val (.int (0 : Int32)), .val (.int (1 : Int32)), .val (.int (0 : Int32)), .val (.int c0)] [(.int (0 : Int32))])) _
   exact retOut X0 hx (t := .int) Bd.returns rfl (Or.inl ⟨rfl, Or.inl rfl, _, rfl⟩) (hb hby d16_25) hr4
  ·show Qcp1 Z a1 a2 kc kd c0 h0 n0 _ s₁.heap _
   rw [e0]
   exact ⟨_, rfl, N0, (Keep.refl h0 [a2]), Or.inl ⟨rfl, hc20⟩⟩
 have Vc5 := Vd
 obtain ⟨cl5, Ar5, qq5, sz5, nn5, Ha5, Gf5⟩ := Vc5
 have hin5 : ¬ ((0 : Int32) < 0 ∨ cl5.slots.size ≤ ((0 : Int32)).toNatClampNeg) := inb_of sz5 ⟨by decide, by decide⟩
 obtain ⟨T6, h6, X6, e6, W6, st6⟩ := stB X0 hx hZ e0 Ar5 (j := (0 : Int32)) hin5 (g := (mkF m 31 #[.val (.ref a1), .val (.int (0 : Int32)), .val (.ref a2), .val (.int (0 : Int32)), .val (.int (1 : Int32)), .val (.int (0 : Int32)), .val (.int c0)] [(.int (c0.toInt8.toInt32)), (.int (0 : Int32)), (.ref a2)])) rfl rfl (hb hby d16_31)
 have N6 := Fr.snoc X6 N0 gd
 have Ac_6 := Ac.other W6 hne
 have Vd_6 := Arv.set Ar5 qq5 sz5 nn5 Ha5 Gf5 (fits_nar_byte _) W6 0 rfl (Nat.le_of_ble_eq_true rfl)
 have pre7 : ∀ t, Steps p.tables e below (T6.setTop (mkF m 46 #[.val (.ref a1), .val (.int (1 : Int32)), .val (.ref a2), .val (.int (1 : Int32)), .val (.int (1 : Int32)), .val (.int (1 : Int32)), .val (.int c0)] [(.int (1 : Int32))])) t → Steps p.tables e below (s₁.setTop (entryFrame m #[(.ref a1), (.int (0 : Int32)), (.ref a2), (.int (0 : Int32)), (.int (1 : Int32))] 7)) t := fun t k => pre2 t (by
  show Steps p.tables e below (s₁.setTop (mkF m 20 #[.val (.ref a1), .val (.int (0 : Int32)), .val (.ref a2), .val (.int (0 : Int32)), .val (.int (1 : Int32)), .val (.int (0 : Int32)), .val (.int c0)] [(.int (255 : Int32)), (.int c0)])) _
  refine XS.icmpYes X0.here hx rfl (pc0 := 20) (pc' := 26) rfl (hb hby d16_20) rfl (flt hc20).2.2.2 (by decide) (by decide) ?_
  refine XS.aloadN X0.here hx rfl (hb hby d16_26) rfl rfl ?_
  refine XS.iloadN X0.here hx rfl (hb hby d16_27) rfl ?_
  refine XS.iload X0.here hx rfl (hb hby d16_28) rfl ?_
  refine XS.i2b X0.here hx rfl (hb hby d16_30) rfl ?_
  refine st6 _ ?_
  refine XS.iinc X6.here hx rfl (hb hby d16_32) rfl (l' := #[.val (.ref a1), .val (.int ((0 : Int32) + (1 : Int32))), .val (.ref a2), .val (.int (0 : Int32)), .val (.int (1 : Int32)), .val (.int (0 : Int32)), .val (.int c0)]) rfl ?_
  show Steps p.tables e below (T6.setTop (mkF m 35 #[.val (.ref a1), .val (.int ((0 : Int32) + (1 : Int32))), .val (.ref a2), .val (.int (0 : Int32)), .val (.int (1 : Int32)), .val (.int (0 : Int32)), .val (.int c0)] [])) _
  rw [show ((0 : Int32) + (1 : Int32)) = (1 : Int32) from by decide]
  refine XS.iinc X6.here hx rfl (hb hby d16_35) rfl (l' := #[.val (.ref a1), .val (.int (1 : Int32)), .val (.ref a2), .val (.int ((0 : Int32) + (1 : Int32))), .val (.int (1 : Int32)), .val (.int (0 : Int32)), .val (.int c0)]) rfl ?_
  show Steps p.tables e below (T6.setTop (mkF m 38 #[.val (.ref a1), .val (.int (1 : Int32)), .val (.ref a2), .val (.int ((0 : Int32) + (1 : Int32))), .val (.int (1 : Int32)), .val (.int (0 : Int32)), .val (.int c0)] [])) _
  rw [show ((0 : Int32) + (1 : Int32)) = (1 : Int32) from by decide]
  refine XS.iinc X6.here hx rfl (hb hby d16_38) rfl (l' := #[.val (.ref a1), .val (.int (1 : Int32)), .val (.ref a2), .val (.int (1 : Int32)), .val (.int (1 : Int32)), .val (.int ((0 : Int32) + (1 : Int32))), .val (.int c0)]) rfl ?_
  show Steps p.tables e below (T6.setTop (mkF m 41 #[.val (.ref a1), .val (.int (1 : Int32)), .val (.ref a2), .val (.int (1 : Int32)), .val (.int (1 : Int32)), .val (.int ((0 : Int32) + (1 : Int32))), .val (.int c0)] [])) _
  rw [show ((0 : Int32) + (1 : Int32)) = (1 : Int32) from by decide]
  refine XS.goto X6.here hx rfl (pc0 := 41) (pc' := 3) rfl (hb hby d16_41) (by decide) (by decide) ?_
  refine XS.iload X6.here hx rfl (hb hby d16_3) rfl ?_
  refine XS.iload X6.here hx rfl (hb hby d16_5) rfl ?_
  refine XS.icmpYes X6.here hx rfl (pc0 := 7) (pc' := 44) rfl (hb hby d16_7) rfl (flt (by decide : ¬ ((1 : Int32) < (1 : Int32)))).2.1 (by decide) (by decide) ?_
  refine XS.iload X6.here hx rfl (hb hby d16_44) rfl ?_
  exact k)
 obtain ⟨fs8, hr8, hrun8, hended8, hW8, hsame8⟩ := X6.leave (v := some (.int (1 : Int32))) (fun h => by rw [Bd.returns] at h; cases h)
 refine ⟨_, _, pre7 _ ?_, hrun8, hended8, _, _, rfl, ?_, ⟨_, rfl⟩, hW8, hsame8.mono (by decide) (by decide)⟩
 ·show Steps p.tables e below (T6.setTop (mkF m 46 #[.val (.ref a1), .val (.int (1 : Int32)), .val (.ref a2), .val (.int (1 : Int32)), .val (.int (1 : Int32)), .val (.int (1 : Int32)), .val (.int c0)] [(.int (1 : Int32))])) _
  exact retOut X6 hx (t := .int) Bd.returns rfl (Or.inl ⟨rfl, Or.inl rfl, _, rfl⟩) (hb hby d16_46) hr8
 ·show Qcp1 Z a1 a2 kc kd c0 h0 n0 _ T6.heap _
  rw [e6]
  have q := Vd_6
  simp only [own_lo] at q
  exact ⟨_, rfl, N6, ((Keep.refl h0 [a2]).wr W6 (Or.inl (List.mem_singleton.mpr rfl))), Or.inr (⟨rfl, hc20, q⟩)⟩

theorem d15_0 : decode jdk_52_method_16_code 0 = .ok (.iload_n 2, 1) := by decide +kernel
theorem d15_1 : decode jdk_52_method_16_code 1 = .ok (.newarray .byte, 2) := by decide +kernel
theorem d15_3 : decode jdk_52_method_16_code 3 = .ok (.astore_n 3, 1) := by decide +kernel
theorem d15_4 : decode jdk_52_method_16_code 4 = .ok (.aload_n 0, 1) := by decide +kernel
theorem d15_5 : decode jdk_52_method_16_code 5 = .ok (.iload_n 1, 1) := by decide +kernel
theorem d15_6 : decode jdk_52_method_16_code 6 = .ok (.aload_n 3, 1) := by decide +kernel
theorem d15_7 : decode jdk_52_method_16_code 7 = .ok (.iconst 0, 1) := by decide +kernel
theorem d15_8 : decode jdk_52_method_16_code 8 = .ok (.iload_n 2, 1) := by decide +kernel
theorem d15_9 : decode jdk_52_method_16_code 9 = .ok (.invokestatic 115, 3) := by decide +kernel
theorem d15_12 : decode jdk_52_method_16_code 12 = .ok (.istore 4, 2) := by decide +kernel
theorem d15_14 : decode jdk_52_method_16_code 14 = .ok (.iload 4, 2) := by decide +kernel
theorem d15_16 : decode jdk_52_method_16_code 16 = .ok (.iload_n 2, 1) := by decide +kernel
theorem d15_17 : decode jdk_52_method_16_code 17 = .ok (.if_icmp .eq 40, 3) := by decide +kernel
theorem d15_20 : decode jdk_52_method_16_code 20 = .ok (.aload_n 0, 1) := by decide +kernel
theorem d15_21 : decode jdk_52_method_16_code 21 = .ok (.iload_n 1, 1) := by decide +kernel
theorem d15_22 : decode jdk_52_method_16_code 22 = .ok (.iload_n 2, 1) := by decide +kernel
theorem d15_23 : decode jdk_52_method_16_code 23 = .ok (.invokestatic 119, 3) := by decide +kernel
theorem d15_26 : decode jdk_52_method_16_code 26 = .ok (.astore 5, 2) := by decide +kernel
theorem d15_28 : decode jdk_52_method_16_code 28 = .ok (.aload 5, 2) := by decide +kernel
theorem d15_30 : decode jdk_52_method_16_code 30 = .ok (.iload 4, 2) := by decide +kernel
theorem d15_32 : decode jdk_52_method_16_code 32 = .ok (.invokestatic 71, 3) := by decide +kernel
theorem d15_35 : decode jdk_52_method_16_code 35 = .ok (.sipush 255, 3) := by decide +kernel
theorem d15_38 : decode jdk_52_method_16_code 38 = .ok (.if_icmp .gt 16, 3) := by decide +kernel
theorem d15_54 : decode jdk_52_method_16_code 54 = .ok (.aload 5, 2) := by decide +kernel
theorem d15_56 : decode jdk_52_method_16_code 56 = .ok (.areturn, 1) := by decide +kernel
theorem d15_57 : decode jdk_52_method_16_code 57 = .ok (.aload_n 3, 1) := by decide +kernel
theorem d15_58 : decode jdk_52_method_16_code 58 = .ok (.areturn, 1) := by decide +kernel


theorem ef_cz1 (m : MethodId) (x0 : Addr) (x1 : Int32) (x2 : Int32)  : entryFrame m #[(.ref x0), (.int x1), (.int x2)] 6 = mkF m 0 #[.val (.ref x0), .val (.int x1), .val (.int x2), .unset, .unset, .unset] [] := by first | (simp [entryFrame, mkF, argsToLocals, Value.category]; done) | rfl
def Qcz1 (Z : State) (a1 : Addr) (kc : ClassId) (c0 : Int32) (h0 : Heap) (n0 : Nat) (v : Option Value) (h : Heap) (L : List Loc) : Prop := ∃ b kb cd N vs, v = some (.ref b) ∧ Fr n0 L ∧ Ext h0 h ∧ Arv Z h b kb .byte N vs (.int 0) ∧ StrChars.Road.CodA [c0] cd N vs
set_option maxRecDepth 65536 in
set_option maxHeartbeats 40000000 in
theorem rmcz1 (l : Launch) (Z : State) (a0 : Array Value) (hw : ∀ d ∈ tables_1, d.before a0 Z = true) (ws : List Jvm.Cond) (a1 : Addr) (kc : ClassId) (c0 : Int32) (h0 : Heap) (n0 : Nat) (Z0 : n0 ≤ h0.size) (Ac : Arv Z h0 a1 kc .char (1 : Int32) ([c0].map Value.int) (.int 0)) (EN : own_env Z h0) (hb0 : own_b c0) :
  own_M l Z own_z16 jdk_52_method_16_code 6 (some (.array .byte)) ({ frames := 3, cells := 2, slots := 3, locals := 45 } : Room) ws #[(.ref a1), (.int (0 : Int32)), (.int (1 : Int32))] h0 (Qcz1 Z a1 kc c0 h0 n0) := by
 refine MetFree.of_bodySF (plainFor_of_name pn_k5) hisR ?_
 intro p e s m args below meth c s₁ Bd hml0 hP hK
 obtain ⟨rfl, hZ, hh⟩ := hP
 have hx := Bd.exec
 have hby := Bd.bytes
 have hml : c.maxLocals = 6 := hml0
 have hown : s.vm.findClass "java/lang/StringUTF16" = some m.cls := findClass_of_methodNamed Bd.named
 have hnm := (name_of_methodNamed Bd.named Bd.method).1
 have X0 : Stand p l e ({ frames := 3, cells := 2, slots := 3, locals := 45 } : Room) s m #[(.ref a1), (.int (0 : Int32)), (.int (1 : Int32))] below meth c s₁ [] 0 0 := Stand.of_body Bd
 have e0 : s₁.heap = h0 := by rw [← hh, Bd.state]; rfl
 have N0 := Fr.nil n0
 have pre0 : ∀ t, Steps p.tables e below (s₁.setTop (mkF m 0 #[.val (.ref a1), .val (.int (0 : Int32)), .val (.int (1 : Int32)), .unset, .unset, .unset] [])) t → Steps p.tables e below (s₁.setTop (entryFrame m #[(.ref a1), (.int (0 : Int32)), (.int (1 : Int32))] 6)) t := fun t k => castTop (ef_cz1 m a1 (0 : Int32) (1 : Int32)) k
 obtain ⟨T1, h1, k1, X1, e1, E1, A1, st1⟩ := newP (aty := .byte) X0 hx hZ (wd21 hw) e0 (g := (mkF m 1 #[.val (.ref a1), .val (.int (0 : Int32)), .val (.int (1 : Int32)), .unset, .unset, .unset] [(.int (1 : Int32))])) rfl (hb hby d15_1) rfl (by decide) (cap := 1) (by decide) (by decide) (by decide) (by decide)
 obtain ⟨b1, gb1⟩ : ∃ z, z = h0.size := ⟨_, rfl⟩
 rw [← gb1] at A1 st1
 have gn1 : n0 ≤ b1 := Nat.le_trans Z0 (Nat.le_of_eq gb1.symm)
 have sz1_b : h0.size ≤ b1 := Nat.le_trans (Keep.refl h0 []).1 (Nat.le_of_eq gb1.symm)
 have ne_a1_b1 : a1 ≠ b1 := Nat.ne_of_lt (Nat.lt_of_lt_of_le Ac.lt (Nat.le_of_eq gb1.symm))
 have Ac_1 := Ac.ext E1
 have EN_1 := EN.ext E1
 have K1 := (Keep.refl h0 []).ext E1
 have V1 : Arv Z h1 b1 k1 .byte (1 : Int32) [(.int (0 : Int32))] (.int (0 : Int32)) := (Arv.new A1 (by decide)).pad (pad_rep [] (.int (0 : Int32)) 1)
 obtain ⟨_, _, ⟨T2, L2, k2, n2⟩, -, X2, ⟨Lc2, hQ2, l2, y2, z2⟩, st2⟩ := Jvm.LawKit.callS X1 hx (y := own_z15) hown (mvT hZ (wd76 hw)) (mvT hZ (wd77 hw)) (mvT hZ (wd74 hw)) (mvT hZ (wd78 hw)) (by decide) (backOf (W := 0) (rmcp1 l Z a0 hw [] a1 b1 kc k1 c0 h1 n0 (Nat.le_trans Z0 E1.1) Ac_1 V1 ne_a1_b1 gn1) hZ (wd78 hw) (wd74 hw) (by decide) (by decide)) (g := (mkF m 9 #[.val (.ref a1), .val (.int (0 : Int32)), .val (.int (1 : Int32)), .val (.ref b1), .unset, .unset] [(.int (1 : Int32)), (.int (0 : Int32)), (.ref b1), (.int (0 : Int32)), (.ref a1)])) rfl (by rw [hml]; rfl) (argsL := [(.ref a1), (.int (0 : Int32)), (.ref b1), (.int (0 : Int32)), (.int (1 : Int32))]) (rest := []) (lenOf pd_cp1 rfl) rfl (by show 2 * 0 + _ ≤ _; exact Nat.le_of_eq rfl) (hb hby d15_9) (fun _ _ => ⟨rfl, e1, (by decide : 1 + 0 ≤ _), (by decide : 1 + 0 ≤ _)⟩)
 dsimp only [Pt.U, Pt.locs, Pt.cells, Pt.slots] at X2 l2 y2 z2 st2 hQ2
 subst l2 y2 z2
 obtain ⟨j2, rfl, N2q, Kp2, hd2⟩ := hQ2
 have N2 := Fr.app N0 N2q
 have Ac_2 := Ac_1.keep Kp2 (ninS ne_a1_b1 nin0)
 have EN_2 := EN_1.keep Kp2 V1.nostat
 have K2 := K1.trans Kp2 (fun x hx => by cases List.mem_singleton.mp hx; exact Or.inr sz1_b)
 have pre3 : ∀ t, Steps p.tables e below (T2.setTop (mkF m 12 #[.val (.ref a1), .val (.int (0 : Int32)), .val (.int (1 : Int32)), .val (.ref b1), .unset, .unset] [(.int j2)])) t → Steps p.tables e below (s₁.setTop (entryFrame m #[(.ref a1), (.int (0 : Int32)), (.int (1 : Int32))] 6)) t := fun t k => pre0 t (by
  show Steps p.tables e below (s₁.setTop (mkF m 0 #[.val (.ref a1), .val (.int (0 : Int32)), .val (.int (1 : Int32)), .unset, .unset, .unset] [])) _
  refine XS.iloadN X0.here hx rfl (hb hby d15_0) rfl ?_
  refine st1 _ ?_
  refine XS.astoreN X1.here hx rfl (hb hby d15_3) rfl rfl (l' := #[.val (.ref a1), .val (.int (0 : Int32)), .val (.int (1 : Int32)), .val (.ref b1), .unset, .unset]) rfl ?_
  refine XS.aloadN X1.here hx rfl (hb hby d15_4) rfl rfl ?_
  refine XS.iloadN X1.here hx rfl (hb hby d15_5) rfl ?_
  refine XS.aloadN X1.here hx rfl (hb hby d15_6) rfl rfl ?_
  refine XS.iconst X1.here hx rfl (hb hby d15_7) ?_
  refine XS.iloadN X1.here hx rfl (hb hby d15_8) rfl ?_
  refine st2 _ ?_
  exact k)
 rcases hd2 with ⟨rfl, hcw⟩ | ⟨rfl, hcl, hvl⟩
 ·obtain ⟨_, _, ⟨T4, L4, k4, n4⟩, -, X4, ⟨Lc4, hQ4, l4, y4, z4⟩, st4⟩ := Jvm.LawKit.callS X2 hx (y := own_z14) hown (mvT hZ (wd88 hw)) (mvT hZ (wd89 hw)) (mvT hZ (wd74 hw)) (mvT hZ (wd90 hw)) (by decide) (backOf (W := 0) (rmtb1 l Z a0 hw [] a1 kc c0 T2.heap n0 (Nat.le_trans (Nat.le_trans Z0 E1.1) Kp2.1) Ac_2 EN_2) hZ (wd90 hw) (wd74 hw) (by decide) (by decide)) (g := (mkF m 23 #[.val (.ref a1), .val (.int (0 : Int32)), .val (.int (1 : Int32)), .val (.ref b1), .val (.int (0 : Int32)), .unset] [(.int (1 : Int32)), (.int (0 : Int32)), (.ref a1)])) rfl (by rw [hml]; rfl) (argsL := [(.ref a1), (.int (0 : Int32)), (.int (1 : Int32))]) (rest := []) (lenOf pd_tb1 rfl) rfl (by show 2 * 0 + _ ≤ _; exact Nat.le_of_eq rfl) (hb hby d15_23) (fun _ _ => ⟨rfl, rfl, (by decide : 1 + 1 ≤ _), (by decide : 1 + 2 ≤ _)⟩)
  dsimp only [Pt.U, Pt.locs, Pt.cells, Pt.slots] at X4 l4 y4 z4 st4 hQ4
  subst l4 y4 z4
  obtain ⟨b4, kb4, rfl, N4q, E4, V4⟩ := hQ4
  have N4 := Fr.app N2 N4q
  have Ac_4 := Ac_2.ext E4
  have EN_4 := EN_2.ext E4
  have K4 := K2.ext E4
  have Vc5 := V4
  obtain ⟨cl5, Ar5, qq5, sz5, nn5, Ha5, Gf5⟩ := Vc5
  have r0_5 : own_rd cl5 ((0 : Int32) <<< ((1 : Int32) &&& 31)) (StrChars.lo8 c0) := own_rdOf sz5 Ha5 ⟨by decide, by decide⟩ (by rw [show (((0 : Int32) <<< ((1 : Int32) &&& 31))).toNatClampNeg = 0 from by decide]; rfl)
  have r1_5 : own_rd cl5 (((0 : Int32) <<< ((1 : Int32) &&& 31)) + (1 : Int32)) (StrChars.hi8 c0) := own_rdOf sz5 Ha5 ⟨by decide, by decide⟩ (by rw [show ((((0 : Int32) <<< ((1 : Int32) &&& 31)) + (1 : Int32))).toNatClampNeg = 1 from by decide]; rfl)
  obtain ⟨_, _, ⟨T6, L6, k6, n6⟩, -, X6, ⟨Lc6, hQ6, l6, y6, z6⟩, st6⟩ := Jvm.LawKit.callS X4 hx (y := own_z10) hown (mvT hZ (wd104 hw)) (mvT hZ (wd105 hw)) (mvT hZ (wd74 hw)) (mvT hZ (wd106 hw)) (by decide) (backOf (W := 0) (rmgc l Z a0 hw [] b4 cl5 (0 : Int32) (StrChars.lo8 c0) (StrChars.hi8 c0) c0 T4.heap n0 (Nat.le_trans (Nat.le_trans (Nat.le_trans Z0 E1.1) Kp2.1) E4.1) EN_4 (own_gcv hb0) Ar5 r0_5 r1_5) hZ (wd106 hw) (wd74 hw) (by decide) (by decide)) (g := (mkF m 32 #[.val (.ref a1), .val (.int (0 : Int32)), .val (.int (1 : Int32)), .val (.ref b1), .val (.int (0 : Int32)), .val (.ref b4)] [(.int (0 : Int32)), (.ref b4)])) rfl (by rw [hml]; rfl) (argsL := [(.ref b4), (.int (0 : Int32))]) (rest := []) (lenOf pd_gc rfl) rfl (by show 2 * 0 + _ ≤ _; exact Nat.le_of_eq rfl) (hb hby d15_32) (fun _ _ => ⟨rfl, rfl, (by decide : 2 + 0 ≤ _), (by decide : 3 + 0 ≤ _)⟩)
  dsimp only [Pt.U, Pt.locs, Pt.cells, Pt.slots] at X6 l6 y6 z6 st6 hQ6
  subst l6 y6 z6
  obtain ⟨rfl, N6q, q6⟩ := hQ6
  have N6 := Fr.app N4 N6q
  have pre7 : ∀ t, Steps p.tables e below (T6.setTop (mkF m 56 #[.val (.ref a1), .val (.int (0 : Int32)), .val (.int (1 : Int32)), .val (.ref b1), .val (.int (0 : Int32)), .val (.ref b4)] [(.ref b4)])) t → Steps p.tables e below (s₁.setTop (entryFrame m #[(.ref a1), (.int (0 : Int32)), (.int (1 : Int32))] 6)) t := fun t k => pre3 t (by
   show Steps p.tables e below (T2.setTop (mkF m 12 #[.val (.ref a1), .val (.int (0 : Int32)), .val (.int (1 : Int32)), .val (.ref b1), .unset, .unset] [(.int (0 : Int32))])) _
   refine XS.istore X2.here hx rfl (hb hby d15_12) rfl (l' := #[.val (.ref a1), .val (.int (0 : Int32)), .val (.int (1 : Int32)), .val (.ref b1), .val (.int (0 : Int32)), .unset]) rfl ?_
   refine XS.iload X2.here hx rfl (hb hby d15_14) rfl ?_
   refine XS.iloadN X2.here hx rfl (hb hby d15_16) rfl ?_
   refine XS.icmpNo X2.here hx rfl (hb hby d15_17) rfl (feq (by decide : ¬ ((0 : Int32) = (1 : Int32)))).1 ?_
   refine XS.aloadN X2.here hx rfl (hb hby d15_20) rfl rfl ?_
   refine XS.iloadN X2.here hx rfl (hb hby d15_21) rfl ?_
   refine XS.iloadN X2.here hx rfl (hb hby d15_22) rfl ?_
   refine st4 _ ?_
   refine XS.astore X4.here hx rfl (hb hby d15_26) rfl rfl (l' := #[.val (.ref a1), .val (.int (0 : Int32)), .val (.int (1 : Int32)), .val (.ref b1), .val (.int (0 : Int32)), .val (.ref b4)]) rfl ?_
   refine XS.aload X4.here hx rfl (hb hby d15_28) rfl rfl ?_
   refine XS.iload X4.here hx rfl (hb hby d15_30) rfl ?_
   refine st6 _ ?_
   refine XS.sipush X6.here hx rfl (hb hby d15_35) ?_
   refine XS.icmpYes X6.here hx rfl (pc0 := 38) (pc' := 54) rfl (hb hby d15_38) rfl (tlt hcw).2.2.1 (by decide) (by decide) ?_
   refine XS.aload X6.here hx rfl (hb hby d15_54) rfl rfl ?_
   exact k)
  obtain ⟨fs8, hr8, hrun8, hended8, hW8, hsame8⟩ := X6.leave (v := some (.ref b4)) (fun h => by rw [Bd.returns] at h; cases h)
  refine ⟨_, _, pre7 _ ?_, hrun8, hended8, _, _, rfl, ?_, ⟨_, rfl⟩, hW8, hsame8.mono (by decide) (by decide)⟩
  ·show Steps p.tables e below (T6.setTop (mkF m 56 #[.val (.ref a1), .val (.int (0 : Int32)), .val (.int (1 : Int32)), .val (.ref b1), .val (.int (0 : Int32)), .val (.ref b4)] [(.ref b4)])) _
   exact retOut X6 hx (t := (.array .byte)) Bd.returns rfl (Or.inr (Or.inr (Or.inr (Or.inr ⟨rfl, rfl, rfl⟩)))) (hb hby d15_56) hr8
  ·show Qcz1 Z a1 kc c0 h0 n0 _ T6.heap _
   rw [q6]
   exact ⟨_, _, 1, _, _, rfl, N6, own_ext K4, V4, Or.inr ⟨rfl, rfl, rfl, ⟨c0, by simp, hcw⟩⟩⟩
 ·have pre9 : ∀ t, Steps p.tables e below (T2.setTop (mkF m 58 #[.val (.ref a1), .val (.int (0 : Int32)), .val (.int (1 : Int32)), .val (.ref b1), .val (.int (1 : Int32)), .unset] [(.ref b1)])) t → Steps p.tables e below (s₁.setTop (entryFrame m #[(.ref a1), (.int (0 : Int32)), (.int (1 : Int32))] 6)) t := fun t k => pre3 t (by
   show Steps p.tables e below (T2.setTop (mkF m 12 #[.val (.ref a1), .val (.int (0 : Int32)), .val (.int (1 : Int32)), .val (.ref b1), .unset, .unset] [(.int (1 : Int32))])) _
   refine XS.istore X2.here hx rfl (hb hby d15_12) rfl (l' := #[.val (.ref a1), .val (.int (0 : Int32)), .val (.int (1 : Int32)), .val (.ref b1), .val (.int (1 : Int32)), .unset]) rfl ?_
   refine XS.iload X2.here hx rfl (hb hby d15_14) rfl ?_
   refine XS.iloadN X2.here hx rfl (hb hby d15_16) rfl ?_
   refine XS.icmpYes X2.here hx rfl (pc0 := 17) (pc' := 57) rfl (hb hby d15_17) rfl (teq (by decide : (1 : Int32) = (1 : Int32))).1 (by decide) (by decide) ?_
   refine XS.aloadN X2.here hx rfl (hb hby d15_57) rfl rfl ?_
   exact k)
  obtain ⟨fs10, hr10, hrun10, hended10, hW10, hsame10⟩ := X2.leave (v := some (.ref b1)) (fun h => by rw [Bd.returns] at h; cases h)
  refine ⟨_, _, pre9 _ ?_, hrun10, hended10, _, _, rfl, ?_, ⟨_, rfl⟩, hW10, hsame10.mono (by decide) (by decide)⟩
  ·show Steps p.tables e below (T2.setTop (mkF m 58 #[.val (.ref a1), .val (.int (0 : Int32)), .val (.int (1 : Int32)), .val (.ref b1), .val (.int (1 : Int32)), .unset] [(.ref b1)])) _
   exact retOut X2 hx (t := (.array .byte)) Bd.returns rfl (Or.inr (Or.inr (Or.inr (Or.inr ⟨rfl, rfl, rfl⟩)))) (hb hby d15_58) hr10
  ·show Qcz1 Z a1 kc c0 h0 n0 _ T2.heap _
   exact ⟨_, _, 0, _, _, rfl, N2, own_ext K2, hvl, Or.inl ⟨rfl, rfl, rfl, List.forall_mem_cons.mpr ⟨hcl, fun _ q => nomatch q⟩⟩⟩

theorem d17_0 : decode jdk_52_method_15_code 0 = .ok (.iload_n 1, 1) := by decide +kernel
theorem d17_1 : decode jdk_52_method_15_code 1 = .ok (.aload_n 0, 1) := by decide +kernel
theorem d17_2 : decode jdk_52_method_15_code 2 = .ok (.arraylength, 1) := by decide +kernel
theorem d17_3 : decode jdk_52_method_15_code 3 = .ok (.isub, 1) := by decide +kernel
theorem d17_4 : decode jdk_52_method_15_code 4 = .ok (.bipush 31, 2) := by decide +kernel
theorem d17_6 : decode jdk_52_method_15_code 6 = .ok (.iushr, 1) := by decide +kernel
theorem d17_7 : decode jdk_52_method_15_code 7 = .ok (.i2b, 1) := by decide +kernel
theorem d17_8 : decode jdk_52_method_15_code 8 = .ok (.ireturn, 1) := by decide +kernel

theorem pd_ca1_1 : parseMethodDescriptor "([BI)B" = some ⟨[(.array .byte), .int], some .byte⟩ := by decide +kernel

def Qca1_1 (Z : State) (a1 : Addr) (k1 : ClassId) (vs : List Value) (h0 : Heap) (n0 : Nat) (v : Option Value) (h : Heap) (L : List Loc) : Prop := v = some (.int (1 : Int32)) ∧ Fr n0 L ∧ h = h0
set_option maxRecDepth 65536 in
set_option maxHeartbeats 40000000 in
theorem rmca1_1 (l : Launch) (Z : State) (a0 : Array Value) (hw : ∀ d ∈ tables_1, d.before a0 Z = true) (ws : List Jvm.Cond) (a1 : Addr) (k1 : ClassId) (vs : List Value) (h0 : Heap) (n0 : Nat) (Z0 : n0 ≤ h0.size) (As : Arv Z h0 a1 k1 .byte (2 : Int32) vs (.int 0)) :
  own_M l Z own_z17 jdk_52_method_15_code 2 (some .byte) ({ frames := 0, cells := 0, slots := 0, locals := 0 } : Room) ws #[(.ref a1), (.int (1 : Int32))] h0 (Qca1_1 Z a1 k1 vs h0 n0) := by
 refine MetFree.of_bodySF (plainFor_of_name pn_k5) hisR ?_
 intro p e s m args below meth c s₁ Bd hml0 hP hK
 obtain ⟨rfl, hZ, hh⟩ := hP
 have hx := Bd.exec
 have hby := Bd.bytes
 have hml : c.maxLocals = 2 := hml0
 have hown : s.vm.findClass "java/lang/StringUTF16" = some m.cls := findClass_of_methodNamed Bd.named
 have hnm := (name_of_methodNamed Bd.named Bd.method).1
 have X0 : Stand p l e ({ frames := 0, cells := 0, slots := 0, locals := 0 } : Room) s m #[(.ref a1), (.int (1 : Int32))] below meth c s₁ [] 0 0 := Stand.of_body Bd
 have e0 : s₁.heap = h0 := by rw [← hh, Bd.state]; rfl
 have N0 := Fr.nil n0
 have pre0 : ∀ t, Steps p.tables e below (s₁.setTop (mkF m 0 #[.val (.ref a1), .val (.int (1 : Int32))] [])) t → Steps p.tables e below (s₁.setTop (entryFrame m #[(.ref a1), (.int (1 : Int32))] 2)) t := fun t k => castTop (ef_gc m a1 (1 : Int32)) k
 have Vc1 := As
 obtain ⟨cl1, Ar1, qq1, sz1, nn1, Ha1, Gf1⟩ := Vc1
 have pre2 : ∀ t, Steps p.tables e below (s₁.setTop (mkF m 8 #[.val (.ref a1), .val (.int (1 : Int32))] [(.int (1 : Int32))])) t → Steps p.tables e below (s₁.setTop (entryFrame m #[(.ref a1), (.int (1 : Int32))] 2)) t := fun t k => pre0 t (by
  show Steps p.tables e below (s₁.setTop (mkF m 0 #[.val (.ref a1), .val (.int (1 : Int32))] [])) _
  refine XS.iloadN X0.here hx rfl (hb hby d17_0) rfl ?_
  refine XS.aloadN X0.here hx rfl (hb hby d17_1) rfl rfl ?_
  refine X0.arraylength hx (by rw [e0]; exact Ar1.1) (State.isArrayOf_alike hZ.alike Ar1.2.1) (g := (mkF m 2 #[.val (.ref a1), .val (.int (1 : Int32))] [(.ref a1), (.int (1 : Int32))])) rfl rfl (hb hby d17_2) _ ?_
  rw [len_of sz1 nn1]
  refine XS.isub X0.here hx rfl (hb hby d17_3) rfl ?_
  show Steps p.tables e below (s₁.setTop (mkF m 4 #[.val (.ref a1), .val (.int (1 : Int32))] [(.int ((1 : Int32) - (2 : Int32)))])) _
  rw [show ((1 : Int32) - (2 : Int32)) = (-1 : Int32) from by decide]
  refine XS.bipush X0.here hx rfl (hb hby d17_4) ?_
  refine XS.iushr X0.here hx rfl (hb hby d17_6) rfl ?_
  show Steps p.tables e below (s₁.setTop (mkF m 7 #[.val (.ref a1), .val (.int (1 : Int32))] [(.int (((-1 : Int32).toUInt32 >>> ((31 : Int32) &&& 31).toUInt32).toInt32))])) _
  rw [show (((-1 : Int32).toUInt32 >>> ((31 : Int32) &&& 31).toUInt32).toInt32) = (1 : Int32) from by decide]
  refine XS.i2b X0.here hx rfl (hb hby d17_7) rfl ?_
  show Steps p.tables e below (s₁.setTop (mkF m 8 #[.val (.ref a1), .val (.int (1 : Int32))] [(.int ((1 : Int32).toInt8.toInt32))])) _
  rw [show ((1 : Int32).toInt8.toInt32) = (1 : Int32) from by decide]
  exact k)
 obtain ⟨fs3, hr3, hrun3, hended3, hW3, hsame3⟩ := X0.leave (v := some (.int (1 : Int32))) (fun h => by rw [Bd.returns] at h; cases h)
 refine ⟨_, _, pre2 _ ?_, hrun3, hended3, _, _, rfl, ?_, ⟨_, rfl⟩, hW3, hsame3.mono (by decide) (by decide)⟩
 ·show Steps p.tables e below (s₁.setTop (mkF m 8 #[.val (.ref a1), .val (.int (1 : Int32))] [(.int (1 : Int32))])) _
  exact retN X0 hx (t := .byte) Bd.returns (by simp) (hb hby d17_8) hr3
 ·show Qca1_1 Z a1 k1 vs h0 n0 _ s₁.heap _
  rw [e0]
  exact ⟨rfl, N0, rfl⟩


def Qca1_0 (Z : State) (a1 : Addr) (k1 : ClassId) (vs : List Value) (h0 : Heap) (n0 : Nat) (v : Option Value) (h : Heap) (L : List Loc) : Prop := v = some (.int (0 : Int32)) ∧ Fr n0 L ∧ h = h0
set_option maxRecDepth 65536 in
set_option maxHeartbeats 40000000 in
theorem rmca1_0 (l : Launch) (Z : State) (a0 : Array Value) (hw : ∀ d ∈ tables_1, d.before a0 Z = true) (ws : List Jvm.Cond) (a1 : Addr) (k1 : ClassId) (vs : List Value) (h0 : Heap) (n0 : Nat) (Z0 : n0 ≤ h0.size) (As : Arv Z h0 a1 k1 .byte (1 : Int32) vs (.int 0)) :
  own_M l Z own_z17 jdk_52_method_15_code 2 (some .byte) ({ frames := 0, cells := 0, slots := 0, locals := 0 } : Room) ws #[(.ref a1), (.int (1 : Int32))] h0 (Qca1_0 Z a1 k1 vs h0 n0) := by
 refine MetFree.of_bodySF (plainFor_of_name pn_k5) hisR ?_
 intro p e s m args below meth c s₁ Bd hml0 hP hK
 obtain ⟨rfl, hZ, hh⟩ := hP
 have hx := Bd.exec
 have hby := Bd.bytes
 have hml : c.maxLocals = 2 := hml0
 have hown : s.vm.findClass "java/lang/StringUTF16" = some m.cls := findClass_of_methodNamed Bd.named
 have hnm := (name_of_methodNamed Bd.named Bd.method).1
 have X0 : Stand p l e ({ frames := 0, cells := 0, slots := 0, locals := 0 } : Room) s m #[(.ref a1), (.int (1 : Int32))] below meth c s₁ [] 0 0 := Stand.of_body Bd
 have e0 : s₁.heap = h0 := by rw [← hh, Bd.state]; rfl
 have N0 := Fr.nil n0
 have pre0 : ∀ t, Steps p.tables e below (s₁.setTop (mkF m 0 #[.val (.ref a1), .val (.int (1 : Int32))] [])) t → Steps p.tables e below (s₁.setTop (entryFrame m #[(.ref a1), (.int (1 : Int32))] 2)) t := fun t k => castTop (ef_gc m a1 (1 : Int32)) k
 have Vc1 := As
 obtain ⟨cl1, Ar1, qq1, sz1, nn1, Ha1, Gf1⟩ := Vc1
 have pre2 : ∀ t, Steps p.tables e below (s₁.setTop (mkF m 8 #[.val (.ref a1), .val (.int (1 : Int32))] [(.int (0 : Int32))])) t → Steps p.tables e below (s₁.setTop (entryFrame m #[(.ref a1), (.int (1 : Int32))] 2)) t := fun t k => pre0 t (by
  show Steps p.tables e below (s₁.setTop (mkF m 0 #[.val (.ref a1), .val (.int (1 : Int32))] [])) _
  refine XS.iloadN X0.here hx rfl (hb hby d17_0) rfl ?_
  refine XS.aloadN X0.here hx rfl (hb hby d17_1) rfl rfl ?_
  refine X0.arraylength hx (by rw [e0]; exact Ar1.1) (State.isArrayOf_alike hZ.alike Ar1.2.1) (g := (mkF m 2 #[.val (.ref a1), .val (.int (1 : Int32))] [(.ref a1), (.int (1 : Int32))])) rfl rfl (hb hby d17_2) _ ?_
  rw [len_of sz1 nn1]
  refine XS.isub X0.here hx rfl (hb hby d17_3) rfl ?_
  show Steps p.tables e below (s₁.setTop (mkF m 4 #[.val (.ref a1), .val (.int (1 : Int32))] [(.int ((1 : Int32) - (1 : Int32)))])) _
  rw [show ((1 : Int32) - (1 : Int32)) = (0 : Int32) from by decide]
  refine XS.bipush X0.here hx rfl (hb hby d17_4) ?_
  refine XS.iushr X0.here hx rfl (hb hby d17_6) rfl ?_
  show Steps p.tables e below (s₁.setTop (mkF m 7 #[.val (.ref a1), .val (.int (1 : Int32))] [(.int (((0 : Int32).toUInt32 >>> ((31 : Int32) &&& 31).toUInt32).toInt32))])) _
  rw [show (((0 : Int32).toUInt32 >>> ((31 : Int32) &&& 31).toUInt32).toInt32) = (0 : Int32) from by decide]
  refine XS.i2b X0.here hx rfl (hb hby d17_7) rfl ?_
  show Steps p.tables e below (s₁.setTop (mkF m 8 #[.val (.ref a1), .val (.int (1 : Int32))] [(.int ((0 : Int32).toInt8.toInt32))])) _
  rw [show ((0 : Int32).toInt8.toInt32) = (0 : Int32) from by decide]
  exact k)
 obtain ⟨fs3, hr3, hrun3, hended3, hW3, hsame3⟩ := X0.leave (v := some (.int (0 : Int32))) (fun h => by rw [Bd.returns] at h; cases h)
 refine ⟨_, _, pre2 _ ?_, hrun3, hended3, _, _, rfl, ?_, ⟨_, rfl⟩, hW3, hsame3.mono (by decide) (by decide)⟩
 ·show Steps p.tables e below (s₁.setTop (mkF m 8 #[.val (.ref a1), .val (.int (1 : Int32))] [(.int (0 : Int32))])) _
  exact retN X0 hx (t := .byte) Bd.returns (by simp) (hb hby d17_8) hr3
 ·show Qca1_0 Z a1 k1 vs h0 n0 _ s₁.heap _
  rw [e0]
  exact ⟨rfl, N0, rfl⟩


def Qtb2 (Z : State) (a1 : Addr) (kc : ClassId) (c0 c1 : Int32) (h0 : Heap) (n0 : Nat) (v : Option Value) (h : Heap) (L : List Loc) : Prop := ∃ b kb, v = some (.ref b) ∧ Fr n0 L ∧ Ext h0 h ∧ Arv Z h b kb .byte (4 : Int32) (StrChars.Road.wideBytes [c0, c1]) (.int 0)
set_option maxRecDepth 65536 in
set_option maxHeartbeats 40000000 in
theorem rmtb2 (l : Launch) (Z : State) (a0 : Array Value) (hw : ∀ d ∈ tables_1, d.before a0 Z = true) (ws : List Jvm.Cond) (a1 : Addr) (kc : ClassId) (c0 c1 : Int32) (h0 : Heap) (n0 : Nat) (Z0 : n0 ≤ h0.size) (Ac : Arv Z h0 a1 kc .char (2 : Int32) ([c0, c1].map Value.int) (.int 0)) (EN : own_env Z h0) :
  own_M l Z own_z14 jdk_52_method_14_code 5 (some (.array .byte)) ({ frames := 2, cells := 1, slots := 4, locals := 24 } : Room) ws #[(.ref a1), (.int (0 : Int32)), (.int (2 : Int32))] h0 (Qtb2 Z a1 kc c0 c1 h0 n0) := by
 refine MetFree.of_bodySF (plainFor_of_name pn_k5) hisR ?_
 intro p e s m args below meth c s₁ Bd hml0 hP hK
 obtain ⟨rfl, hZ, hh⟩ := hP
 have hx := Bd.exec
 have hby := Bd.bytes
 have hml : c.maxLocals = 5 := hml0
 have hown : s.vm.findClass "java/lang/StringUTF16" = some m.cls := findClass_of_methodNamed Bd.named
 have hnm := (name_of_methodNamed Bd.named Bd.method).1
 have X0 : Stand p l e ({ frames := 2, cells := 1, slots := 4, locals := 24 } : Room) s m #[(.ref a1), (.int (0 : Int32)), (.int (2 : Int32))] below meth c s₁ [] 0 0 := Stand.of_body Bd
 have e0 : s₁.heap = h0 := by rw [← hh, Bd.state]; rfl
 have N0 := Fr.nil n0
 have pre0 : ∀ t, Steps p.tables e below (s₁.setTop (mkF m 0 #[.val (.ref a1), .val (.int (0 : Int32)), .val (.int (2 : Int32)), .unset, .unset] [])) t → Steps p.tables e below (s₁.setTop (entryFrame m #[(.ref a1), (.int (0 : Int32)), (.int (2 : Int32))] 5)) t := fun t k => castTop (ef_tb1 m a1 (0 : Int32) (2 : Int32)) k
 obtain ⟨_, _, ⟨T1, L1, k1, n1⟩, -, X1, ⟨Lc1, hQ1, l1, y1, z1⟩, st1⟩ := Jvm.LawKit.callS X0 hx (y := own_z13) hown (mvT hZ (wd91 hw)) (mvT hZ (wd92 hw)) (mvT hZ (wd74 hw)) (mvT hZ (wd93 hw)) (by decide) (backOf (W := 0) (rmbf2 l Z a0 hw [] h0 n0 Z0) hZ (wd93 hw) (wd74 hw) (by decide) (by decide)) (g := (mkF m 1 #[.val (.ref a1), .val (.int (0 : Int32)), .val (.int (2 : Int32)), .unset, .unset] [(.int (2 : Int32))])) rfl (by rw [hml]; rfl) (argsL := [(.int (2 : Int32))]) (rest := []) (lenOf pd_bf1 rfl) rfl (by show 2 * 0 + _ ≤ _; exact Nat.le_of_eq rfl) (hb hby d20_1) (fun _ _ => ⟨rfl, e0, (by decide : 0 + 1 ≤ _), (by decide : 0 + 4 ≤ _)⟩)
 dsimp only [Pt.U, Pt.locs, Pt.cells, Pt.slots] at X1 l1 y1 z1 st1 hQ1
 subst l1 y1 z1
 obtain ⟨b1, kb1, rfl, N1q, E1, gz1, V1⟩ := hQ1
 have N1 := Fr.app N0 N1q
 have Ac_1 := Ac.ext E1
 have EN_1 := EN.ext E1
 have K1 := (Keep.refl h0 []).ext E1
 have nab : a1 ≠ b1 := Nat.ne_of_lt (Nat.lt_of_lt_of_le Ac.lt gz1)
 have Vc2 := Ac_1
 obtain ⟨cl2, Ar2, qq2, sz2, nn2, Ha2, Gf2⟩ := Vc2
 have hin2 : ¬ ((0 : Int32) < 0 ∨ cl2.slots.size ≤ ((0 : Int32)).toNatClampNeg) := inb_of sz2 ⟨by decide, by decide⟩
 obtain ⟨_, _, ⟨T3, L3, k3, n3⟩, -, X3, ⟨Lc3, hQ3, l3, y3, z3⟩, st3⟩ := Jvm.LawKit.callS X1 hx (y := own_z11) hown (mvT hZ (wd98 hw)) (mvT hZ (wd99 hw)) (mvT hZ (wd74 hw)) (mvT hZ (wd100 hw)) (by decide) (backOf (W := 0) (rmpc l Z a0 hw [] b1 kb1 (4 : Int32) [.int 0, .int 0, .int 0, .int 0] 0 (0 : Int32) c0 T1.heap n0 (Nat.le_trans Z0 E1.1) EN_1 V1 (Nat.le_trans Z0 gz1) ⟨by decide, by decide⟩ ⟨by decide, by decide⟩ (by decide) (by decide) (Nat.le_of_ble_eq_true rfl) (Nat.le_of_ble_eq_true rfl)) hZ (wd100 hw) (wd74 hw) (by decide) (by decide)) (g := (mkF m 20 #[.val (.ref a1), .val (.int (0 : Int32)), .val (.int (2 : Int32)), .val (.ref b1), .val (.int (0 : Int32))] [(.int c0), (.int (0 : Int32)), (.ref b1)])) rfl (by rw [hml]; rfl) (argsL := [(.ref b1), (.int (0 : Int32)), (.int c0)]) (rest := []) (lenOf pd_pc rfl) rfl (by show 2 * 0 + _ ≤ _; exact Nat.le_of_eq rfl) (hb hby d20_20) (fun _ _ => ⟨rfl, rfl, (by decide : 1 + 0 ≤ _), (by decide : 4 + 0 ≤ _)⟩)
 dsimp only [Pt.U, Pt.locs, Pt.cells, Pt.slots] at X3 l3 y3 z3 st3 hQ3
 subst l3 y3 z3
 obtain ⟨rfl, N3q, Kp3, Vn3⟩ := hQ3
 have N3 := Fr.app N1 N3q
 have Ac_3 := Ac_1.keep Kp3 (ninS nab nin0)
 have EN_3 := EN_1.keep Kp3 V1.nostat
 have K3 := K1.trans Kp3 (fun x hx => by cases List.mem_singleton.mp hx; exact Or.inr gz1)
 have Vx3 : Arv Z T3.heap b1 kb1 .byte (4 : Int32) [.int (StrChars.lo8 c0), .int (StrChars.hi8 c0), .int 0, .int 0] (.int 0) := Vn3
 have Vc4 := Ac_3
 obtain ⟨cl4, Ar4, qq4, sz4, nn4, Ha4, Gf4⟩ := Vc4
 have hin4 : ¬ ((1 : Int32) < 0 ∨ cl4.slots.size ≤ ((1 : Int32)).toNatClampNeg) := inb_of sz4 ⟨by decide, by decide⟩
 obtain ⟨_, _, ⟨T5, L5, k5, n5⟩, -, X5, ⟨Lc5, hQ5, l5, y5, z5⟩, st5⟩ := Jvm.LawKit.callS X3 hx (y := own_z11) hown (mvT hZ (wd98 hw)) (mvT hZ (wd99 hw)) (mvT hZ (wd74 hw)) (mvT hZ (wd100 hw)) (by decide) (backOf (W := 0) (rmpc l Z a0 hw [] b1 kb1 (4 : Int32) [.int (StrChars.lo8 c0), .int (StrChars.hi8 c0), .int 0, .int 0] 2 (1 : Int32) c1 T3.heap n0 (Nat.le_trans (Nat.le_trans Z0 E1.1) Kp3.1) EN_3 Vx3 (Nat.le_trans Z0 gz1) ⟨by decide, by decide⟩ ⟨by decide, by decide⟩ (by decide) (by decide) (Nat.le_of_ble_eq_true rfl) (Nat.le_of_ble_eq_true rfl)) hZ (wd100 hw) (wd74 hw) (by decide) (by decide)) (g := (mkF m 20 #[.val (.ref a1), .val (.int (1 : Int32)), .val (.int (2 : Int32)), .val (.ref b1), .val (.int (1 : Int32))] [(.int c1), (.int (1 : Int32)), (.ref b1)])) rfl (by rw [hml]; rfl) (argsL := [(.ref b1), (.int (1 : Int32)), (.int c1)]) (rest := []) (lenOf pd_pc rfl) rfl (by show 2 * 0 + _ ≤ _; exact Nat.le_of_eq rfl) (hb hby d20_20) (fun _ _ => ⟨rfl, rfl, (by decide : 1 + 0 ≤ _), (by decide : 4 + 0 ≤ _)⟩)
 dsimp only [Pt.U, Pt.locs, Pt.cells, Pt.slots] at X5 l5 y5 z5 st5 hQ5
 subst l5 y5 z5
 obtain ⟨rfl, N5q, Kp5, Vn5⟩ := hQ5
 have N5 := Fr.app N3 N5q
 have Ac_5 := Ac_3.keep Kp5 (ninS nab nin0)
 have EN_5 := EN_3.keep Kp5 Vx3.nostat
 have K5 := K3.trans Kp5 (fun x hx => by cases List.mem_singleton.mp hx; exact Or.inr gz1)
 have Vx5 : Arv Z T5.heap b1 kb1 .byte (4 : Int32) [.int (StrChars.lo8 c0), .int (StrChars.hi8 c0), .int (StrChars.lo8 c1), .int (StrChars.hi8 c1)] (.int 0) := Vn5
 have pre6 : ∀ t, Steps p.tables e below (T5.setTop (mkF m 33 #[.val (.ref a1), .val (.int (2 : Int32)), .val (.int (2 : Int32)), .val (.ref b1), .val (.int (2 : Int32))] [(.ref b1)])) t → Steps p.tables e below (s₁.setTop (entryFrame m #[(.ref a1), (.int (0 : Int32)), (.int (2 : Int32))] 5)) t := fun t k => pre0 t (by
  show Steps p.tables e below (s₁.setTop (mkF m 0 #[.val (.ref a1), .val (.int (0 : Int32)), .val (.int (2 : Int32)), .unset, .unset] [])) _
  refine XS.iloadN X0.here hx rfl (hb hby d20_0) rfl ?_
  refine st1 _ ?_
  refine XS.astoreN X1.here hx rfl (hb hby d20_4) rfl rfl (l' := #[.val (.ref a1), .val (.int (0 : Int32)), .val (.int (2 : Int32)), .val (.ref b1), .unset]) rfl ?_
  refine XS.iconst X1.here hx rfl (hb hby d20_5) ?_
  refine XS.istore X1.here hx rfl (hb hby d20_6) rfl (l' := #[.val (.ref a1), .val (.int (0 : Int32)), .val (.int (2 : Int32)), .val (.ref b1), .val (.int (0 : Int32))]) rfl ?_
  refine XS.iload X1.here hx rfl (hb hby d20_8) rfl ?_
  refine XS.iloadN X1.here hx rfl (hb hby d20_10) rfl ?_
  refine XS.icmpNo X1.here hx rfl (hb hby d20_11) rfl (tlt (by decide : (0 : Int32) < (2 : Int32))).2.1 ?_
  refine XS.aloadN X1.here hx rfl (hb hby d20_14) rfl rfl ?_
  refine XS.iload X1.here hx rfl (hb hby d20_15) rfl ?_
  refine XS.aloadN X1.here hx rfl (hb hby d20_17) rfl rfl ?_
  refine XS.iloadN X1.here hx rfl (hb hby d20_18) rfl ?_
  refine X1.caload hx (j := (0 : Int32)) (v := (.int c0)) Ar2.1 (State.isArrayOf_alike hZ.alike Ar2.2.1) Ar2.2.2 hin2 (Has.at Ha2 hin2 rfl) (g := (mkF m 19 #[.val (.ref a1), .val (.int (0 : Int32)), .val (.int (2 : Int32)), .val (.ref b1), .val (.int (0 : Int32))] [(.int (0 : Int32)), (.ref a1), (.int (0 : Int32)), (.ref b1)])) rfl rfl (hb hby d20_19) _ ?_
  refine st3 _ ?_
  refine XS.iinc X3.here hx rfl (hb hby d20_23) rfl (l' := #[.val (.ref a1), .val (.int ((0 : Int32) + (1 : Int32))), .val (.int (2 : Int32)), .val (.ref b1), .val (.int (0 : Int32))]) rfl ?_
  show Steps p.tables e below (T3.setTop (mkF m 26 #[.val (.ref a1), .val (.int ((0 : Int32) + (1 : Int32))), .val (.int (2 : Int32)), .val (.ref b1), .val (.int (0 : Int32))] [])) _
  rw [show ((0 : Int32) + (1 : Int32)) = (1 : Int32) from by decide]
  refine XS.iinc X3.here hx rfl (hb hby d20_26) rfl (l' := #[.val (.ref a1), .val (.int (1 : Int32)), .val (.int (2 : Int32)), .val (.ref b1), .val (.int ((0 : Int32) + (1 : Int32)))]) rfl ?_
  show Steps p.tables e below (T3.setTop (mkF m 29 #[.val (.ref a1), .val (.int (1 : Int32)), .val (.int (2 : Int32)), .val (.ref b1), .val (.int ((0 : Int32) + (1 : Int32)))] [])) _
  rw [show ((0 : Int32) + (1 : Int32)) = (1 : Int32) from by decide]
  refine XS.goto X3.here hx rfl (pc0 := 29) (pc' := 8) rfl (hb hby d20_29) (by decide) (by decide) ?_
  refine XS.iload X3.here hx rfl (hb hby d20_8) rfl ?_
  refine XS.iloadN X3.here hx rfl (hb hby d20_10) rfl ?_
  refine XS.icmpNo X3.here hx rfl (hb hby d20_11) rfl (tlt (by decide : (1 : Int32) < (2 : Int32))).2.1 ?_
  refine XS.aloadN X3.here hx rfl (hb hby d20_14) rfl rfl ?_
  refine XS.iload X3.here hx rfl (hb hby d20_15) rfl ?_
  refine XS.aloadN X3.here hx rfl (hb hby d20_17) rfl rfl ?_
  refine XS.iloadN X3.here hx rfl (hb hby d20_18) rfl ?_
  refine X3.caload hx (j := (1 : Int32)) (v := (.int c1)) Ar4.1 (State.isArrayOf_alike hZ.alike Ar4.2.1) Ar4.2.2 hin4 (Has.at Ha4 hin4 rfl) (g := (mkF m 19 #[.val (.ref a1), .val (.int (1 : Int32)), .val (.int (2 : Int32)), .val (.ref b1), .val (.int (1 : Int32))] [(.int (1 : Int32)), (.ref a1), (.int (1 : Int32)), (.ref b1)])) rfl rfl (hb hby d20_19) _ ?_
  refine st5 _ ?_
  refine XS.iinc X5.here hx rfl (hb hby d20_23) rfl (l' := #[.val (.ref a1), .val (.int ((1 : Int32) + (1 : Int32))), .val (.int (2 : Int32)), .val (.ref b1), .val (.int (1 : Int32))]) rfl ?_
  show Steps p.tables e below (T5.setTop (mkF m 26 #[.val (.ref a1), .val (.int ((1 : Int32) + (1 : Int32))), .val (.int (2 : Int32)), .val (.ref b1), .val (.int (1 : Int32))] [])) _
  rw [show ((1 : Int32) + (1 : Int32)) = (2 : Int32) from by decide]
  refine XS.iinc X5.here hx rfl (hb hby d20_26) rfl (l' := #[.val (.ref a1), .val (.int (2 : Int32)), .val (.int (2 : Int32)), .val (.ref b1), .val (.int ((1 : Int32) + (1 : Int32)))]) rfl ?_
  show Steps p.tables e below (T5.setTop (mkF m 29 #[.val (.ref a1), .val (.int (2 : Int32)), .val (.int (2 : Int32)), .val (.ref b1), .val (.int ((1 : Int32) + (1 : Int32)))] [])) _
  rw [show ((1 : Int32) + (1 : Int32)) = (2 : Int32) from by decide]
  refine XS.goto X5.here hx rfl (pc0 := 29) (pc' := 8) rfl (hb hby d20_29) (by decide) (by decide) ?_
  refine XS.iload X5.here hx rfl (hb hby d20_8) rfl ?_
  refine XS.iloadN X5.here hx rfl (hb hby d20_10) rfl ?_
  refine XS.icmpYes X5.here hx rfl (pc0 := 11) (pc' := 32) rfl (hb hby d20_11) rfl (flt (by decide : ¬ ((2 : Int32) < (2 : Int32)))).2.1 (by decide) (by decide) ?_
  refine XS.aloadN X5.here hx rfl (hb hby d20_32) rfl rfl ?_
  exact k)
 obtain ⟨fs7, hr7, hrun7, hended7, hW7, hsame7⟩ := X5.leave (v := some (.ref b1)) (fun h => by rw [Bd.returns] at h; cases h)
 refine ⟨_, _, pre6 _ ?_, hrun7, hended7, _, _, rfl, ?_, ⟨_, rfl⟩, hW7, hsame7.mono (by decide) (by decide)⟩
 ·show Steps p.tables e below (T5.setTop (mkF m 33 #[.val (.ref a1), .val (.int (2 : Int32)), .val (.int (2 : Int32)), .val (.ref b1), .val (.int (2 : Int32))] [(.ref b1)])) _
  exact retOut X5 hx (t := (.array .byte)) Bd.returns rfl (Or.inr (Or.inr (Or.inr (Or.inr ⟨rfl, rfl, rfl⟩)))) (hb hby d20_33) hr7
 ·show Qtb2 Z a1 kc c0 c1 h0 n0 _ T5.heap _
  exact ⟨_, _, rfl, N5, own_ext K5, Vx5⟩


def Qcp2 (Z : State) (a1 a2 : Addr) (kc kd : ClassId) (c0 c1 : Int32) (h0 : Heap) (n0 : Nat) (v : Option Value) (h : Heap) (L : List Loc) : Prop := ∃ j : Int32, v = some (.int j) ∧ Fr n0 L ∧ Keep h0 h [a2] ∧ ((j = (0 : Int32) ∧ (255 : Int32) < c0) ∨ (j = (1 : Int32) ∧ (255 : Int32) < c1) ∨ (j = (2 : Int32) ∧ (¬ (255 : Int32) < c0 ∧ ¬ (255 : Int32) < c1) ∧ Arv Z h a2 kd .byte (2 : Int32) ([c0, c1].map fun c => Value.int (StrChars.lo8 c)) (.int 0)))
set_option maxRecDepth 65536 in
set_option maxHeartbeats 40000000 in
theorem rmcp2 (l : Launch) (Z : State) (a0 : Array Value) (hw : ∀ d ∈ tables_1, d.before a0 Z = true) (ws : List Jvm.Cond) (a1 a2 : Addr) (kc kd : ClassId) (c0 c1 : Int32) (h0 : Heap) (n0 : Nat) (Z0 : n0 ≤ h0.size) (Ac : Arv Z h0 a1 kc .char (2 : Int32) ([c0, c1].map Value.int) (.int 0)) (Vd : Arv Z h0 a2 kd .byte (2 : Int32) [.int 0, .int 0] (.int 0)) (hne : a1 ≠ a2) (gd : n0 ≤ a2) :
  own_M l Z own_z15 jdk_52_method_21_code 7 (some .int) ({ frames := 0, cells := 0, slots := 0, locals := 0 } : Room) ws #[(.ref a1), (.int (0 : Int32)), (.ref a2), (.int (0 : Int32)), (.int (2 : Int32))] h0 (Qcp2 Z a1 a2 kc kd c0 c1 h0 n0) := by
 refine MetFree.of_bodySF (plainFor_of_name pn_k5) hisR ?_
 intro p e s m args below meth c s₁ Bd hml0 hP hK
 obtain ⟨rfl, hZ, hh⟩ := hP
 have hx := Bd.exec
 have hby := Bd.bytes
 have hml : c.maxLocals = 7 := hml0
 have hown : s.vm.findClass "java/lang/StringUTF16" = some m.cls := findClass_of_methodNamed Bd.named
 have hnm := (name_of_methodNamed Bd.named Bd.method).1
 have X0 : Stand p l e ({ frames := 0, cells := 0, slots := 0, locals := 0 } : Room) s m #[(.ref a1), (.int (0 : Int32)), (.ref a2), (.int (0 : Int32)), (.int (2 : Int32))] below meth c s₁ [] 0 0 := Stand.of_body Bd
 have e0 : s₁.heap = h0 := by rw [← hh, Bd.state]; rfl
 have N0 := Fr.nil n0
 have pre0 : ∀ t, Steps p.tables e below (s₁.setTop (mkF m 0 #[.val (.ref a1), .val (.int (0 : Int32)), .val (.ref a2), .val (.int (0 : Int32)), .val (.int (2 : Int32)), .unset, .unset] [])) t → Steps p.tables e below (s₁.setTop (entryFrame m #[(.ref a1), (.int (0 : Int32)), (.ref a2), (.int (0 : Int32)), (.int (2 : Int32))] 7)) t := fun t k => castTop (ef_cp1 m a1 (0 : Int32) a2 (0 : Int32) (2 : Int32)) k
 have Vc1 := Ac
 obtain ⟨cl1, Ar1, qq1, sz1, nn1, Ha1, Gf1⟩ := Vc1
 have hin1 : ¬ ((0 : Int32) < 0 ∨ cl1.slots.size ≤ ((0 : Int32)).toNatClampNeg) := inb_of sz1 ⟨by decide, by decide⟩
 have pre2 : ∀ t, Steps p.tables e below (s₁.setTop (mkF m 20 #[.val (.ref a1), .val (.int (0 : Int32)), .val (.ref a2), .val (.int (0 : Int32)), .val (.int (2 : Int32)), .val (.int (0 : Int32)), .val (.int c0)] [(.int (255 : Int32)), (.int c0)])) t → Steps p.tables e below (s₁.setTop (entryFrame m #[(.ref a1), (.int (0 : Int32)), (.ref a2), (.int (0 : Int32)), (.int (2 : Int32))] 7)) t := fun t k => pre0 t (by
  show Steps p.tables e below (s₁.setTop (mkF m 0 #[.val (.ref a1), .val (.int (0 : Int32)), .val (.ref a2), .val (.int (0 : Int32)), .val (.int (2 : Int32)), .unset, .unset] [])) _
  refine XS.iconst X0.here hx rfl (hb hby d16_0) ?_
  refine XS.istore X0.here hx rfl (hb hby d16_1) rfl (l' := #[.val (.ref a1), .val (.int (0 : Int32)), .val (.ref a2), .val (.int (0 : Int32)), .val (.int (2 : Int32)), .val (.int (0 : Int32)), .unset]) rfl ?_
  refine XS.iload X0.here hx rfl (hb hby d16_3) rfl ?_
  refine XS.iload X0.here hx rfl (hb hby d16_5) rfl ?_
  refine XS.icmpNo X0.here hx rfl (hb hby d16_7) rfl (tlt (by decide : (0 : Int32) < (2 : Int32))).2.1 ?_
  refine XS.aloadN X0.here hx rfl (hb hby d16_10) rfl rfl ?_
  refine XS.iloadN X0.here hx rfl (hb hby d16_11) rfl ?_
  refine X0.caload hx (j := (0 : Int32)) (v := (.int c0)) (by rw [e0]; exact Ar1.1) (State.isArrayOf_alike hZ.alike Ar1.2.1) Ar1.2.2 hin1 (Has.at Ha1 hin1 rfl) (g := (mkF m 12 #[.val (.ref a1), .val (.int (0 : Int32)), .val (.ref a2), .val (.int (0 : Int32)), .val (.int (2 : Int32)), .val (.int (0 : Int32)), .unset] [(.int (0 : Int32)), (.ref a1)])) rfl rfl (hb hby d16_12) _ ?_
  refine XS.istore X0.here hx rfl (hb hby d16_13) rfl (l' := #[.val (.ref a1), .val (.int (0 : Int32)), .val (.ref a2), .val (.int (0 : Int32)), .val (.int (2 : Int32)), .val (.int (0 : Int32)), .val (.int c0)]) rfl ?_
  refine XS.iload X0.here hx rfl (hb hby d16_15) rfl ?_
  refine XS.sipush X0.here hx rfl (hb hby d16_17) ?_
  exact k)
 by_cases hc20 : (255 : Int32) < c0
 ·have pre3 : ∀ t, Steps p.tables e below (s₁.setTop (mkF m 25 #[.val (.ref a1), .val (.int (0 : Int32)), .val (.ref a2), .val (.int (0 : Int32)), .val (.int (2 : Int32)), .val (.int (0 : Int32)), .val (.int c0)] [(.int (0 : Int32))])) t → Steps p.tables e below (s₁.setTop (entryFrame m #[(.ref a1), (.int (0 : Int32)), (.ref a2), (.int (0 : Int32)), (.int (2 : Int32))] 7)) t := fun t k => pre2 t (by
   show Steps p.tables e below (s₁.setTop (mkF m 20 #[.val (.ref a1), .val (.int (0 : Int32)), .val (.ref a2), .val (.int (0 : Int32)), .val (.int (2 : Int32)), .val (.int (0 : Int32)), .val (.int c0)] [(.int (255 : Int32)), (.int c0)])) _
   refine XS.icmpNo X0.here hx rfl (hb hby d16_20) rfl (tlt hc20).2.2.2 ?_
   refine XS.iload X0.here hx rfl (hb hby d16_23) rfl ?_
   exact k)
  obtain ⟨fs4, hr4, hrun4, hended4, hW4, hsame4⟩ := X0.leave (v := some (.int (0 : Int32))) (fun h => by rw [Bd.returns] at h; cases h)
  refine ⟨_, _, pre3 _ ?_, hrun4, hended4, _, _, rfl, ?_, ⟨_, rfl⟩, hW4, hsame4.mono (by decide) (by decide)⟩
  ·show Steps p.tables e below (s₁.setTop (mkF m 25 #[.val (.ref a1), .val (.int (0 : Int32)), .val (.ref a2), .val (.int (0 : Int32)), .val (.int (2 : Int32)), .val (.int (0 : Int32)), .val (.int c0)] [(.int (0 : Int32))])) _
   exact retOut X0 hx (t := .int) Bd.returns rfl (Or.inl ⟨rfl, Or.inl rfl, _, rfl⟩) (hb hby d16_25) hr4
  ·show Qcp2 Z a1 a2 kc kd c0 c1 h0 n0 _ s₁.heap _
   rw [e0]
   exact ⟨_, rfl, N0, (Keep.refl h0 [a2]), Or.inl ⟨rfl, hc20⟩⟩
 have Vc5 := Vd
 obtain ⟨cl5, Ar5, qq5, sz5, nn5, Ha5, Gf5⟩ := Vc5
 have hin5 : ¬ ((0 : Int32) < 0 ∨ cl5.slots.size ≤ ((0 : Int32)).toNatClampNeg) := inb_of sz5 ⟨by decide, by decide⟩
 obtain ⟨T6, h6, X6, e6, W6, st6⟩ := stB X0 hx hZ e0 Ar5 (j := (0 : Int32)) hin5 (g := (mkF m 31 #[.val (.ref a1), .val (.int (0 : Int32)), .val (.ref a2), .val (.int (0 : Int32)), .val (.int (2 : Int32)), .val (.int (0 : Int32)), .val (.int c0)] [(.int (c0.toInt8.toInt32)), (.int (0 : Int32)), (.ref a2)])) rfl rfl (hb hby d16_31)
 have N6 := Fr.snoc X6 N0 gd
 have Ac_6 := Ac.other W6 hne
 have Vd_6 := Arv.set Ar5 qq5 sz5 nn5 Ha5 Gf5 (fits_nar_byte _) W6 0 rfl (Nat.le_of_ble_eq_true rfl)
 have Vc7 := Ac_6
 obtain ⟨cl7, Ar7, qq7, sz7, nn7, Ha7, Gf7⟩ := Vc7
 have hin7 : ¬ ((1 : Int32) < 0 ∨ cl7.slots.size ≤ ((1 : Int32)).toNatClampNeg) := inb_of sz7 ⟨by decide, by decide⟩
 have pre8 : ∀ t, Steps p.tables e below (T6.setTop (mkF m 20 #[.val (.ref a1), .val (.int (1 : Int32)), .val (.ref a2), .val (.int (1 : Int32)), .val (.int (2 : Int32)), .val (.int (1 : Int32)), .val (.int c1)] [(.int (255 : Int32)), (.int c1)])) t → Steps p.tables e below (s₁.setTop (entryFrame m #[(.ref a1), (.int (0 : Int32)), (.ref a2), (.int (0 : Int32)), (.int (2 : Int32))] 7)) t := fun t k => pre2 t (by
  show Steps p.tables e below (s₁.setTop (mkF m 20 #[.val (.ref a1), .val (.int (0 : Int32)), .val (.ref a2), .val (.int (0 : Int32)), .val (.int (2 : Int32)), .val (.int (0 : Int32)), .val (.int c0)] [(.int (255 : Int32)), (.int c0)])) _
  refine XS.icmpYes X0.here hx rfl (pc0 := 20) (pc' := 26) rfl (hb hby d16_20) rfl (flt hc20).2.2.2 (by decide) (by decide) ?_
  refine XS.aloadN X0.here hx rfl (hb hby d16_26) rfl rfl ?_
  refine XS.iloadN X0.here hx rfl (hb hby d16_27) rfl ?_
  refine XS.iload X0.here hx rfl (hb hby d16_28) rfl ?_
  refine XS.i2b X0.here hx rfl (hb hby d16_30) rfl ?_
  refine st6 _ ?_
  refine XS.iinc X6.here hx rfl (hb hby d16_32) rfl (l' := #[.val (.ref a1), .val (.int ((0 : Int32) + (1 : Int32))), .val (.ref a2), .val (.int (0 : Int32)), .val (.int (2 : Int32)), .val (.int (0 : Int32)), .val (.int c0)]) rfl ?_
  show Steps p.tables e below (T6.setTop (mkF m 35 #[.val (.ref a1), .val (.int ((0 : Int32) + (1 : Int32))), .val (.ref a2), .val (.int (0 : Int32)), .val (.int (2 : Int32)), .val (.int (0 : Int32)), .val (.int c0)] [])) _
  rw [show ((0 : Int32) + (1 : Int32)) = (1 : Int32) from by decide]
  refine XS.iinc X6.here hx rfl (hb hby d16_35) rfl (l' := #[.val (.ref a1), .val (.int (1 : Int32)), .val (.ref a2), .val (.int ((0 : Int32) + (1 : Int32))), .val (.int (2 : Int32)), .val (.int (0 : Int32)), .val (.int c0)]) rfl ?_
  show Steps p.tables e below (T6.setTop (mkF m 38 #[.val (.ref a1), .val (.int (1 : Int32)), .val (.ref a2), .val (.int ((0 : Int32) + (1 : Int32))), .val (.int (2 : Int32)), .val (.int (0 : Int32)), .val (.int c0)] [])) _
  rw [show ((0 : Int32) + (1 : Int32)) = (1 : Int32) from by decide]
  refine XS.iinc X6.here hx rfl (hb hby d16_38) rfl (l' := #[.val (.ref a1), .val (.int (1 : Int32)), .val (.ref a2), .val (.int (1 : Int32)), .val (.int (2 : Int32)), .val (.int ((0 : Int32) + (1 : Int32))), .val (.int c0)]) rfl ?_
  show Steps p.tables e below (T6.setTop (mkF m 41 #[.val (.ref a1), .val (.int (1 : Int32)), .val (.ref a2), .val (.int (1 : Int32)), .val (.int (2 : Int32)), .val (.int ((0 : Int32) + (1 : Int32))), .val (.int c0)] [])) _
  rw [show ((0 : Int32) + (1 : Int32)) = (1 : Int32) from by decide]
  refine XS.goto X6.here hx rfl (pc0 := 41) (pc' := 3) rfl (hb hby d16_41) (by decide) (by decide) ?_
  refine XS.iload X6.here hx rfl (hb hby d16_3) rfl ?_
  refine XS.iload X6.here hx rfl (hb hby d16_5) rfl ?_
  refine XS.icmpNo X6.here hx rfl (hb hby d16_7) rfl (tlt (by decide : (1 : Int32) < (2 : Int32))).2.1 ?_
  refine XS.aloadN X6.here hx rfl (hb hby d16_10) rfl rfl ?_
  refine XS.iloadN X6.here hx rfl (hb hby d16_11) rfl ?_
  refine X6.caload hx (j := (1 : Int32)) (v := (.int c1)) (by rw [e6]; exact Ar7.1) (State.isArrayOf_alike hZ.alike Ar7.2.1) Ar7.2.2 hin7 (Has.at Ha7 hin7 rfl) (g := (mkF m 12 #[.val (.ref a1), .val (.int (1 : Int32)), .val (.ref a2), .val (.int (1 : Int32)), .val (.int (2 : Int32)), .val (.int (1 : Int32)), .val (.int c0)] [(.int (1 : Int32)), (.ref a1)])) rfl rfl (hb hby d16_12) _ ?_
  refine XS.istore X6.here hx rfl (hb hby d16_13) rfl (l' := #[.val (.ref a1), .val (.int (1 : Int32)), .val (.ref a2), .val (.int (1 : Int32)), .val (.int (2 : Int32)), .val (.int (1 : Int32)), .val (.int c1)]) rfl ?_
  refine XS.iload X6.here hx rfl (hb hby d16_15) rfl ?_
  refine XS.sipush X6.here hx rfl (hb hby d16_17) ?_
  exact k)
 by_cases hc20_9 : (255 : Int32) < c1
 ·have pre10 : ∀ t, Steps p.tables e below (T6.setTop (mkF m 25 #[.val (.ref a1), .val (.int (1 : Int32)), .val (.ref a2), .val (.int (1 : Int32)), .val (.int (2 : Int32)), .val (.int (1 : Int32)), .val (.int c1)] [(.int (1 : Int32))])) t → Steps p.tables e below (s₁.setTop (entryFrame m #[(.ref a1), (.int (0 : Int32)), (.ref a2), (.int (0 : Int32)), (.int (2 : Int32))] 7)) t := fun t k => pre8 t (by
   show Steps p.tables e below (T6.setTop (mkF m 20 #[.val (.ref a1), .val (.int (1 : Int32)), .val (.ref a2), .val (.int (1 : Int32)), .val (.int (2 : Int32)), .val (.int (1 : Int32)), .val (.int c1)] [(.int (255 : Int32)), (.int c1)])) _
   refine XS.icmpNo X6.here hx rfl (hb hby d16_20) rfl (tlt hc20_9).2.2.2 ?_
   refine XS.iload X6.here hx rfl (hb hby d16_23) rfl ?_
   exact k)
  obtain ⟨fs11, hr11, hrun11, hended11, hW11, hsame11⟩ := X6.leave (v := some (.int (1 : Int32))) (fun h => by rw [Bd.returns] at h; cases h)
  refine ⟨_, _, pre10 _ ?_, hrun11, hended11, _, _, rfl, ?_, ⟨_, rfl⟩, hW11, hsame11.mono (by decide) (by decide)⟩
  ·show Steps p.tables e below (T6.setTop (mkF m 25 #[.val (.ref a1), .val (.int (1 : Int32)), .val (.ref a2), .val (.int (1 : Int32)), .val (.int (2 : Int32)), .val (.int (1 : Int32)), .val (.int c1)] [(.int (1 : Int32))])) _
   exact retOut X6 hx (t := .int) Bd.returns rfl (Or.inl ⟨rfl, Or.inl rfl, _, rfl⟩) (hb hby d16_25) hr11
  ·show Qcp2 Z a1 a2 kc kd c0 c1 h0 n0 _ T6.heap _
   rw [e6]
   exact ⟨_, rfl, N6, ((Keep.refl h0 [a2]).wr W6 (Or.inl (List.mem_singleton.mpr rfl))), Or.inr (Or.inl ⟨rfl, hc20_9⟩)⟩
 have Vc12 := Vd_6
 obtain ⟨cl12, Ar12, qq12, sz12, nn12, Ha12, Gf12⟩ := Vc12
 have hin12 : ¬ ((1 : Int32) < 0 ∨ cl12.slots.size ≤ ((1 : Int32)).toNatClampNeg) := inb_of sz12 ⟨by decide, by decide⟩
 obtain ⟨T13, h13, X13, e13, W13, st13⟩ := stB X6 hx hZ e6 Ar12 (j := (1 : Int32)) hin12 (g := (mkF m 31 #[.val (.ref a1), .val (.int (1 : Int32)), .val (.ref a2), .val (.int (1 : Int32)), .val (.int (2 : Int32)), .val (.int (1 : Int32)), .val (.int c1)] [(.int (c1.toInt8.toInt32)), (.int (1 : Int32)), (.ref a2)])) rfl rfl (hb hby d16_31)
 have N13 := Fr.snoc X13 N6 gd
 have Ac_13 := Ac_6.other W13 hne
 have Vd_13 := Arv.set Ar12 qq12 sz12 nn12 Ha12 Gf12 (fits_nar_byte _) W13 1 rfl (Nat.le_of_ble_eq_true rfl)
 have pre14 : ∀ t, Steps p.tables e below (T13.setTop (mkF m 46 #[.val (.ref a1), .val (.int (2 : Int32)), .val (.ref a2), .val (.int (2 : Int32)), .val (.int (2 : Int32)), .val (.int (2 : Int32)), .val (.int c1)] [(.int (2 : Int32))])) t → Steps p.tables e below (s₁.setTop (entryFrame m #[(.ref a1), (.int (0 : Int32)), (.ref a2), (.int (0 : Int32)), (.int (2 : Int32))] 7)) t := fun t k => pre8 t (by
  show Steps p.tables e below (T6.setTop (mkF m 20 #[.val (.ref a1), .val (.int (1 : Int32)), .val (.ref a2), .val (.int (1 : Int32)), .val (.int (2 : Int32)), .val (.int (1 : Int32)), .val (.int c1)] [(.int (255 : Int32)), (.int c1)])) _
  refine XS.icmpYes X6.here hx rfl (pc0 := 20) (pc' := 26) rfl (hb hby d16_20) rfl (flt hc20_9).2.2.2 (by decide) (by decide) ?_
  refine XS.aloadN X6.here hx rfl (hb hby d16_26) rfl rfl ?_
  refine XS.iloadN X6.here hx rfl (hb hby d16_27) rfl ?_
  refine XS.iload X6.here hx rfl (hb hby d16_28) rfl ?_
  refine XS.i2b X6.here hx rfl (hb hby d16_30) rfl ?_
  refine st13 _ ?_
  refine XS.iinc X13.here hx rfl (hb hby d16_32) rfl (l' := #[.val (.ref a1), .val (.int ((1 : Int32) + (1 : Int32))), .val (.ref a2), .val (.int (1 : Int32)), .val (.int (2 : Int32)), .val (.int (1 : Int32)), .val (.int c1)]) rfl ?_
  show Steps p.tables e below (T13.setTop (mkF m 35 #[.val (.ref a1), .val (.int ((1 : Int32) + (1 : Int32))), .val (.ref a2), .val (.int (1 : Int32)), .val (.int (2 : Int32)), .val (.int (1 : Int32)), .val (.int c1)] [])) _
  rw [show ((1 : Int32) + (1 : Int32)) = (2 : Int32) from by decide]
  refine XS.iinc X13.here hx rfl (hb hby d16_35) rfl (l' := #[.val (.ref a1), .val (.int (2 : Int32)), .val (.ref a2), .val (.int ((1 : Int32) + (1 : Int32))), .val (.int (2 : Int32)), .val (.int (1 : Int32)), .val (.int c1)]) rfl ?_
  show Steps p.tables e below (T13.setTop (mkF m 38 #[.val (.ref a1), .val (.int (2 : Int32)), .val (.ref a2), .val (.int ((1 : Int32) + (1 : Int32))), .val (.int (2 : Int32)), .val (.int (1 : Int32)), .val (.int c1)] [])) _
  rw [show ((1 : Int32) + (1 : Int32)) = (2 : Int32) from by decide]
  refine XS.iinc X13.here hx rfl (hb hby d16_38) rfl (l' := #[.val (.ref a1), .val (.int (2 : Int32)), .val (.ref a2), .val (.int (2 : Int32)), .val (.int (2 : Int32)), .val (.int ((1 : Int32) + (1 : Int32))), .val (.int c1)]) rfl ?_
  show Steps p.tables e below (T13.setTop (mkF m 41 #[.val (.ref a1), .val (.int (2 : Int32)), .val (.ref a2), .val (.int (2 : Int32)), .val (.int (2 : Int32)), .val (.int ((1 : Int32) + (1 : Int32))), .val (.int c1)] [])) _
  rw [show ((1 : Int32) + (1 : Int32)) = (2 : Int32) from by decide]
  refine XS.goto X13.here hx rfl (pc0 := 41) (pc' := 3) rfl (hb hby d16_41) (by decide) (by decide) ?_
  refine XS.iload X13.here hx rfl (hb hby d16_3) rfl ?_
  refine XS.iload X13.here hx rfl (hb hby d16_5) rfl ?_
  refine XS.icmpYes X13.here hx rfl (pc0 := 7) (pc' := 44) rfl (hb hby d16_7) rfl (flt (by decide : ¬ ((2 : Int32) < (2 : Int32)))).2.1 (by decide) (by decide) ?_
  refine XS.iload X13.here hx rfl (hb hby d16_44) rfl ?_
  exact k)
 obtain ⟨fs15, hr15, hrun15, hended15, hW15, hsame15⟩ := X13.leave (v := some (.int (2 : Int32))) (fun h => by rw [Bd.returns] at h; cases h)
 refine ⟨_, _, pre14 _ ?_, hrun15, hended15, _, _, rfl, ?_, ⟨_, rfl⟩, hW15, hsame15.mono (by decide) (by decide)⟩
 ·show Steps p.tables e below (T13.setTop (mkF m 46 #[.val (.ref a1), .val (.int (2 : Int32)), .val (.ref a2), .val (.int (2 : Int32)), .val (.int (2 : Int32)), .val (.int (2 : Int32)), .val (.int c1)] [(.int (2 : Int32))])) _
  exact retOut X13 hx (t := .int) Bd.returns rfl (Or.inl ⟨rfl, Or.inl rfl, _, rfl⟩) (hb hby d16_46) hr15
 ·show Qcp2 Z a1 a2 kc kd c0 c1 h0 n0 _ T13.heap _
  rw [e13]
  have q := Vd_13
  simp only [own_lo] at q
  exact ⟨_, rfl, N13, (((Keep.refl h0 [a2]).wr W6 (Or.inl (List.mem_singleton.mpr rfl))).wr W13 (Or.inl (List.mem_singleton.mpr rfl))), Or.inr (Or.inr (⟨rfl, ⟨hc20, hc20_9⟩, q⟩))⟩


def Qcz2 (Z : State) (a1 : Addr) (kc : ClassId) (c0 c1 : Int32) (h0 : Heap) (n0 : Nat) (v : Option Value) (h : Heap) (L : List Loc) : Prop := ∃ b kb cd N vs, v = some (.ref b) ∧ Fr n0 L ∧ Ext h0 h ∧ Arv Z h b kb .byte N vs (.int 0) ∧ StrChars.Road.CodA [c0, c1] cd N vs
set_option maxRecDepth 65536 in
set_option maxHeartbeats 40000000 in
theorem rmcz2 (l : Launch) (Z : State) (a0 : Array Value) (hw : ∀ d ∈ tables_1, d.before a0 Z = true) (ws : List Jvm.Cond) (a1 : Addr) (kc : ClassId) (c0 c1 : Int32) (h0 : Heap) (n0 : Nat) (Z0 : n0 ≤ h0.size) (Ac : Arv Z h0 a1 kc .char (2 : Int32) ([c0, c1].map Value.int) (.int 0)) (EN : own_env Z h0) (hb0 : own_b c0) (hb1 : own_b c1) :
  own_M l Z own_z16 jdk_52_method_16_code 6 (some (.array .byte)) ({ frames := 3, cells := 2, slots := 6, locals := 45 } : Room) ws #[(.ref a1), (.int (0 : Int32)), (.int (2 : Int32))] h0 (Qcz2 Z a1 kc c0 c1 h0 n0) := by
 refine MetFree.of_bodySF (plainFor_of_name pn_k5) hisR ?_
 intro p e s m args below meth c s₁ Bd hml0 hP hK
 obtain ⟨rfl, hZ, hh⟩ := hP
 have hx := Bd.exec
 have hby := Bd.bytes
 have hml : c.maxLocals = 6 := hml0
 have hown : s.vm.findClass "java/lang/StringUTF16" = some m.cls := findClass_of_methodNamed Bd.named
 have hnm := (name_of_methodNamed Bd.named Bd.method).1
 have X0 : Stand p l e ({ frames := 3, cells := 2, slots := 6, locals := 45 } : Room) s m #[(.ref a1), (.int (0 : Int32)), (.int (2 : Int32))] below meth c s₁ [] 0 0 := Stand.of_body Bd
 have e0 : s₁.heap = h0 := by rw [← hh, Bd.state]; rfl
 have N0 := Fr.nil n0
 have pre0 : ∀ t, Steps p.tables e below (s₁.setTop (mkF m 0 #[.val (.ref a1), .val (.int (0 : Int32)), .val (.int (2 : Int32)), .unset, .unset, .unset] [])) t → Steps p.tables e below (s₁.setTop (entryFrame m #[(.ref a1), (.int (0 : Int32)), (.int (2 : Int32))] 6)) t := fun t k => castTop (ef_cz1 m a1 (0 : Int32) (2 : Int32)) k
 obtain ⟨T1, h1, k1, X1, e1, E1, A1, st1⟩ := newP (aty := .byte) X0 hx hZ (wd21 hw) e0 (g := (mkF m 1 #[.val (.ref a1), .val (.int (0 : Int32)), .val (.int (2 : Int32)), .unset, .unset, .unset] [(.int (2 : Int32))])) rfl (hb hby d15_1) rfl (by decide) (cap := 2) (by decide) (by decide) (by decide) (by decide)
 obtain ⟨b1, gb1⟩ : ∃ z, z = h0.size := ⟨_, rfl⟩
 rw [← gb1] at A1 st1
 have gn1 : n0 ≤ b1 := Nat.le_trans Z0 (Nat.le_of_eq gb1.symm)
 have sz1_b : h0.size ≤ b1 := Nat.le_trans (Keep.refl h0 []).1 (Nat.le_of_eq gb1.symm)
 have ne_a1_b1 : a1 ≠ b1 := Nat.ne_of_lt (Nat.lt_of_lt_of_le Ac.lt (Nat.le_of_eq gb1.symm))
 have Ac_1 := Ac.ext E1
 have EN_1 := EN.ext E1
 have K1 := (Keep.refl h0 []).ext E1
 have V1 : Arv Z h1 b1 k1 .byte (2 : Int32) [(.int (0 : Int32)), (.int (0 : Int32))] (.int (0 : Int32)) := (Arv.new A1 (by decide)).pad (pad_rep [] (.int (0 : Int32)) 2)
 obtain ⟨_, _, ⟨T2, L2, k2, n2⟩, -, X2, ⟨Lc2, hQ2, l2, y2, z2⟩, st2⟩ := Jvm.LawKit.callS X1 hx (y := own_z15) hown (mvT hZ (wd76 hw)) (mvT hZ (wd77 hw)) (mvT hZ (wd74 hw)) (mvT hZ (wd78 hw)) (by decide) (backOf (W := 0) (rmcp2 l Z a0 hw [] a1 b1 kc k1 c0 c1 h1 n0 (Nat.le_trans Z0 E1.1) Ac_1 V1 ne_a1_b1 gn1) hZ (wd78 hw) (wd74 hw) (by decide) (by decide)) (g := (mkF m 9 #[.val (.ref a1), .val (.int (0 : Int32)), .val (.int (2 : Int32)), .val (.ref b1), .unset, .unset] [(.int (2 : Int32)), (.int (0 : Int32)), (.ref b1), (.int (0 : Int32)), (.ref a1)])) rfl (by rw [hml]; rfl) (argsL := [(.ref a1), (.int (0 : Int32)), (.ref b1), (.int (0 : Int32)), (.int (2 : Int32))]) (rest := []) (lenOf pd_cp1 rfl) rfl (by show 2 * 0 + _ ≤ _; exact Nat.le_of_eq rfl) (hb hby d15_9) (fun _ _ => ⟨rfl, e1, (by decide : 1 + 0 ≤ _), (by decide : 2 + 0 ≤ _)⟩)
 dsimp only [Pt.U, Pt.locs, Pt.cells, Pt.slots] at X2 l2 y2 z2 st2 hQ2
 subst l2 y2 z2
 obtain ⟨j2, rfl, N2q, Kp2, hd2⟩ := hQ2
 have N2 := Fr.app N0 N2q
 have Ac_2 := Ac_1.keep Kp2 (ninS ne_a1_b1 nin0)
 have EN_2 := EN_1.keep Kp2 V1.nostat
 have K2 := K1.trans Kp2 (fun x hx => by cases List.mem_singleton.mp hx; exact Or.inr sz1_b)
 have pre3 : ∀ t, Steps p.tables e below (T2.setTop (mkF m 12 #[.val (.ref a1), .val (.int (0 : Int32)), .val (.int (2 : Int32)), .val (.ref b1), .unset, .unset] [(.int j2)])) t → Steps p.tables e below (s₁.setTop (entryFrame m #[(.ref a1), (.int (0 : Int32)), (.int (2 : Int32))] 6)) t := fun t k => pre0 t (by
  show Steps p.tables e below (s₁.setTop (mkF m 0 #[.val (.ref a1), .val (.int (0 : Int32)), .val (.int (2 : Int32)), .unset, .unset, .unset] [])) _
  refine XS.iloadN X0.here hx rfl (hb hby d15_0) rfl ?_
  refine st1 _ ?_
  refine XS.astoreN X1.here hx rfl (hb hby d15_3) rfl rfl (l' := #[.val (.ref a1), .val (.int (0 : Int32)), .val (.int (2 : Int32)), .val (.ref b1), .unset, .unset]) rfl ?_
  refine XS.aloadN X1.here hx rfl (hb hby d15_4) rfl rfl ?_
  refine XS.iloadN X1.here hx rfl (hb hby d15_5) rfl ?_
  refine XS.aloadN X1.here hx rfl (hb hby d15_6) rfl rfl ?_
  refine XS.iconst X1.here hx rfl (hb hby d15_7) ?_
  refine XS.iloadN X1.here hx rfl (hb hby d15_8) rfl ?_
  refine st2 _ ?_
  exact k)
 rcases hd2 with ⟨rfl, hcw⟩ | ⟨rfl, hcw⟩ | ⟨rfl, hcl, hvl⟩
 ·obtain ⟨_, _, ⟨T4, L4, k4, n4⟩, -, X4, ⟨Lc4, hQ4, l4, y4, z4⟩, st4⟩ := Jvm.LawKit.callS X2 hx (y := own_z14) hown (mvT hZ (wd88 hw)) (mvT hZ (wd89 hw)) (mvT hZ (wd74 hw)) (mvT hZ (wd90 hw)) (by decide) (backOf (W := 0) (rmtb2 l Z a0 hw [] a1 kc c0 c1 T2.heap n0 (Nat.le_trans (Nat.le_trans Z0 E1.1) Kp2.1) Ac_2 EN_2) hZ (wd90 hw) (wd74 hw) (by decide) (by decide)) (g := (mkF m 23 #[.val (.ref a1), .val (.int (0 : Int32)), .val (.int (2 : Int32)), .val (.ref b1), .val (.int (0 : Int32)), .unset] [(.int (2 : Int32)), (.int (0 : Int32)), (.ref a1)])) rfl (by rw [hml]; rfl) (argsL := [(.ref a1), (.int (0 : Int32)), (.int (2 : Int32))]) (rest := []) (lenOf pd_tb1 rfl) rfl (by show 2 * 0 + _ ≤ _; exact Nat.le_of_eq rfl) (hb hby d15_23) (fun _ _ => ⟨rfl, rfl, (by decide : 1 + 1 ≤ _), (by decide : 2 + 4 ≤ _)⟩)
  dsimp only [Pt.U, Pt.locs, Pt.cells, Pt.slots] at X4 l4 y4 z4 st4 hQ4
  subst l4 y4 z4
  obtain ⟨b4, kb4, rfl, N4q, E4, V4⟩ := hQ4
  have N4 := Fr.app N2 N4q
  have Ac_4 := Ac_2.ext E4
  have EN_4 := EN_2.ext E4
  have K4 := K2.ext E4
  have Vc5 := V4
  obtain ⟨cl5, Ar5, qq5, sz5, nn5, Ha5, Gf5⟩ := Vc5
  have r0_5 : own_rd cl5 ((0 : Int32) <<< ((1 : Int32) &&& 31)) (StrChars.lo8 c0) := own_rdOf sz5 Ha5 ⟨by decide, by decide⟩ (by rw [show (((0 : Int32) <<< ((1 : Int32) &&& 31))).toNatClampNeg = 0 from by decide]; rfl)
  have r1_5 : own_rd cl5 (((0 : Int32) <<< ((1 : Int32) &&& 31)) + (1 : Int32)) (StrChars.hi8 c0) := own_rdOf sz5 Ha5 ⟨by decide, by decide⟩ (by rw [show ((((0 : Int32) <<< ((1 : Int32) &&& 31)) + (1 : Int32))).toNatClampNeg = 1 from by decide]; rfl)
  obtain ⟨_, _, ⟨T6, L6, k6, n6⟩, -, X6, ⟨Lc6, hQ6, l6, y6, z6⟩, st6⟩ := Jvm.LawKit.callS X4 hx (y := own_z10) hown (mvT hZ (wd104 hw)) (mvT hZ (wd105 hw)) (mvT hZ (wd74 hw)) (mvT hZ (wd106 hw)) (by decide) (backOf (W := 0) (rmgc l Z a0 hw [] b4 cl5 (0 : Int32) (StrChars.lo8 c0) (StrChars.hi8 c0) c0 T4.heap n0 (Nat.le_trans (Nat.le_trans (Nat.le_trans Z0 E1.1) Kp2.1) E4.1) EN_4 (own_gcv hb0) Ar5 r0_5 r1_5) hZ (wd106 hw) (wd74 hw) (by decide) (by decide)) (g := (mkF m 32 #[.val (.ref a1), .val (.int (0 : Int32)), .val (.int (2 : Int32)), .val (.ref b1), .val (.int (0 : Int32)), .val (.ref b4)] [(.int (0 : Int32)), (.ref b4)])) rfl (by rw [hml]; rfl) (argsL := [(.ref b4), (.int (0 : Int32))]) (rest := []) (lenOf pd_gc rfl) rfl (by show 2 * 0 + _ ≤ _; exact Nat.le_of_eq rfl) (hb hby d15_32) (fun _ _ => ⟨rfl, rfl, (by decide : 2 + 0 ≤ _), (by decide : 6 + 0 ≤ _)⟩)
  dsimp only [Pt.U, Pt.locs, Pt.cells, Pt.slots] at X6 l6 y6 z6 st6 hQ6
  subst l6 y6 z6
  obtain ⟨rfl, N6q, q6⟩ := hQ6
  have N6 := Fr.app N4 N6q
  have pre7 : ∀ t, Steps p.tables e below (T6.setTop (mkF m 56 #[.val (.ref a1), .val (.int (0 : Int32)), .val (.int (2 : Int32)), .val (.ref b1), .val (.int (0 : Int32)), .val (.ref b4)] [(.ref b4)])) t → Steps p.tables e below (s₁.setTop (entryFrame m #[(.ref a1), (.int (0 : Int32)), (.int (2 : Int32))] 6)) t := fun t k => pre3 t (by
   show Steps p.tables e below (T2.setTop (mkF m 12 #[.val (.ref a1), .val (.int (0 : Int32)), .val (.int (2 : Int32)), .val (.ref b1), .unset, .unset] [(.int (0 : Int32))])) _
   refine XS.istore X2.here hx rfl (hb hby d15_12) rfl (l' := #[.val (.ref a1), .val (.int (0 : Int32)), .val (.int (2 : Int32)), .val (.ref b1), .val (.int (0 : Int32)), .unset]) rfl ?_
   refine XS.iload X2.here hx rfl (hb hby d15_14) rfl ?_
   refine XS.iloadN X2.here hx rfl (hb hby d15_16) rfl ?_
   refine XS.icmpNo X2.here hx rfl (hb hby d15_17) rfl (feq (by decide : ¬ ((0 : Int32) = (2 : Int32)))).1 ?_
   refine XS.aloadN X2.here hx rfl (hb hby d15_20) rfl rfl ?_
   refine XS.iloadN X2.here hx rfl (hb hby d15_21) rfl ?_
   refine XS.iloadN X2.here hx rfl (hb hby d15_22) rfl ?_
   refine st4 _ ?_
   refine XS.astore X4.here hx rfl (hb hby d15_26) rfl rfl (l' := #[.val (.ref a1), .val (.int (0 : Int32)), .val (.int (2 : Int32)), .val (.ref b1), .val (.int (0 : Int32)), .val (.ref b4)]) rfl ?_
   refine XS.aload X4.here hx rfl (hb hby d15_28) rfl rfl ?_
   refine XS.iload X4.here hx rfl (hb hby d15_30) rfl ?_
   refine st6 _ ?_
   refine XS.sipush X6.here hx rfl (hb hby d15_35) ?_
   refine XS.icmpYes X6.here hx rfl (pc0 := 38) (pc' := 54) rfl (hb hby d15_38) rfl (tlt hcw).2.2.1 (by decide) (by decide) ?_
   refine XS.aload X6.here hx rfl (hb hby d15_54) rfl rfl ?_
   exact k)
  obtain ⟨fs8, hr8, hrun8, hended8, hW8, hsame8⟩ := X6.leave (v := some (.ref b4)) (fun h => by rw [Bd.returns] at h; cases h)
  refine ⟨_, _, pre7 _ ?_, hrun8, hended8, _, _, rfl, ?_, ⟨_, rfl⟩, hW8, hsame8.mono (by decide) (by decide)⟩
  ·show Steps p.tables e below (T6.setTop (mkF m 56 #[.val (.ref a1), .val (.int (0 : Int32)), .val (.int (2 : Int32)), .val (.ref b1), .val (.int (0 : Int32)), .val (.ref b4)] [(.ref b4)])) _
   exact retOut X6 hx (t := (.array .byte)) Bd.returns rfl (Or.inr (Or.inr (Or.inr (Or.inr ⟨rfl, rfl, rfl⟩)))) (hb hby d15_56) hr8
  ·show Qcz2 Z a1 kc c0 c1 h0 n0 _ T6.heap _
   rw [q6]
   exact ⟨_, _, 1, _, _, rfl, N6, own_ext K4, V4, Or.inr ⟨rfl, rfl, rfl, ⟨c0, by simp, hcw⟩⟩⟩
 ·obtain ⟨_, _, ⟨T9, L9, k9, n9⟩, -, X9, ⟨Lc9, hQ9, l9, y9, z9⟩, st9⟩ := Jvm.LawKit.callS X2 hx (y := own_z14) hown (mvT hZ (wd88 hw)) (mvT hZ (wd89 hw)) (mvT hZ (wd74 hw)) (mvT hZ (wd90 hw)) (by decide) (backOf (W := 0) (rmtb2 l Z a0 hw [] a1 kc c0 c1 T2.heap n0 (Nat.le_trans (Nat.le_trans Z0 E1.1) Kp2.1) Ac_2 EN_2) hZ (wd90 hw) (wd74 hw) (by decide) (by decide)) (g := (mkF m 23 #[.val (.ref a1), .val (.int (0 : Int32)), .val (.int (2 : Int32)), .val (.ref b1), .val (.int (1 : Int32)), .unset] [(.int (2 : Int32)), (.int (0 : Int32)), (.ref a1)])) rfl (by rw [hml]; rfl) (argsL := [(.ref a1), (.int (0 : Int32)), (.int (2 : Int32))]) (rest := []) (lenOf pd_tb1 rfl) rfl (by show 2 * 0 + _ ≤ _; exact Nat.le_of_eq rfl) (hb hby d15_23) (fun _ _ => ⟨rfl, rfl, (by decide : 1 + 1 ≤ _), (by decide : 2 + 4 ≤ _)⟩)
  dsimp only [Pt.U, Pt.locs, Pt.cells, Pt.slots] at X9 l9 y9 z9 st9 hQ9
  subst l9 y9 z9
  obtain ⟨b9, kb9, rfl, N9q, E9, V9⟩ := hQ9
  have N9 := Fr.app N2 N9q
  have Ac_9 := Ac_2.ext E9
  have EN_9 := EN_2.ext E9
  have K9 := K2.ext E9
  have Vc10 := V9
  obtain ⟨cl10, Ar10, qq10, sz10, nn10, Ha10, Gf10⟩ := Vc10
  have r0_10 : own_rd cl10 ((1 : Int32) <<< ((1 : Int32) &&& 31)) (StrChars.lo8 c1) := own_rdOf sz10 Ha10 ⟨by decide, by decide⟩ (by rw [show (((1 : Int32) <<< ((1 : Int32) &&& 31))).toNatClampNeg = 2 from by decide]; rfl)
  have r1_10 : own_rd cl10 (((1 : Int32) <<< ((1 : Int32) &&& 31)) + (1 : Int32)) (StrChars.hi8 c1) := own_rdOf sz10 Ha10 ⟨by decide, by decide⟩ (by rw [show ((((1 : Int32) <<< ((1 : Int32) &&& 31)) + (1 : Int32))).toNatClampNeg = 3 from by decide]; rfl)
  obtain ⟨_, _, ⟨T11, L11, k11, n11⟩, -, X11, ⟨Lc11, hQ11, l11, y11, z11⟩, st11⟩ := Jvm.LawKit.callS X9 hx (y := own_z10) hown (mvT hZ (wd104 hw)) (mvT hZ (wd105 hw)) (mvT hZ (wd74 hw)) (mvT hZ (wd106 hw)) (by decide) (backOf (W := 0) (rmgc l Z a0 hw [] b9 cl10 (1 : Int32) (StrChars.lo8 c1) (StrChars.hi8 c1) c1 T9.heap n0 (Nat.le_trans (Nat.le_trans (Nat.le_trans Z0 E1.1) Kp2.1) E9.1) EN_9 (own_gcv hb1) Ar10 r0_10 r1_10) hZ (wd106 hw) (wd74 hw) (by decide) (by decide)) (g := (mkF m 32 #[.val (.ref a1), .val (.int (0 : Int32)), .val (.int (2 : Int32)), .val (.ref b1), .val (.int (1 : Int32)), .val (.ref b9)] [(.int (1 : Int32)), (.ref b9)])) rfl (by rw [hml]; rfl) (argsL := [(.ref b9), (.int (1 : Int32))]) (rest := []) (lenOf pd_gc rfl) rfl (by show 2 * 0 + _ ≤ _; exact Nat.le_of_eq rfl) (hb hby d15_32) (fun _ _ => ⟨rfl, rfl, (by decide : 2 + 0 ≤ _), (by decide : 6 + 0 ≤ _)⟩)
  dsimp only [Pt.U, Pt.locs, Pt.cells, Pt.slots] at X11 l11 y11 z11 st11 hQ11
  subst l11 y11 z11
  obtain ⟨rfl, N11q, q11⟩ := hQ11
  have N11 := Fr.app N9 N11q
  have pre12 : ∀ t, Steps p.tables e below (T11.setTop (mkF m 56 #[.val (.ref a1), .val (.int (0 : Int32)), .val (.int (2 : Int32)), .val (.ref b1), .val (.int (1 : Int32)), .val (.ref b9)] [(.ref b9)])) t → Steps p.tables e below (s₁.setTop (entryFrame m #[(.ref a1), (.int (0 : Int32)), (.int (2 : Int32))] 6)) t := fun t k => pre3 t (by
   show Steps p.tables e below (T2.setTop (mkF m 12 #[.val (.ref a1), .val (.int (0 : Int32)), .val (.int (2 : Int32)), .val (.ref b1), .unset, .unset] [(.int (1 : Int32))])) _
   refine XS.istore X2.here hx rfl (hb hby d15_12) rfl (l' := #[.val (.ref a1), .val (.int (0 : Int32)), .val (.int (2 : Int32)), .val (.ref b1), .val (.int (1 : Int32)), .unset]) rfl ?_
   refine XS.iload X2.here hx rfl (hb hby d15_14) rfl ?_
   refine XS.iloadN X2.here hx rfl (hb hby d15_16) rfl ?_
   refine XS.icmpNo X2.here hx rfl (hb hby d15_17) rfl (feq (by decide : ¬ ((1 : Int32) = (2 : Int32)))).1 ?_
   refine XS.aloadN X2.here hx rfl (hb hby d15_20) rfl rfl ?_
   refine XS.iloadN X2.here hx rfl (hb hby d15_21) rfl ?_
   refine XS.iloadN X2.here hx rfl (hb hby d15_22) rfl ?_
   refine st9 _ ?_
   refine XS.astore X9.here hx rfl (hb hby d15_26) rfl rfl (l' := #[.val (.ref a1), .val (.int (0 : Int32)), .val (.int (2 : Int32)), .val (.ref b1), .val (.int (1 : Int32)), .val (.ref b9)]) rfl ?_
   refine XS.aload X9.here hx rfl (hb hby d15_28) rfl rfl ?_
   refine XS.iload X9.here hx rfl (hb hby d15_30) rfl ?_
   refine st11 _ ?_
   refine XS.sipush X11.here hx rfl (hb hby d15_35) ?_
   refine XS.icmpYes X11.here hx rfl (pc0 := 38) (pc' := 54) rfl (hb hby d15_38) rfl (tlt hcw).2.2.1 (by decide) (by decide) ?_
   refine XS.aload X11.here hx rfl (hb hby d15_54) rfl rfl ?_
   exact k)
  obtain ⟨fs13, hr13, hrun13, hended13, hW13, hsame13⟩ := X11.leave (v := some (.ref b9)) (fun h => by rw [Bd.returns] at h; cases h)
  refine ⟨_, _, pre12 _ ?_, hrun13, hended13, _, _, rfl, ?_, ⟨_, rfl⟩, hW13, hsame13.mono (by decide) (by decide)⟩
  ·show Steps p.tables e below (T11.setTop (mkF m 56 #[.val (.ref a1), .val (.int (0 : Int32)), .val (.int (2 : Int32)), .val (.ref b1), .val (.int (1 : Int32)), .val (.ref b9)] [(.ref b9)])) _
   exact retOut X11 hx (t := (.array .byte)) Bd.returns rfl (Or.inr (Or.inr (Or.inr (Or.inr ⟨rfl, rfl, rfl⟩)))) (hb hby d15_56) hr13
  ·show Qcz2 Z a1 kc c0 c1 h0 n0 _ T11.heap _
   rw [q11]
   exact ⟨_, _, 1, _, _, rfl, N11, own_ext K9, V9, Or.inr ⟨rfl, rfl, rfl, ⟨c1, by simp, hcw⟩⟩⟩
 ·have pre14 : ∀ t, Steps p.tables e below (T2.setTop (mkF m 58 #[.val (.ref a1), .val (.int (0 : Int32)), .val (.int (2 : Int32)), .val (.ref b1), .val (.int (2 : Int32)), .unset] [(.ref b1)])) t → Steps p.tables e below (s₁.setTop (entryFrame m #[(.ref a1), (.int (0 : Int32)), (.int (2 : Int32))] 6)) t := fun t k => pre3 t (by
   show Steps p.tables e below (T2.setTop (mkF m 12 #[.val (.ref a1), .val (.int (0 : Int32)), .val (.int (2 : Int32)), .val (.ref b1), .unset, .unset] [(.int (2 : Int32))])) _
   refine XS.istore X2.here hx rfl (hb hby d15_12) rfl (l' := #[.val (.ref a1), .val (.int (0 : Int32)), .val (.int (2 : Int32)), .val (.ref b1), .val (.int (2 : Int32)), .unset]) rfl ?_
   refine XS.iload X2.here hx rfl (hb hby d15_14) rfl ?_
   refine XS.iloadN X2.here hx rfl (hb hby d15_16) rfl ?_
   refine XS.icmpYes X2.here hx rfl (pc0 := 17) (pc' := 57) rfl (hb hby d15_17) rfl (teq (by decide : (2 : Int32) = (2 : Int32))).1 (by decide) (by decide) ?_
   refine XS.aloadN X2.here hx rfl (hb hby d15_57) rfl rfl ?_
   exact k)
  obtain ⟨fs15, hr15, hrun15, hended15, hW15, hsame15⟩ := X2.leave (v := some (.ref b1)) (fun h => by rw [Bd.returns] at h; cases h)
  refine ⟨_, _, pre14 _ ?_, hrun15, hended15, _, _, rfl, ?_, ⟨_, rfl⟩, hW15, hsame15.mono (by decide) (by decide)⟩
  ·show Steps p.tables e below (T2.setTop (mkF m 58 #[.val (.ref a1), .val (.int (0 : Int32)), .val (.int (2 : Int32)), .val (.ref b1), .val (.int (2 : Int32)), .unset] [(.ref b1)])) _
   exact retOut X2 hx (t := (.array .byte)) Bd.returns rfl (Or.inr (Or.inr (Or.inr (Or.inr ⟨rfl, rfl, rfl⟩)))) (hb hby d15_58) hr15
  ·show Qcz2 Z a1 kc c0 c1 h0 n0 _ T2.heap _
   exact ⟨_, _, 0, _, _, rfl, N2, own_ext K2, hvl, Or.inl ⟨rfl, rfl, rfl, List.forall_mem_cons.mpr ⟨hcl.1, List.forall_mem_cons.mpr ⟨hcl.2, fun _ q => nomatch q⟩⟩⟩⟩


def Qca2_1 (Z : State) (a1 : Addr) (k1 : ClassId) (vs : List Value) (h0 : Heap) (n0 : Nat) (v : Option Value) (h : Heap) (L : List Loc) : Prop := v = some (.int (1 : Int32)) ∧ Fr n0 L ∧ h = h0
set_option maxRecDepth 65536 in
set_option maxHeartbeats 40000000 in
theorem rmca2_1 (l : Launch) (Z : State) (a0 : Array Value) (hw : ∀ d ∈ tables_1, d.before a0 Z = true) (ws : List Jvm.Cond) (a1 : Addr) (k1 : ClassId) (vs : List Value) (h0 : Heap) (n0 : Nat) (Z0 : n0 ≤ h0.size) (As : Arv Z h0 a1 k1 .byte (4 : Int32) vs (.int 0)) :
  own_M l Z own_z17 jdk_52_method_15_code 2 (some .byte) ({ frames := 0, cells := 0, slots := 0, locals := 0 } : Room) ws #[(.ref a1), (.int (2 : Int32))] h0 (Qca2_1 Z a1 k1 vs h0 n0) := by
 refine MetFree.of_bodySF (plainFor_of_name pn_k5) hisR ?_
 intro p e s m args below meth c s₁ Bd hml0 hP hK
 obtain ⟨rfl, hZ, hh⟩ := hP
 have hx := Bd.exec
 have hby := Bd.bytes
 have hml : c.maxLocals = 2 := hml0
 have hown : s.vm.findClass "java/lang/StringUTF16" = some m.cls := findClass_of_methodNamed Bd.named
 have hnm := (name_of_methodNamed Bd.named Bd.method).1
 have X0 : Stand p l e ({ frames := 0, cells := 0, slots := 0, locals := 0 } : Room) s m #[(.ref a1), (.int (2 : Int32))] below meth c s₁ [] 0 0 := Stand.of_body Bd
 have e0 : s₁.heap = h0 := by rw [← hh, Bd.state]; rfl
 have N0 := Fr.nil n0
 have pre0 : ∀ t, Steps p.tables e below (s₁.setTop (mkF m 0 #[.val (.ref a1), .val (.int (2 : Int32))] [])) t → Steps p.tables e below (s₁.setTop (entryFrame m #[(.ref a1), (.int (2 : Int32))] 2)) t := fun t k => castTop (ef_gc m a1 (2 : Int32)) k
 have Vc1 := As
 obtain ⟨cl1, Ar1, qq1, sz1, nn1, Ha1, Gf1⟩ := Vc1
 have pre2 : ∀ t, Steps p.tables e below (s₁.setTop (mkF m 8 #[.val (.ref a1), .val (.int (2 : Int32))] [(.int (1 : Int32))])) t → Steps p.tables e below (s₁.setTop (entryFrame m #[(.ref a1), (.int (2 : Int32))] 2)) t := fun t k => pre0 t (by
  show Steps p.tables e below (s₁.setTop (mkF m 0 #[.val (.ref a1), .val (.int (2 : Int32))] [])) _
  refine XS.iloadN X0.here hx rfl (hb hby d17_0) rfl ?_
  refine XS.aloadN X0.here hx rfl (hb hby d17_1) rfl rfl ?_
  refine X0.arraylength hx (by rw [e0]; exact Ar1.1) (State.isArrayOf_alike hZ.alike Ar1.2.1) (g := (mkF m 2 #[.val (.ref a1), .val (.int (2 : Int32))] [(.ref a1), (.int (2 : Int32))])) rfl rfl (hb hby d17_2) _ ?_
  rw [len_of sz1 nn1]
  refine XS.isub X0.here hx rfl (hb hby d17_3) rfl ?_
  show Steps p.tables e below (s₁.setTop (mkF m 4 #[.val (.ref a1), .val (.int (2 : Int32))] [(.int ((2 : Int32) - (4 : Int32)))])) _
  rw [show ((2 : Int32) - (4 : Int32)) = (-2 : Int32) from by decide]
  refine XS.bipush X0.here hx rfl (hb hby d17_4) ?_
  refine XS.iushr X0.here hx rfl (hb hby d17_6) rfl ?_
  show Steps p.tables e below (s₁.setTop (mkF m 7 #[.val (.ref a1), .val (.int (2 : Int32))] [(.int (((-2 : Int32).toUInt32 >>> ((31 : Int32) &&& 31).toUInt32).toInt32))])) _
  rw [show (((-2 : Int32).toUInt32 >>> ((31 : Int32) &&& 31).toUInt32).toInt32) = (1 : Int32) from by decide]
  refine XS.i2b X0.here hx rfl (hb hby d17_7) rfl ?_
  show Steps p.tables e below (s₁.setTop (mkF m 8 #[.val (.ref a1), .val (.int (2 : Int32))] [(.int ((1 : Int32).toInt8.toInt32))])) _
  rw [show ((1 : Int32).toInt8.toInt32) = (1 : Int32) from by decide]
  exact k)
 obtain ⟨fs3, hr3, hrun3, hended3, hW3, hsame3⟩ := X0.leave (v := some (.int (1 : Int32))) (fun h => by rw [Bd.returns] at h; cases h)
 refine ⟨_, _, pre2 _ ?_, hrun3, hended3, _, _, rfl, ?_, ⟨_, rfl⟩, hW3, hsame3.mono (by decide) (by decide)⟩
 ·show Steps p.tables e below (s₁.setTop (mkF m 8 #[.val (.ref a1), .val (.int (2 : Int32))] [(.int (1 : Int32))])) _
  exact retN X0 hx (t := .byte) Bd.returns (by simp) (hb hby d17_8) hr3
 ·show Qca2_1 Z a1 k1 vs h0 n0 _ s₁.heap _
  rw [e0]
  exact ⟨rfl, N0, rfl⟩


def Qca2_0 (Z : State) (a1 : Addr) (k1 : ClassId) (vs : List Value) (h0 : Heap) (n0 : Nat) (v : Option Value) (h : Heap) (L : List Loc) : Prop := v = some (.int (0 : Int32)) ∧ Fr n0 L ∧ h = h0
set_option maxRecDepth 65536 in
set_option maxHeartbeats 40000000 in
theorem rmca2_0 (l : Launch) (Z : State) (a0 : Array Value) (hw : ∀ d ∈ tables_1, d.before a0 Z = true) (ws : List Jvm.Cond) (a1 : Addr) (k1 : ClassId) (vs : List Value) (h0 : Heap) (n0 : Nat) (Z0 : n0 ≤ h0.size) (As : Arv Z h0 a1 k1 .byte (2 : Int32) vs (.int 0)) :
  own_M l Z own_z17 jdk_52_method_15_code 2 (some .byte) ({ frames := 0, cells := 0, slots := 0, locals := 0 } : Room) ws #[(.ref a1), (.int (2 : Int32))] h0 (Qca2_0 Z a1 k1 vs h0 n0) := by
 refine MetFree.of_bodySF (plainFor_of_name pn_k5) hisR ?_
 intro p e s m args below meth c s₁ Bd hml0 hP hK
 obtain ⟨rfl, hZ, hh⟩ := hP
 have hx := Bd.exec
 have hby := Bd.bytes
 have hml : c.maxLocals = 2 := hml0
 have hown : s.vm.findClass "java/lang/StringUTF16" = some m.cls := findClass_of_methodNamed Bd.named
 have hnm := (name_of_methodNamed Bd.named Bd.method).1
 have X0 : Stand p l e ({ frames := 0, cells := 0, slots := 0, locals := 0 } : Room) s m #[(.ref a1), (.int (2 : Int32))] below meth c s₁ [] 0 0 := Stand.of_body Bd
 have e0 : s₁.heap = h0 := by rw [← hh, Bd.state]; rfl
 have N0 := Fr.nil n0
 have pre0 : ∀ t, Steps p.tables e below (s₁.setTop (mkF m 0 #[.val (.ref a1), .val (.int (2 : Int32))] [])) t → Steps p.tables e below (s₁.setTop (entryFrame m #[(.ref a1), (.int (2 : Int32))] 2)) t := fun t k => castTop (ef_gc m a1 (2 : Int32)) k
 have Vc1 := As
 obtain ⟨cl1, Ar1, qq1, sz1, nn1, Ha1, Gf1⟩ := Vc1
 have pre2 : ∀ t, Steps p.tables e below (s₁.setTop (mkF m 8 #[.val (.ref a1), .val (.int (2 : Int32))] [(.int (0 : Int32))])) t → Steps p.tables e below (s₁.setTop (entryFrame m #[(.ref a1), (.int (2 : Int32))] 2)) t := fun t k => pre0 t (by
  show Steps p.tables e below (s₁.setTop (mkF m 0 #[.val (.ref a1), .val (.int (2 : Int32))] [])) _
  refine XS.iloadN X0.here hx rfl (hb hby d17_0) rfl ?_
  refine XS.aloadN X0.here hx rfl (hb hby d17_1) rfl rfl ?_
  refine X0.arraylength hx (by rw [e0]; exact Ar1.1) (State.isArrayOf_alike hZ.alike Ar1.2.1) (g := (mkF m 2 #[.val (.ref a1), .val (.int (2 : Int32))] [(.ref a1), (.int (2 : Int32))])) rfl rfl (hb hby d17_2) _ ?_
  rw [len_of sz1 nn1]
  refine XS.isub X0.here hx rfl (hb hby d17_3) rfl ?_
  show Steps p.tables e below (s₁.setTop (mkF m 4 #[.val (.ref a1), .val (.int (2 : Int32))] [(.int ((2 : Int32) - (2 : Int32)))])) _
  rw [show ((2 : Int32) - (2 : Int32)) = (0 : Int32) from by decide]
  refine XS.bipush X0.here hx rfl (hb hby d17_4) ?_
  refine XS.iushr X0.here hx rfl (hb hby d17_6) rfl ?_
  show Steps p.tables e below (s₁.setTop (mkF m 7 #[.val (.ref a1), .val (.int (2 : Int32))] [(.int (((0 : Int32).toUInt32 >>> ((31 : Int32) &&& 31).toUInt32).toInt32))])) _
  rw [show (((0 : Int32).toUInt32 >>> ((31 : Int32) &&& 31).toUInt32).toInt32) = (0 : Int32) from by decide]
  refine XS.i2b X0.here hx rfl (hb hby d17_7) rfl ?_
  show Steps p.tables e below (s₁.setTop (mkF m 8 #[.val (.ref a1), .val (.int (2 : Int32))] [(.int ((0 : Int32).toInt8.toInt32))])) _
  rw [show ((0 : Int32).toInt8.toInt32) = (0 : Int32) from by decide]
  exact k)
 obtain ⟨fs3, hr3, hrun3, hended3, hW3, hsame3⟩ := X0.leave (v := some (.int (0 : Int32))) (fun h => by rw [Bd.returns] at h; cases h)
 refine ⟨_, _, pre2 _ ?_, hrun3, hended3, _, _, rfl, ?_, ⟨_, rfl⟩, hW3, hsame3.mono (by decide) (by decide)⟩
 ·show Steps p.tables e below (s₁.setTop (mkF m 8 #[.val (.ref a1), .val (.int (2 : Int32))] [(.int (0 : Int32))])) _
  exact retN X0 hx (t := .byte) Bd.returns (by simp) (hb hby d17_8) hr3
 ·show Qca2_0 Z a1 k1 vs h0 n0 _ s₁.heap _
  rw [e0]
  exact ⟨rfl, N0, rfl⟩


def Qtb3 (Z : State) (a1 : Addr) (kc : ClassId) (c0 c1 c2 : Int32) (h0 : Heap) (n0 : Nat) (v : Option Value) (h : Heap) (L : List Loc) : Prop := ∃ b kb, v = some (.ref b) ∧ Fr n0 L ∧ Ext h0 h ∧ Arv Z h b kb .byte (6 : Int32) (StrChars.Road.wideBytes [c0, c1, c2]) (.int 0)
set_option maxRecDepth 65536 in
set_option maxHeartbeats 40000000 in
theorem rmtb3 (l : Launch) (Z : State) (a0 : Array Value) (hw : ∀ d ∈ tables_1, d.before a0 Z = true) (ws : List Jvm.Cond) (a1 : Addr) (kc : ClassId) (c0 c1 c2 : Int32) (h0 : Heap) (n0 : Nat) (Z0 : n0 ≤ h0.size) (Ac : Arv Z h0 a1 kc .char (3 : Int32) ([c0, c1, c2].map Value.int) (.int 0)) (EN : own_env Z h0) :
  own_M l Z own_z14 jdk_52_method_14_code 5 (some (.array .byte)) ({ frames := 2, cells := 1, slots := 6, locals := 24 } : Room) ws #[(.ref a1), (.int (0 : Int32)), (.int (3 : Int32))] h0 (Qtb3 Z a1 kc c0 c1 c2 h0 n0) := by
 refine MetFree.of_bodySF (plainFor_of_name pn_k5) hisR ?_
 intro p e s m args below meth c s₁ Bd hml0 hP hK
 obtain ⟨rfl, hZ, hh⟩ := hP
 have hx := Bd.exec
 have hby := Bd.bytes
 have hml : c.maxLocals = 5 := hml0
 have hown : s.vm.findClass "java/lang/StringUTF16" = some m.cls := findClass_of_methodNamed Bd.named
 have hnm := (name_of_methodNamed Bd.named Bd.method).1
 have X0 : Stand p l e ({ frames := 2, cells := 1, slots := 6, locals := 24 } : Room) s m #[(.ref a1), (.int (0 : Int32)), (.int (3 : Int32))] below meth c s₁ [] 0 0 := Stand.of_body Bd
 have e0 : s₁.heap = h0 := by rw [← hh, Bd.state]; rfl
 have N0 := Fr.nil n0
 have pre0 : ∀ t, Steps p.tables e below (s₁.setTop (mkF m 0 #[.val (.ref a1), .val (.int (0 : Int32)), .val (.int (3 : Int32)), .unset, .unset] [])) t → Steps p.tables e below (s₁.setTop (entryFrame m #[(.ref a1), (.int (0 : Int32)), (.int (3 : Int32))] 5)) t := fun t k => castTop (ef_tb1 m a1 (0 : Int32) (3 : Int32)) k
 obtain ⟨_, _, ⟨T1, L1, k1, n1⟩, -, X1, ⟨Lc1, hQ1, l1, y1, z1⟩, st1⟩ := Jvm.LawKit.callS X0 hx (y := own_z13) hown (mvT hZ (wd91 hw)) (mvT hZ (wd92 hw)) (mvT hZ (wd74 hw)) (mvT hZ (wd93 hw)) (by decide) (backOf (W := 0) (rmbf3 l Z a0 hw [] h0 n0 Z0) hZ (wd93 hw) (wd74 hw) (by decide) (by decide)) (g := (mkF m 1 #[.val (.ref a1), .val (.int (0 : Int32)), .val (.int (3 : Int32)), .unset, .unset] [(.int (3 : Int32))])) rfl (by rw [hml]; rfl) (argsL := [(.int (3 : Int32))]) (rest := []) (lenOf pd_bf1 rfl) rfl (by show 2 * 0 + _ ≤ _; exact Nat.le_of_eq rfl) (hb hby d20_1) (fun _ _ => ⟨rfl, e0, (by decide : 0 + 1 ≤ _), (by decide : 0 + 6 ≤ _)⟩)
 dsimp only [Pt.U, Pt.locs, Pt.cells, Pt.slots] at X1 l1 y1 z1 st1 hQ1
 subst l1 y1 z1
 obtain ⟨b1, kb1, rfl, N1q, E1, gz1, V1⟩ := hQ1
 have N1 := Fr.app N0 N1q
 have Ac_1 := Ac.ext E1
 have EN_1 := EN.ext E1
 have K1 := (Keep.refl h0 []).ext E1
 have nab : a1 ≠ b1 := Nat.ne_of_lt (Nat.lt_of_lt_of_le Ac.lt gz1)
 have Vc2 := Ac_1
 obtain ⟨cl2, Ar2, qq2, sz2, nn2, Ha2, Gf2⟩ := Vc2
 have hin2 : ¬ ((0 : Int32) < 0 ∨ cl2.slots.size ≤ ((0 : Int32)).toNatClampNeg) := inb_of sz2 ⟨by decide, by decide⟩
 obtain ⟨_, _, ⟨T3, L3, k3, n3⟩, -, X3, ⟨Lc3, hQ3, l3, y3, z3⟩, st3⟩ := Jvm.LawKit.callS X1 hx (y := own_z11) hown (mvT hZ (wd98 hw)) (mvT hZ (wd99 hw)) (mvT hZ (wd74 hw)) (mvT hZ (wd100 hw)) (by decide) (backOf (W := 0) (rmpc l Z a0 hw [] b1 kb1 (6 : Int32) [.int 0, .int 0, .int 0, .int 0, .int 0, .int 0] 0 (0 : Int32) c0 T1.heap n0 (Nat.le_trans Z0 E1.1) EN_1 V1 (Nat.le_trans Z0 gz1) ⟨by decide, by decide⟩ ⟨by decide, by decide⟩ (by decide) (by decide) (Nat.le_of_ble_eq_true rfl) (Nat.le_of_ble_eq_true rfl)) hZ (wd100 hw) (wd74 hw) (by decide) (by decide)) (g := (mkF m 20 #[.val (.ref a1), .val (.int (0 : Int32)), .val (.int (3 : Int32)), .val (.ref b1), .val (.int (0 : Int32))] [(.int c0), (.int (0 : Int32)), (.ref b1)])) rfl (by rw [hml]; rfl) (argsL := [(.ref b1), (.int (0 : Int32)), (.int c0)]) (rest := []) (lenOf pd_pc rfl) rfl (by show 2 * 0 + _ ≤ _; exact Nat.le_of_eq rfl) (hb hby d20_20) (fun _ _ => ⟨rfl, rfl, (by decide : 1 + 0 ≤ _), (by decide : 6 + 0 ≤ _)⟩)
 dsimp only [Pt.U, Pt.locs, Pt.cells, Pt.slots] at X3 l3 y3 z3 st3 hQ3
 subst l3 y3 z3
 obtain ⟨rfl, N3q, Kp3, Vn3⟩ := hQ3
 have N3 := Fr.app N1 N3q
 have Ac_3 := Ac_1.keep Kp3 (ninS nab nin0)
 have EN_3 := EN_1.keep Kp3 V1.nostat
 have K3 := K1.trans Kp3 (fun x hx => by cases List.mem_singleton.mp hx; exact Or.inr gz1)
 have Vx3 : Arv Z T3.heap b1 kb1 .byte (6 : Int32) [.int (StrChars.lo8 c0), .int (StrChars.hi8 c0), .int 0, .int 0, .int 0, .int 0] (.int 0) := Vn3
 have Vc4 := Ac_3
 obtain ⟨cl4, Ar4, qq4, sz4, nn4, Ha4, Gf4⟩ := Vc4
 have hin4 : ¬ ((1 : Int32) < 0 ∨ cl4.slots.size ≤ ((1 : Int32)).toNatClampNeg) := inb_of sz4 ⟨by decide, by decide⟩
 obtain ⟨_, _, ⟨T5, L5, k5, n5⟩, -, X5, ⟨Lc5, hQ5, l5, y5, z5⟩, st5⟩ := Jvm.LawKit.callS X3 hx (y := own_z11) hown (mvT hZ (wd98 hw)) (mvT hZ (wd99 hw)) (mvT hZ (wd74 hw)) (mvT hZ (wd100 hw)) (by decide) (backOf (W := 0) (rmpc l Z a0 hw [] b1 kb1 (6 : Int32) [.int (StrChars.lo8 c0), .int (StrChars.hi8 c0), .int 0, .int 0, .int 0, .int 0] 2 (1 : Int32) c1 T3.heap n0 (Nat.le_trans (Nat.le_trans Z0 E1.1) Kp3.1) EN_3 Vx3 (Nat.le_trans Z0 gz1) ⟨by decide, by decide⟩ ⟨by decide, by decide⟩ (by decide) (by decide) (Nat.le_of_ble_eq_true rfl) (Nat.le_of_ble_eq_true rfl)) hZ (wd100 hw) (wd74 hw) (by decide) (by decide)) (g := (mkF m 20 #[.val (.ref a1), .val (.int (1 : Int32)), .val (.int (3 : Int32)), .val (.ref b1), .val (.int (1 : Int32))] [(.int c1), (.int (1 : Int32)), (.ref b1)])) rfl (by rw [hml]; rfl) (argsL := [(.ref b1), (.int (1 : Int32)), (.int c1)]) (rest := []) (lenOf pd_pc rfl) rfl (by show 2 * 0 + _ ≤ _; exact Nat.le_of_eq rfl) (hb hby d20_20) (fun _ _ => ⟨rfl, rfl, (by decide : 1 + 0 ≤ _), (by decide : 6 + 0 ≤ _)⟩)
 dsimp only [Pt.U, Pt.locs, Pt.cells, Pt.slots] at X5 l5 y5 z5 st5 hQ5
 subst l5 y5 z5
 obtain ⟨rfl, N5q, Kp5, Vn5⟩ := hQ5
 have N5 := Fr.app N3 N5q
 have Ac_5 := Ac_3.keep Kp5 (ninS nab nin0)
 have EN_5 := EN_3.keep Kp5 Vx3.nostat
 have K5 := K3.trans Kp5 (fun x hx => by cases List.mem_singleton.mp hx; exact Or.inr gz1)
 have Vx5 : Arv Z T5.heap b1 kb1 .byte (6 : Int32) [.int (StrChars.lo8 c0), .int (StrChars.hi8 c0), .int (StrChars.lo8 c1), .int (StrChars.hi8 c1), .int 0, .int 0] (.int 0) := Vn5
 have Vc6 := Ac_5
 obtain ⟨cl6, Ar6, qq6, sz6, nn6, Ha6, Gf6⟩ := Vc6
 have hin6 : ¬ ((2 : Int32) < 0 ∨ cl6.slots.size ≤ ((2 : Int32)).toNatClampNeg) := inb_of sz6 ⟨by decide, by decide⟩
 obtain ⟨_, _, ⟨T7, L7, k7, n7⟩, -, X7, ⟨Lc7, hQ7, l7, y7, z7⟩, st7⟩ := Jvm.LawKit.callS X5 hx (y := own_z11) hown (mvT hZ (wd98 hw)) (mvT hZ (wd99 hw)) (mvT hZ (wd74 hw)) (mvT hZ (wd100 hw)) (by decide) (backOf (W := 0) (rmpc l Z a0 hw [] b1 kb1 (6 : Int32) [.int (StrChars.lo8 c0), .int (StrChars.hi8 c0), .int (StrChars.lo8 c1), .int (StrChars.hi8 c1), .int 0, .int 0] 4 (2 : Int32) c2 T5.heap n0 (Nat.le_trans (Nat.le_trans (Nat.le_trans Z0 E1.1) Kp3.1) Kp5.1) EN_5 Vx5 (Nat.le_trans Z0 gz1) ⟨by decide, by decide⟩ ⟨by decide, by decide⟩ (by decide) (by decide) (Nat.le_of_ble_eq_true rfl) (Nat.le_of_ble_eq_true rfl)) hZ (wd100 hw) (wd74 hw) (by decide) (by decide)) (g := (mkF m 20 #[.val (.ref a1), .val (.int (2 : Int32)), .val (.int (3 : Int32)), .val (.ref b1), .val (.int (2 : Int32))] [(.int c2), (.int (2 : Int32)), (.ref b1)])) rfl (by rw [hml]; rfl) (argsL := [(.ref b1), (.int (2 : Int32)), (.int c2)]) (rest := []) (lenOf pd_pc rfl) rfl (by show 2 * 0 + _ ≤ _; exact Nat.le_of_eq rfl) (hb hby d20_20) (fun _ _ => ⟨rfl, rfl, (by decide : 1 + 0 ≤ _), (by decide : 6 + 0 ≤ _)⟩)
 dsimp only [Pt.U, Pt.locs, Pt.cells, Pt.slots] at X7 l7 y7 z7 st7 hQ7
 subst l7 y7 z7
 obtain ⟨rfl, N7q, Kp7, Vn7⟩ := hQ7
 have N7 := Fr.app N5 N7q
 have Ac_7 := Ac_5.keep Kp7 (ninS nab nin0)
 have EN_7 := EN_5.keep Kp7 Vx5.nostat
 have K7 := K5.trans Kp7 (fun x hx => by cases List.mem_singleton.mp hx; exact Or.inr gz1)
 have Vx7 : Arv Z T7.heap b1 kb1 .byte (6 : Int32) [.int (StrChars.lo8 c0), .int (StrChars.hi8 c0), .int (StrChars.lo8 c1), .int (StrChars.hi8 c1), .int (StrChars.lo8 c2), .int (StrChars.hi8 c2)] (.int 0) := Vn7
 have pre8 : ∀ t, Steps p.tables e below (T7.setTop (mkF m 33 #[.val (.ref a1), .val (.int (3 : Int32)), .val (.int (3 : Int32)), .val (.ref b1), .val (.int (3 : Int32))] [(.ref b1)])) t → Steps p.tables e below (s₁.setTop (entryFrame m #[(.ref a1), (.int (0 : Int32)), (.int (3 : Int32))] 5)) t := fun t k => pre0 t (by
  show Steps p.tables e below (s₁.setTop (mkF m 0 #[.val (.ref a1), .val (.int (0 : Int32)), .val (.int (3 : Int32)), .unset, .unset] [])) _
  refine XS.iloadN X0.here hx rfl (hb hby d20_0) rfl ?_
  refine st1 _ ?_
  refine XS.astoreN X1.here hx rfl (hb hby d20_4) rfl rfl (l' := #[.val (.ref a1), .val (.int (0 : Int32)), .val (.int (3 : Int32)), .val (.ref b1), .unset]) rfl ?_
  refine XS.iconst X1.here hx rfl (hb hby d20_5) ?_
  refine XS.istore X1.here hx rfl (hb hby d20_6) rfl (l' := #[.val (.ref a1), .val (.int (0 : Int32)), .val (.int (3 : Int32)), .val (.ref b1), .val (.int (0 : Int32))]) rfl ?_
  refine XS.iload X1.here hx rfl (hb hby d20_8) rfl ?_
  refine XS.iloadN X1.here hx rfl (hb hby d20_10) rfl ?_
  refine XS.icmpNo X1.here hx rfl (hb hby d20_11) rfl (tlt (by decide : (0 : Int32) < (3 : Int32))).2.1 ?_
  refine XS.aloadN X1.here hx rfl (hb hby d20_14) rfl rfl ?_
  refine XS.iload X1.here hx rfl (hb hby d20_15) rfl ?_
  refine XS.aloadN X1.here hx rfl (hb hby d20_17) rfl rfl ?_
  refine XS.iloadN X1.here hx rfl (hb hby d20_18) rfl ?_
  refine X1.caload hx (j := (0 : Int32)) (v := (.int c0)) Ar2.1 (State.isArrayOf_alike hZ.alike Ar2.2.1) Ar2.2.2 hin2 (Has.at Ha2 hin2 rfl) (g := (mkF m 19 #[.val (.ref a1), .val (.int (0 : Int32)), .val (.int (3 : Int32)), .val (.ref b1), .val (.int (0 : Int32))] [(.int (0 : Int32)), (.ref a1), (.int (0 : Int32)), (.ref b1)])) rfl rfl (hb hby d20_19) _ ?_
  refine st3 _ ?_
  refine XS.iinc X3.here hx rfl (hb hby d20_23) rfl (l' := #[.val (.ref a1), .val (.int ((0 : Int32) + (1 : Int32))), .val (.int (3 : Int32)), .val (.ref b1), .val (.int (0 : Int32))]) rfl ?_
  show Steps p.tables e below (T3.setTop (mkF m 26 #[.val (.ref a1), .val (.int ((0 : Int32) + (1 : Int32))), .val (.int (3 : Int32)), .val (.ref b1), .val (.int (0 : Int32))] [])) _
  rw [show ((0 : Int32) + (1 : Int32)) = (1 : Int32) from by decide]
  refine XS.iinc X3.here hx rfl (hb hby d20_26) rfl (l' := #[.val (.ref a1), .val (.int (1 : Int32)), .val (.int (3 : Int32)), .val (.ref b1), .val (.int ((0 : Int32) + (1 : Int32)))]) rfl ?_
  show Steps p.tables e below (T3.setTop (mkF m 29 #[.val (.ref a1), .val (.int (1 : Int32)), .val (.int (3 : Int32)), .val (.ref b1), .val (.int ((0 : Int32) + (1 : Int32)))] [])) _
  rw [show ((0 : Int32) + (1 : Int32)) = (1 : Int32) from by decide]
  refine XS.goto X3.here hx rfl (pc0 := 29) (pc' := 8) rfl (hb hby d20_29) (by decide) (by decide) ?_
  refine XS.iload X3.here hx rfl (hb hby d20_8) rfl ?_
  refine XS.iloadN X3.here hx rfl (hb hby d20_10) rfl ?_
  refine XS.icmpNo X3.here hx rfl (hb hby d20_11) rfl (tlt (by decide : (1 : Int32) < (3 : Int32))).2.1 ?_
  refine XS.aloadN X3.here hx rfl (hb hby d20_14) rfl rfl ?_
  refine XS.iload X3.here hx rfl (hb hby d20_15) rfl ?_
  refine XS.aloadN X3.here hx rfl (hb hby d20_17) rfl rfl ?_
  refine XS.iloadN X3.here hx rfl (hb hby d20_18) rfl ?_
  refine X3.caload hx (j := (1 : Int32)) (v := (.int c1)) Ar4.1 (State.isArrayOf_alike hZ.alike Ar4.2.1) Ar4.2.2 hin4 (Has.at Ha4 hin4 rfl) (g := (mkF m 19 #[.val (.ref a1), .val (.int (1 : Int32)), .val (.int (3 : Int32)), .val (.ref b1), .val (.int (1 : Int32))] [(.int (1 : Int32)), (.ref a1), (.int (1 : Int32)), (.ref b1)])) rfl rfl (hb hby d20_19) _ ?_
  refine st5 _ ?_
  refine XS.iinc X5.here hx rfl (hb hby d20_23) rfl (l' := #[.val (.ref a1), .val (.int ((1 : Int32) + (1 : Int32))), .val (.int (3 : Int32)), .val (.ref b1), .val (.int (1 : Int32))]) rfl ?_
  show Steps p.tables e below (T5.setTop (mkF m 26 #[.val (.ref a1), .val (.int ((1 : Int32) + (1 : Int32))), .val (.int (3 : Int32)), .val (.ref b1), .val (.int (1 : Int32))] [])) _
  rw [show ((1 : Int32) + (1 : Int32)) = (2 : Int32) from by decide]
  refine XS.iinc X5.here hx rfl (hb hby d20_26) rfl (l' := #[.val (.ref a1), .val (.int (2 : Int32)), .val (.int (3 : Int32)), .val (.ref b1), .val (.int ((1 : Int32) + (1 : Int32)))]) rfl ?_
  show Steps p.tables e below (T5.setTop (mkF m 29 #[.val (.ref a1), .val (.int (2 : Int32)), .val (.int (3 : Int32)), .val (.ref b1), .val (.int ((1 : Int32) + (1 : Int32)))] [])) _
  rw [show ((1 : Int32) + (1 : Int32)) = (2 : Int32) from by decide]
  refine XS.goto X5.here hx rfl (pc0 := 29) (pc' := 8) rfl (hb hby d20_29) (by decide) (by decide) ?_
  refine XS.iload X5.here hx rfl (hb hby d20_8) rfl ?_
  refine XS.iloadN X5.here hx rfl (hb hby d20_10) rfl ?_
  refine XS.icmpNo X5.here hx rfl (hb hby d20_11) rfl (tlt (by decide : (2 : Int32) < (3 : Int32))).2.1 ?_
  refine XS.aloadN X5.here hx rfl (hb hby d20_14) rfl rfl ?_
  refine XS.iload X5.here hx rfl (hb hby d20_15) rfl ?_
  refine XS.aloadN X5.here hx rfl (hb hby d20_17) rfl rfl ?_
  refine XS.iloadN X5.here hx rfl (hb hby d20_18) rfl ?_
  refine X5.caload hx (j := (2 : Int32)) (v := (.int c2)) Ar6.1 (State.isArrayOf_alike hZ.alike Ar6.2.1) Ar6.2.2 hin6 (Has.at Ha6 hin6 rfl) (g := (mkF m 19 #[.val (.ref a1), .val (.int (2 : Int32)), .val (.int (3 : Int32)), .val (.ref b1), .val (.int (2 : Int32))] [(.int (2 : Int32)), (.ref a1), (.int (2 : Int32)), (.ref b1)])) rfl rfl (hb hby d20_19) _ ?_
  refine st7 _ ?_
  refine XS.iinc X7.here hx rfl (hb hby d20_23) rfl (l' := #[.val (.ref a1), .val (.int ((2 : Int32) + (1 : Int32))), .val (.int (3 : Int32)), .val (.ref b1), .val (.int (2 : Int32))]) rfl ?_
  show Steps p.tables e below (T7.setTop (mkF m 26 #[.val (.ref a1), .val (.int ((2 : Int32) + (1 : Int32))), .val (.int (3 : Int32)), .val (.ref b1), .val (.int (2 : Int32))] [])) _
  rw [show ((2 : Int32) + (1 : Int32)) = (3 : Int32) from by decide]
  refine XS.iinc X7.here hx rfl (hb hby d20_26) rfl (l' := #[.val (.ref a1), .val (.int (3 : Int32)), .val (.int (3 : Int32)), .val (.ref b1), .val (.int ((2 : Int32) + (1 : Int32)))]) rfl ?_
  show Steps p.tables e below (T7.setTop (mkF m 29 #[.val (.ref a1), .val (.int (3 : Int32)), .val (.int (3 : Int32)), .val (.ref b1), .val (.int ((2 : Int32) + (1 : Int32)))] [])) _
  rw [show ((2 : Int32) + (1 : Int32)) = (3 : Int32) from by decide]
  refine XS.goto X7.here hx rfl (pc0 := 29) (pc' := 8) rfl (hb hby d20_29) (by decide) (by decide) ?_
  refine XS.iload X7.here hx rfl (hb hby d20_8) rfl ?_
  refine XS.iloadN X7.here hx rfl (hb hby d20_10) rfl ?_
  refine XS.icmpYes X7.here hx rfl (pc0 := 11) (pc' := 32) rfl (hb hby d20_11) rfl (flt (by decide : ¬ ((3 : Int32) < (3 : Int32)))).2.1 (by decide) (by decide) ?_
  refine XS.aloadN X7.here hx rfl (hb hby d20_32) rfl rfl ?_
  exact k)
 obtain ⟨fs9, hr9, hrun9, hended9, hW9, hsame9⟩ := X7.leave (v := some (.ref b1)) (fun h => by rw [Bd.returns] at h; cases h)
 refine ⟨_, _, pre8 _ ?_, hrun9, hended9, _, _, rfl, ?_, ⟨_, rfl⟩, hW9, hsame9.mono (by decide) (by decide)⟩
 ·show Steps p.tables e below (T7.setTop (mkF m 33 #[.val (.ref a1), .val (.int (3 : Int32)), .val (.int (3 : Int32)), .val (.ref b1), .val (.int (3 : Int32))] [(.ref b1)])) _
  exact retOut X7 hx (t := (.array .byte)) Bd.returns rfl (Or.inr (Or.inr (Or.inr (Or.inr ⟨rfl, rfl, rfl⟩)))) (hb hby d20_33) hr9
 ·show Qtb3 Z a1 kc c0 c1 c2 h0 n0 _ T7.heap _
  exact ⟨_, _, rfl, N7, own_ext K7, Vx7⟩


def Qcp3 (Z : State) (a1 a2 : Addr) (kc kd : ClassId) (c0 c1 c2 : Int32) (h0 : Heap) (n0 : Nat) (v : Option Value) (h : Heap) (L : List Loc) : Prop := ∃ j : Int32, v = some (.int j) ∧ Fr n0 L ∧ Keep h0 h [a2] ∧ ((j = (0 : Int32) ∧ (255 : Int32) < c0) ∨ (j = (1 : Int32) ∧ (255 : Int32) < c1) ∨ (j = (2 : Int32) ∧ (255 : Int32) < c2) ∨ (j = (3 : Int32) ∧ (¬ (255 : Int32) < c0 ∧ ¬ (255 : Int32) < c1 ∧ ¬ (255 : Int32) < c2) ∧ Arv Z h a2 kd .byte (3 : Int32) ([c0, c1, c2].map fun c => Value.int (StrChars.lo8 c)) (.int 0)))
set_option maxRecDepth 65536 in
set_option maxHeartbeats 40000000 in
theorem rmcp3 (l : Launch) (Z : State) (a0 : Array Value) (hw : ∀ d ∈ tables_1, d.before a0 Z = true) (ws : List Jvm.Cond) (a1 a2 : Addr) (kc kd : ClassId) (c0 c1 c2 : Int32) (h0 : Heap) (n0 : Nat) (Z0 : n0 ≤ h0.size) (Ac : Arv Z h0 a1 kc .char (3 : Int32) ([c0, c1, c2].map Value.int) (.int 0)) (Vd : Arv Z h0 a2 kd .byte (3 : Int32) [.int 0, .int 0, .int 0] (.int 0)) (hne : a1 ≠ a2) (gd : n0 ≤ a2) :
  own_M l Z own_z15 jdk_52_method_21_code 7 (some .int) ({ frames := 0, cells := 0, slots := 0, locals := 0 } : Room) ws #[(.ref a1), (.int (0 : Int32)), (.ref a2), (.int (0 : Int32)), (.int (3 : Int32))] h0 (Qcp3 Z a1 a2 kc kd c0 c1 c2 h0 n0) := by
 refine MetFree.of_bodySF (plainFor_of_name pn_k5) hisR ?_
 intro p e s m args below meth c s₁ Bd hml0 hP hK
 obtain ⟨rfl, hZ, hh⟩ := hP
 have hx := Bd.exec
 have hby := Bd.bytes
 have hml : c.maxLocals = 7 := hml0
 have hown : s.vm.findClass "java/lang/StringUTF16" = some m.cls := findClass_of_methodNamed Bd.named
 have hnm := (name_of_methodNamed Bd.named Bd.method).1
 have X0 : Stand p l e ({ frames := 0, cells := 0, slots := 0, locals := 0 } : Room) s m #[(.ref a1), (.int (0 : Int32)), (.ref a2), (.int (0 : Int32)), (.int (3 : Int32))] below meth c s₁ [] 0 0 := Stand.of_body Bd
 have e0 : s₁.heap = h0 := by rw [← hh, Bd.state]; rfl
 have N0 := Fr.nil n0
 have pre0 : ∀ t, Steps p.tables e below (s₁.setTop (mkF m 0 #[.val (.ref a1), .val (.int (0 : Int32)), .val (.ref a2), .val (.int (0 : Int32)), .val (.int (3 : Int32)), .unset, .unset] [])) t → Steps p.tables e below (s₁.setTop (entryFrame m #[(.ref a1), (.int (0 : Int32)), (.ref a2), (.int (0 : Int32)), (.int (3 : Int32))] 7)) t := fun t k => castTop (ef_cp1 m a1 (0 : Int32) a2 (0 : Int32) (3 : Int32)) k
 have Vc1 := Ac
 obtain ⟨cl1, Ar1, qq1, sz1, nn1, Ha1, Gf1⟩ := Vc1
 have hin1 : ¬ ((0 : Int32) < 0 ∨ cl1.slots.size ≤ ((0 : Int32)).toNatClampNeg) := inb_of sz1 ⟨by decide, by decide⟩
 have pre2 : ∀ t, Steps p.tables e below (s₁.setTop (mkF m 20 #[.val (.ref a1), .val (.int (0 : Int32)), .val (.ref a2), .val (.int (0 : Int32)), .val (.int (3 : Int32)), .val (.int (0 : Int32)), .val (.int c0)] [(.int (255 : Int32)), (.int c0)])) t → Steps p.tables e below (s₁.setTop (entryFrame m #[(.ref a1), (.int (0 : Int32)), (.ref a2), (.int (0 : Int32)), (.int (3 : Int32))] 7)) t := fun t k => pre0 t (by
  show Steps p.tables e below (s₁.setTop (mkF m 0 #[.val (.ref a1), .val (.int (0 : Int32)), .val (.ref a2), .val (.int (0 : Int32)), .val (.int (3 : Int32)), .unset, .unset] [])) _
  refine XS.iconst X0.here hx rfl (hb hby d16_0) ?_
  refine XS.istore X0.here hx rfl (hb hby d16_1) rfl (l' := #[.val (.ref a1), .val (.int (0 : Int32)), .val (.ref a2), .val (.int (0 : Int32)), .val (.int (3 : Int32)), .val (.int (0 : Int32)), .unset]) rfl ?_
  refine XS.iload X0.here hx rfl (hb hby d16_3) rfl ?_
  refine XS.iload X0.here hx rfl (hb hby d16_5) rfl ?_
  refine XS.icmpNo X0.here hx rfl (hb hby d16_7) rfl (tlt (by decide : (0 : Int32) < (3 : Int32))).2.1 ?_
  refine XS.aloadN X0.here hx rfl (hb hby d16_10) rfl rfl ?_
  refine XS.iloadN X0.here hx rfl (hb hby d16_11) rfl ?_
  refine X0.caload hx (j := (0 : Int32)) (v := (.int c0)) (by rw [e0]; exact Ar1.1) (State.isArrayOf_alike hZ.alike Ar1.2.1) Ar1.2.2 hin1 (Has.at Ha1 hin1 rfl) (g := (mkF m 12 #[.val (.ref a1), .val (.int (0 : Int32)), .val (.ref a2), .val (.int (0 : Int32)), .val (.int (3 : Int32)), .val (.int (0 : Int32)), .unset] [(.int (0 : Int32)), (.ref a1)])) rfl rfl (hb hby d16_12) _ ?_
  refine XS.istore X0.here hx rfl (hb hby d16_13) rfl (l' := #[.val (.ref a1), .val (.int (0 : Int32)), .val (.ref a2), .val (.int (0 : Int32)), .val (.int (3 : Int32)), .val (.int (0 : Int32)), .val (.int c0)]) rfl ?_
  refine XS.iload X0.here hx rfl (hb hby d16_15) rfl ?_
  refine XS.sipush X0.here hx rfl (hb hby d16_17) ?_
  exact k)
 by_cases hc20 : (255 : Int32) < c0
 ·have pre3 : ∀ t, Steps p.tables e below (s₁.setTop (mkF m 25 #[.val (.ref a1), .val (.int (0 : Int32)), .val (.ref a2), .val (.int (0 : Int32)), .val (.int (3 : Int32)), .val (.int (0 : Int32)), .val (.int c0)] [(.int (0 : Int32))])) t → Steps p.tables e below (s₁.setTop (entryFrame m #[(.ref a1), (.int (0 : Int32)), (.ref a2), (.int (0 : Int32)), (.int (3 : Int32))] 7)) t := fun t k => pre2 t (by
   show Steps p.tables e below (s₁.setTop (mkF m 20 #[.val (.ref a1), .val (.int (0 : Int32)), .val (.ref a2), .val (.int (0 : Int32)), .val (.int (3 : Int32)), .val (.int (0 : Int32)), .val (.int c0)] [(.int (255 : Int32)), (.int c0)])) _
   refine XS.icmpNo X0.here hx rfl (hb hby d16_20) rfl (tlt hc20).2.2.2 ?_
   refine XS.iload X0.here hx rfl (hb hby d16_23) rfl ?_
   exact k)
  obtain ⟨fs4, hr4, hrun4, hended4, hW4, hsame4⟩ := X0.leave (v := some (.int (0 : Int32))) (fun h => by rw [Bd.returns] at h; cases h)
  refine ⟨_, _, pre3 _ ?_, hrun4, hended4, _, _, rfl, ?_, ⟨_, rfl⟩, hW4, hsame4.mono (by decide) (by decide)⟩
  ·show Steps p.tables e below (s₁.setTop (mkF m 25 #[.val (.ref a1), .val (.int (0 : Int32)), .val (.ref a2), .val (.int (0 : Int32)), .val (.int (3 : Int32)), .val (.int (0 : Int32)), .val (.int c0)] [(.int (0 : Int32))])) _
   exact retOut X0 hx (t := .int) Bd.returns rfl (Or.inl ⟨rfl, Or.inl rfl, _, rfl⟩) (hb hby d16_25) hr4
  ·show Qcp3 Z a1 a2 kc kd c0 c1 c2 h0 n0 _ s₁.heap _
   rw [e0]
   exact ⟨_, rfl, N0, (Keep.refl h0 [a2]), Or.inl ⟨rfl, hc20⟩⟩
 have Vc5 := Vd
 obtain ⟨cl5, Ar5, qq5, sz5, nn5, Ha5, Gf5⟩ := Vc5
 have hin5 : ¬ ((0 : Int32) < 0 ∨ cl5.slots.size ≤ ((0 : Int32)).toNatClampNeg) := inb_of sz5 ⟨by decide, by decide⟩
 obtain ⟨T6, h6, X6, e6, W6, st6⟩ := stB X0 hx hZ e0 Ar5 (j := (0 : Int32)) hin5 (g := (mkF m 31 #[.val (.ref a1), .val (.int (0 : Int32)), .val (.ref a2), .val (.int (0 : Int32)), .val (.int (3 : Int32)), .val (.int (0 : Int32)), .val (.int c0)] [(.int (c0.toInt8.toInt32)), (.int (0 : Int32)), (.ref a2)])) rfl rfl (hb hby d16_31)
 have N6 := Fr.snoc X6 N0 gd
 have Ac_6 := Ac.other W6 hne
 have Vd_6 := Arv.set Ar5 qq5 sz5 nn5 Ha5 Gf5 (fits_nar_byte _) W6 0 rfl (Nat.le_of_ble_eq_true rfl)
 have Vc7 := Ac_6
 obtain ⟨cl7, Ar7, qq7, sz7, nn7, Ha7, Gf7⟩ := Vc7
 have hin7 : ¬ ((1 : Int32) < 0 ∨ cl7.slots.size ≤ ((1 : Int32)).toNatClampNeg) := inb_of sz7 ⟨by decide, by decide⟩
 have pre8 : ∀ t, Steps p.tables e below (T6.setTop (mkF m 20 #[.val (.ref a1), .val (.int (1 : Int32)), .val (.ref a2), .val (.int (1 : Int32)), .val (.int (3 : Int32)), .val (.int (1 : Int32)), .val (.int c1)] [(.int (255 : Int32)), (.int c1)])) t → Steps p.tables e below (s₁.setTop (entryFrame m #[(.ref a1), (.int (0 : Int32)), (.ref a2), (.int (0 : Int32)), (.int (3 : Int32))] 7)) t := fun t k => pre2 t (by
  show Steps p.tables e below (s₁.setTop (mkF m 20 #[.val (.ref a1), .val (.int (0 : Int32)), .val (.ref a2), .val (.int (0 : Int32)), .val (.int (3 : Int32)), .val (.int (0 : Int32)), .val (.int c0)] [(.int (255 : Int32)), (.int c0)])) _
  refine XS.icmpYes X0.here hx rfl (pc0 := 20) (pc' := 26) rfl (hb hby d16_20) rfl (flt hc20).2.2.2 (by decide) (by decide) ?_
  refine XS.aloadN X0.here hx rfl (hb hby d16_26) rfl rfl ?_
  refine XS.iloadN X0.here hx rfl (hb hby d16_27) rfl ?_
  refine XS.iload X0.here hx rfl (hb hby d16_28) rfl ?_
  refine XS.i2b X0.here hx rfl (hb hby d16_30) rfl ?_
  refine st6 _ ?_
  refine XS.iinc X6.here hx rfl (hb hby d16_32) rfl (l' := #[.val (.ref a1), .val (.int ((0 : Int32) + (1 : Int32))), .val (.ref a2), .val (.int (0 : Int32)), .val (.int (3 : Int32)), .val (.int (0 : Int32)), .val (.int c0)]) rfl ?_
  show Steps p.tables e below (T6.setTop (mkF m 35 #[.val (.ref a1), .val (.int ((0 : Int32) + (1 : Int32))), .val (.ref a2), .val (.int (0 : Int32)), .val (.int (3 : Int32)), .val (.int (0 : Int32)), .val (.int c0)] [])) _
  rw [show ((0 : Int32) + (1 : Int32)) = (1 : Int32) from by decide]
  refine XS.iinc X6.here hx rfl (hb hby d16_35) rfl (l' := #[.val (.ref a1), .val (.int (1 : Int32)), .val (.ref a2), .val (.int ((0 : Int32) + (1 : Int32))), .val (.int (3 : Int32)), .val (.int (0 : Int32)), .val (.int c0)]) rfl ?_
  show Steps p.tables e below (T6.setTop (mkF m 38 #[.val (.ref a1), .val (.int (1 : Int32)), .val (.ref a2), .val (.int ((0 : Int32) + (1 : Int32))), .val (.int (3 : Int32)), .val (.int (0 : Int32)), .val (.int c0)] [])) _
  rw [show ((0 : Int32) + (1 : Int32)) = (1 : Int32) from by decide]
  refine XS.iinc X6.here hx rfl (hb hby d16_38) rfl (l' := #[.val (.ref a1), .val (.int (1 : Int32)), .val (.ref a2), .val (.int (1 : Int32)), .val (.int (3 : Int32)), .val (.int ((0 : Int32) + (1 : Int32))), .val (.int c0)]) rfl ?_
  show Steps p.tables e below (T6.setTop (mkF m 41 #[.val (.ref a1), .val (.int (1 : Int32)), .val (.ref a2), .val (.int (1 : Int32)), .val (.int (3 : Int32)), .val (.int ((0 : Int32) + (1 : Int32))), .val (.int c0)] [])) _
  rw [show ((0 : Int32) + (1 : Int32)) = (1 : Int32) from by decide]
  refine XS.goto X6.here hx rfl (pc0 := 41) (pc' := 3) rfl (hb hby d16_41) (by decide) (by decide) ?_
  refine XS.iload X6.here hx rfl (hb hby d16_3) rfl ?_
  refine XS.iload X6.here hx rfl (hb hby d16_5) rfl ?_
  refine XS.icmpNo X6.here hx rfl (hb hby d16_7) rfl (tlt (by decide : (1 : Int32) < (3 : Int32))).2.1 ?_
  refine XS.aloadN X6.here hx rfl (hb hby d16_10) rfl rfl ?_
  refine XS.iloadN X6.here hx rfl (hb hby d16_11) rfl ?_
  refine X6.caload hx (j := (1 : Int32)) (v := (.int c1)) (by rw [e6]; exact Ar7.1) (State.isArrayOf_alike hZ.alike Ar7.2.1) Ar7.2.2 hin7 (Has.at Ha7 hin7 rfl) (g := (mkF m 12 #[.val (.ref a1), .val (.int (1 : Int32)), .val (.ref a2), .val (.int (1 : Int32)), .val (.int (3 : Int32)), .val (.int (1 : Int32)), .val (.int c0)] [(.int (1 : Int32)), (.ref a1)])) rfl rfl (hb hby d16_12) _ ?_
  refine XS.istore X6.here hx rfl (hb hby d16_13) rfl (l' := #[.val (.ref a1), .val (.int (1 : Int32)), .val (.ref a2), .val (.int (1 : Int32)), .val (.int (3 : Int32)), .val (.int (1 : Int32)), .val (.int c1)]) rfl ?_
  refine XS.iload X6.here hx rfl (hb hby d16_15) rfl ?_
  refine XS.sipush X6.here hx rfl (hb hby d16_17) ?_
  exact k)
 by_cases hc20_9 : (255 : Int32) < c1
 ·have pre10 : ∀ t, Steps p.tables e below (T6.setTop (mkF m 25 #[.val (.ref a1), .val (.int (1 : Int32)), .val (.ref a2), .val (.int (1 : Int32)), .val (.int (3 : Int32)), .val (.int (1 : Int32)), .val (.int c1)] [(.int (1 : Int32))])) t → Steps p.tables e below (s₁.setTop (entryFrame m #[(.ref a1), (.int (0 : Int32)), (.ref a2), (.int (0 : Int32)), (.int (3 : Int32))] 7)) t := fun t k => pre8 t (by
   show Steps p.tables e below (T6.setTop (mkF m 20 #[.val (.ref a1), .val (.int (1 : Int32)), .val (.ref a2), .val (.int (1 : Int32)), .val (.int (3 : Int32)), .val (.int (1 : Int32)), .val (.int c1)] [(.int (255 : Int32)), (.int c1)])) _
   refine XS.icmpNo X6.here hx rfl (hb hby d16_20) rfl (tlt hc20_9).2.2.2 ?_
   refine XS.iload X6.here hx rfl (hb hby d16_23) rfl ?_
   exact k)
  obtain ⟨fs11, hr11, hrun11, hended11, hW11, hsame11⟩ := X6.leave (v := some (.int (1 : Int32))) (fun h => by rw [Bd.returns] at h; cases h)
  refine ⟨_, _, pre10 _ ?_, hrun11, hended11, _, _, rfl, ?_, ⟨_, rfl⟩, hW11, hsame11.mono (by decide) (by decide)⟩
  ·show Steps p.tables e below (T6.setTop (mkF m 25 #[.val (.ref a1), .val (.int (1 : Int32)), .val (.ref a2), .val (.int (1 : Int32)), .val (.int (3 : Int32)), .val (.int (1 : Int32)), .val (.int c1)] [(.int (1 : Int32))])) _
   exact retOut X6 hx (t := .int) Bd.returns rfl (Or.inl ⟨rfl, Or.inl rfl, _, rfl⟩) (hb hby d16_25) hr11
  ·show Qcp3 Z a1 a2 kc kd c0 c1 c2 h0 n0 _ T6.heap _
   rw [e6]
   exact ⟨_, rfl, N6, ((Keep.refl h0 [a2]).wr W6 (Or.inl (List.mem_singleton.mpr rfl))), Or.inr (Or.inl ⟨rfl, hc20_9⟩)⟩
 have Vc12 := Vd_6
 obtain ⟨cl12, Ar12, qq12, sz12, nn12, Ha12, Gf12⟩ := Vc12
 have hin12 : ¬ ((1 : Int32) < 0 ∨ cl12.slots.size ≤ ((1 : Int32)).toNatClampNeg) := inb_of sz12 ⟨by decide, by decide⟩
 obtain ⟨T13, h13, X13, e13, W13, st13⟩ := stB X6 hx hZ e6 Ar12 (j := (1 : Int32)) hin12 (g := (mkF m 31 #[.val (.ref a1), .val (.int (1 : Int32)), .val (.ref a2), .val (.int (1 : Int32)), .val (.int (3 : Int32)), .val (.int (1 : Int32)), .val (.int c1)] [(.int (c1.toInt8.toInt32)), (.int (1 : Int32)), (.ref a2)])) rfl rfl (hb hby d16_31)
 have N13 := Fr.snoc X13 N6 gd
 have Ac_13 := Ac_6.other W13 hne
 have Vd_13 := Arv.set Ar12 qq12 sz12 nn12 Ha12 Gf12 (fits_nar_byte _) W13 1 rfl (Nat.le_of_ble_eq_true rfl)
 have Vc14 := Ac_13
 obtain ⟨cl14, Ar14, qq14, sz14, nn14, Ha14, Gf14⟩ := Vc14
 have hin14 : ¬ ((2 : Int32) < 0 ∨ cl14.slots.size ≤ ((2 : Int32)).toNatClampNeg) := inb_of sz14 ⟨by decide, by decide⟩
 have pre15 : ∀ t, Steps p.tables e below (T13.setTop (mkF m 20 #[.val (.ref a1), .val (.int (2 : Int32)), .val (.ref a2), .val (.int (2 : Int32)), .val (.int (3 : Int32)), .val (.int (2 : Int32)), .val (.int c2)] [(.int (255 : Int32)), (.int c2)])) t → Steps p.tables e below (s₁.setTop (entryFrame m #[(.ref a1), (.int (0 : Int32)), (.ref a2), (.int (0 : Int32)), (.int (3 : Int32))] 7)) t := fun t k => pre8 t (by
  show Steps p.tables e below (T6.setTop (mkF m 20 #[.val (.ref a1), .val (.int (1 : Int32)), .val (.ref a2), .val (.int (1 : Int32)), .val (.int (3 : Int32)), .val (.int (1 : Int32)), .val (.int c1)] [(.int (255 : Int32)), (.int c1)])) _
  refine XS.icmpYes X6.here hx rfl (pc0 := 20) (pc' := 26) rfl (hb hby d16_20) rfl (flt hc20_9).2.2.2 (by decide) (by decide) ?_
  refine XS.aloadN X6.here hx rfl (hb hby d16_26) rfl rfl ?_
  refine XS.iloadN X6.here hx rfl (hb hby d16_27) rfl ?_
  refine XS.iload X6.here hx rfl (hb hby d16_28) rfl ?_
  refine XS.i2b X6.here hx rfl (hb hby d16_30) rfl ?_
  refine st13 _ ?_
  refine XS.iinc X13.here hx rfl (hb hby d16_32) rfl (l' := #[.val (.ref a1), .val (.int ((1 : Int32) + (1 : Int32))), .val (.ref a2), .val (.int (1 : Int32)), .val (.int (3 : Int32)), .val (.int (1 : Int32)), .val (.int c1)]) rfl ?_
  show Steps p.tables e below (T13.setTop (mkF m 35 #[.val (.ref a1), .val (.int ((1 : Int32) + (1 : Int32))), .val (.ref a2), .val (.int (1 : Int32)), .val (.int (3 : Int32)), .val (.int (1 : Int32)), .val (.int c1)] [])) _
  rw [show ((1 : Int32) + (1 : Int32)) = (2 : Int32) from by decide]
  refine XS.iinc X13.here hx rfl (hb hby d16_35) rfl (l' := #[.val (.ref a1), .val (.int (2 : Int32)), .val (.ref a2), .val (.int ((1 : Int32) + (1 : Int32))), .val (.int (3 : Int32)), .val (.int (1 : Int32)), .val (.int c1)]) rfl ?_
  show Steps p.tables e below (T13.setTop (mkF m 38 #[.val (.ref a1), .val (.int (2 : Int32)), .val (.ref a2), .val (.int ((1 : Int32) + (1 : Int32))), .val (.int (3 : Int32)), .val (.int (1 : Int32)), .val (.int c1)] [])) _
  rw [show ((1 : Int32) + (1 : Int32)) = (2 : Int32) from by decide]
  refine XS.iinc X13.here hx rfl (hb hby d16_38) rfl (l' := #[.val (.ref a1), .val (.int (2 : Int32)), .val (.ref a2), .val (.int (2 : Int32)), .val (.int (3 : Int32)), .val (.int ((1 : Int32) + (1 : Int32))), .val (.int c1)]) rfl ?_
  show Steps p.tables e below (T13.setTop (mkF m 41 #[.val (.ref a1), .val (.int (2 : Int32)), .val (.ref a2), .val (.int (2 : Int32)), .val (.int (3 : Int32)), .val (.int ((1 : Int32) + (1 : Int32))), .val (.int c1)] [])) _
  rw [show ((1 : Int32) + (1 : Int32)) = (2 : Int32) from by decide]
  refine XS.goto X13.here hx rfl (pc0 := 41) (pc' := 3) rfl (hb hby d16_41) (by decide) (by decide) ?_
  refine XS.iload X13.here hx rfl (hb hby d16_3) rfl ?_
  refine XS.iload X13.here hx rfl (hb hby d16_5) rfl ?_
  refine XS.icmpNo X13.here hx rfl (hb hby d16_7) rfl (tlt (by decide : (2 : Int32) < (3 : Int32))).2.1 ?_
  refine XS.aloadN X13.here hx rfl (hb hby d16_10) rfl rfl ?_
  refine XS.iloadN X13.here hx rfl (hb hby d16_11) rfl ?_
  refine X13.caload hx (j := (2 : Int32)) (v := (.int c2)) (by rw [e13]; exact Ar14.1) (State.isArrayOf_alike hZ.alike Ar14.2.1) Ar14.2.2 hin14 (Has.at Ha14 hin14 rfl) (g := (mkF m 12 #[.val (.ref a1), .val (.int (2 : Int32)), .val (.ref a2), .val (.int (2 : Int32)), .val (.int (3 : Int32)), .val (.int (2 : Int32)), .val (.int c1)] [(.int (2 : Int32)), (.ref a1)])) rfl rfl (hb hby d16_12) _ ?_
  refine XS.istore X13.here hx rfl (hb hby d16_13) rfl (l' := #[.val (.ref a1), .val (.int (2 : Int32)), .val (.ref a2), .val (.int (2 : Int32)), .val (.int (3 : Int32)), .val (.int (2 : Int32)), .val (.int c2)]) rfl ?_
  refine XS.iload X13.here hx rfl (hb hby d16_15) rfl ?_
  refine XS.sipush X13.here hx rfl (hb hby d16_17) ?_
  exact k)
 by_cases hc20_16 : (255 : Int32) < c2
 ·have pre17 : ∀ t, Steps p.tables e below (T13.setTop (mkF m 25 #[.val (.ref a1), .val (.int (2 : Int32)), .val (.ref a2), .val (.int (2 : Int32)), .val (.int (3 : Int32)), .val (.int (2 : Int32)), .val (.int c2)] [(.int (2 : Int32))])) t → Steps p.tables e below (s₁.setTop (entryFrame m #[(.ref a1), (.int (0 : Int32)), (.ref a2), (.int (0 : Int32)), (.int (3 : Int32))] 7)) t := fun t k => pre15 t (by
   show Steps p.tables e below (T13.setTop (mkF m 20 #[.val (.ref a1), .val (.int (2 : Int32)), .val (.ref a2), .val (.int (2 : Int32)), .val (.int (3 : Int32)), .val (.int (2 : Int32)), .val (.int c2)] [(.int (255 : Int32)), (.int c2)])) _
   refine XS.icmpNo X13.here hx rfl (hb hby d16_20) rfl (tlt hc20_16).2.2.2 ?_
   refine XS.iload X13.here hx rfl (hb hby d16_23) rfl ?_
   exact k)
  obtain ⟨fs18, hr18, hrun18, hended18, hW18, hsame18⟩ := X13.leave (v := some (.int (2 : Int32))) (fun h => by rw [Bd.returns] at h; cases h)
  refine ⟨_, _, pre17 _ ?_, hrun18, hended18, _, _, rfl, ?_, ⟨_, rfl⟩, hW18, hsame18.mono (by decide) (by decide)⟩
  ·show Steps p.tables e below (T13.setTop (mkF m 25 #[.val (.ref a1), .val (.int (2 : Int32)), .val (.ref a2), .val (.int (2 : Int32)), .val (.int (3 : Int32)), .val (.int (2 : Int32)), .val (.int c2)] [(.int (2 : Int32))])) _
   exact retOut X13 hx (t := .int) Bd.returns rfl (Or.inl ⟨rfl, Or.inl rfl, _, rfl⟩) (hb hby d16_25) hr18
  ·show Qcp3 Z a1 a2 kc kd c0 c1 c2 h0 n0 _ T13.heap _
   rw [e13]
   exact ⟨_, rfl, N13, (((Keep.refl h0 [a2]).wr W6 (Or.inl (List.mem_singleton.mpr rfl))).wr W13 (Or.inl (List.mem_singleton.mpr rfl))), Or.inr (Or.inr (Or.inl ⟨rfl, hc20_16⟩))⟩
 have Vc19 := Vd_13
 obtain ⟨cl19, Ar19, qq19, sz19, nn19, Ha19, Gf19⟩ := Vc19
 have hin19 : ¬ ((2 : Int32) < 0 ∨ cl19.slots.size ≤ ((2 : Int32)).toNatClampNeg) := inb_of sz19 ⟨by decide, by decide⟩
 obtain ⟨T20, h20, X20, e20, W20, st20⟩ := stB X13 hx hZ e13 Ar19 (j := (2 : Int32)) hin19 (g := (mkF m 31 #[.val (.ref a1), .val (.int (2 : Int32)), .val (.ref a2), .val (.int (2 : Int32)), .val (.int (3 : Int32)), .val (.int (2 : Int32)), .val (.int c2)] [(.int (c2.toInt8.toInt32)), (.int (2 : Int32)), (.ref a2)])) rfl rfl (hb hby d16_31)
 have N20 := Fr.snoc X20 N13 gd
 have Ac_20 := Ac_13.other W20 hne
 have Vd_20 := Arv.set Ar19 qq19 sz19 nn19 Ha19 Gf19 (fits_nar_byte _) W20 2 rfl (Nat.le_of_ble_eq_true rfl)
 have pre21 : ∀ t, Steps p.tables e below (T20.setTop (mkF m 46 #[.val (.ref a1), .val (.int (3 : Int32)), .val (.ref a2), .val (.int (3 : Int32)), .val (.int (3 : Int32)), .val (.int (3 : Int32)), .val (.int c2)] [(.int (3 : Int32))])) t → Steps p.tables e below (s₁.setTop (entryFrame m #[(.ref a1), (.int (0 : Int32)), (.ref a2), (.int (0 : Int32)), (.int (3 : Int32))] 7)) t := fun t k => pre15 t (by
  show Steps p.tables e below (T13.setTop (mkF m 20 #[.val (.ref a1), .val (.int (2 : Int32)), .val (.ref a2), .val (.int (2 : Int32)), .val (.int (3 : Int32)), .val (.int (2 : Int32)), .val (.int c2)] [(.int (255 : Int32)), (.int c2)])) _
  refine XS.icmpYes X13.here hx rfl (pc0 := 20) (pc' := 26) rfl (hb hby d16_20) rfl (flt hc20_16).2.2.2 (by decide) (by decide) ?_
  refine XS.aloadN X13.here hx rfl (hb hby d16_26) rfl rfl ?_
  refine XS.iloadN X13.here hx rfl (hb hby d16_27) rfl ?_
  refine XS.iload X13.here hx rfl (hb hby d16_28) rfl ?_
  refine XS.i2b X13.here hx rfl (hb hby d16_30) rfl ?_
  refine st20 _ ?_
  refine XS.iinc X20.here hx rfl (hb hby d16_32) rfl (l' := #[.val (.ref a1), .val (.int ((2 : Int32) + (1 : Int32))), .val (.ref a2), .val (.int (2 : Int32)), .val (.int (3 : Int32)), .val (.int (2 : Int32)), .val (.int c2)]) rfl ?_
  show Steps p.tables e below (T20.setTop (mkF m 35 #[.val (.ref a1), .val (.int ((2 : Int32) + (1 : Int32))), .val (.ref a2), .val (.int (2 : Int32)), .val (.int (3 : Int32)), .val (.int (2 : Int32)), .val (.int c2)] [])) _
  rw [show ((2 : Int32) + (1 : Int32)) = (3 : Int32) from by decide]
  refine XS.iinc X20.here hx rfl (hb hby d16_35) rfl (l' := #[.val (.ref a1), .val (.int (3 : Int32)), .val (.ref a2), .val (.int ((2 : Int32) + (1 : Int32))), .val (.int (3 : Int32)), .val (.int (2 : Int32)), .val (.int c2)]) rfl ?_
  show Steps p.tables e below (T20.setTop (mkF m 38 #[.val (.ref a1), .val (.int (3 : Int32)), .val (.ref a2), .val (.int ((2 : Int32) + (1 : Int32))), .val (.int (3 : Int32)), .val (.int (2 : Int32)), .val (.int c2)] [])) _
  rw [show ((2 : Int32) + (1 : Int32)) = (3 : Int32) from by decide]
  refine XS.iinc X20.here hx rfl (hb hby d16_38) rfl (l' := #[.val (.ref a1), .val (.int (3 : Int32)), .val (.ref a2), .val (.int (3 : Int32)), .val (.int (3 : Int32)), .val (.int ((2 : Int32) + (1 : Int32))), .val (.int c2)]) rfl ?_
  show Steps p.tables e below (T20.setTop (mkF m 41 #[.val (.ref a1), .val (.int (3 : Int32)), .val (.ref a2), .val (.int (3 : Int32)), .val (.int (3 : Int32)), .val (.int ((2 : Int32) + (1 : Int32))), .val (.int c2)] [])) _
  rw [show ((2 : Int32) + (1 : Int32)) = (3 : Int32) from by decide]
  refine XS.goto X20.here hx rfl (pc0 := 41) (pc' := 3) rfl (hb hby d16_41) (by decide) (by decide) ?_
  refine XS.iload X20.here hx rfl (hb hby d16_3) rfl ?_
  refine XS.iload X20.here hx rfl (hb hby d16_5) rfl ?_
  refine XS.icmpYes X20.here hx rfl (pc0 := 7) (pc' := 44) rfl (hb hby d16_7) rfl (flt (by decide : ¬ ((3 : Int32) < (3 : Int32)))).2.1 (by decide) (by decide) ?_
  refine XS.iload X20.here hx rfl (hb hby d16_44) rfl ?_
  exact k)
 obtain ⟨fs22, hr22, hrun22, hended22, hW22, hsame22⟩ := X20.leave (v := some (.int (3 : Int32))) (fun h => by rw [Bd.returns] at h; cases h)
 refine ⟨_, _, pre21 _ ?_, hrun22, hended22, _, _, rfl, ?_, ⟨_, rfl⟩, hW22, hsame22.mono (by decide) (by decide)⟩
 ·show Steps p.tables e below (T20.setTop (mkF m 46 #[.val (.ref a1), .val (.int (3 : Int32)), .val (.ref a2), .val (.int (3 : Int32)), .val (.int (3 : Int32)), .val (.int (3 : Int32)), .val (.int c2)] [(.int (3 : Int32))])) _
  exact retOut X20 hx (t := .int) Bd.returns rfl (Or.inl ⟨rfl, Or.inl rfl, _, rfl⟩) (hb hby d16_46) hr22
 ·show Qcp3 Z a1 a2 kc kd c0 c1 c2 h0 n0 _ T20.heap _
  rw [e20]
  have q := Vd_20
  simp only [own_lo] at q
  exact ⟨_, rfl, N20, ((((Keep.refl h0 [a2]).wr W6 (Or.inl (List.mem_singleton.mpr rfl))).wr W13 (Or.inl (List.mem_singleton.mpr rfl))).wr W20 (Or.inl (List.mem_singleton.mpr rfl))), Or.inr (Or.inr (Or.inr (⟨rfl, ⟨hc20, hc20_9, hc20_16⟩, q⟩)))⟩


def Qcz3 (Z : State) (a1 : Addr) (kc : ClassId) (c0 c1 c2 : Int32) (h0 : Heap) (n0 : Nat) (v : Option Value) (h : Heap) (L : List Loc) : Prop := ∃ b kb cd N vs, v = some (.ref b) ∧ Fr n0 L ∧ Ext h0 h ∧ Arv Z h b kb .byte N vs (.int 0) ∧ StrChars.Road.CodA [c0, c1, c2] cd N vs
set_option maxRecDepth 65536 in
set_option maxHeartbeats 40000000 in
theorem rmcz3 (l : Launch) (Z : State) (a0 : Array Value) (hw : ∀ d ∈ tables_1, d.before a0 Z = true) (ws : List Jvm.Cond) (a1 : Addr) (kc : ClassId) (c0 c1 c2 : Int32) (h0 : Heap) (n0 : Nat) (Z0 : n0 ≤ h0.size) (Ac : Arv Z h0 a1 kc .char (3 : Int32) ([c0, c1, c2].map Value.int) (.int 0)) (EN : own_env Z h0) (hb0 : own_b c0) (hb1 : own_b c1) (hb2 : own_b c2) :
  own_M l Z own_z16 jdk_52_method_16_code 6 (some (.array .byte)) ({ frames := 3, cells := 2, slots := 9, locals := 45 } : Room) ws #[(.ref a1), (.int (0 : Int32)), (.int (3 : Int32))] h0 (Qcz3 Z a1 kc c0 c1 c2 h0 n0) := by
 refine MetFree.of_bodySF (plainFor_of_name pn_k5) hisR ?_
 intro p e s m args below meth c s₁ Bd hml0 hP hK
 obtain ⟨rfl, hZ, hh⟩ := hP
 have hx := Bd.exec
 have hby := Bd.bytes
 have hml : c.maxLocals = 6 := hml0
 have hown : s.vm.findClass "java/lang/StringUTF16" = some m.cls := findClass_of_methodNamed Bd.named
 have hnm := (name_of_methodNamed Bd.named Bd.method).1
 have X0 : Stand p l e ({ frames := 3, cells := 2, slots := 9, locals := 45 } : Room) s m #[(.ref a1), (.int (0 : Int32)), (.int (3 : Int32))] below meth c s₁ [] 0 0 := Stand.of_body Bd
 have e0 : s₁.heap = h0 := by rw [← hh, Bd.state]; rfl
 have N0 := Fr.nil n0
 have pre0 : ∀ t, Steps p.tables e below (s₁.setTop (mkF m 0 #[.val (.ref a1), .val (.int (0 : Int32)), .val (.int (3 : Int32)), .unset, .unset, .unset] [])) t → Steps p.tables e below (s₁.setTop (entryFrame m #[(.ref a1), (.int (0 : Int32)), (.int (3 : Int32))] 6)) t := fun t k => castTop (ef_cz1 m a1 (0 : Int32) (3 : Int32)) k
 obtain ⟨T1, h1, k1, X1, e1, E1, A1, st1⟩ := newP (aty := .byte) X0 hx hZ (wd21 hw) e0 (g := (mkF m 1 #[.val (.ref a1), .val (.int (0 : Int32)), .val (.int (3 : Int32)), .unset, .unset, .unset] [(.int (3 : Int32))])) rfl (hb hby d15_1) rfl (by decide) (cap := 3) (by decide) (by decide) (by decide) (by decide)
 obtain ⟨b1, gb1⟩ : ∃ z, z = h0.size := ⟨_, rfl⟩
 rw [← gb1] at A1 st1
 have gn1 : n0 ≤ b1 := Nat.le_trans Z0 (Nat.le_of_eq gb1.symm)
 have sz1_b : h0.size ≤ b1 := Nat.le_trans (Keep.refl h0 []).1 (Nat.le_of_eq gb1.symm)
 have ne_a1_b1 : a1 ≠ b1 := Nat.ne_of_lt (Nat.lt_of_lt_of_le Ac.lt (Nat.le_of_eq gb1.symm))
 have Ac_1 := Ac.ext E1
 have EN_1 := EN.ext E1
 have K1 := (Keep.refl h0 []).ext E1
 have V1 : Arv Z h1 b1 k1 .byte (3 : Int32) [(.int (0 : Int32)), (.int (0 : Int32)), (.int (0 : Int32))] (.int (0 : Int32)) := (Arv.new A1 (by decide)).pad (pad_rep [] (.int (0 : Int32)) 3)
 obtain ⟨_, _, ⟨T2, L2, k2, n2⟩, -, X2, ⟨Lc2, hQ2, l2, y2, z2⟩, st2⟩ := Jvm.LawKit.callS X1 hx (y := own_z15) hown (mvT hZ (wd76 hw)) (mvT hZ (wd77 hw)) (mvT hZ (wd74 hw)) (mvT hZ (wd78 hw)) (by decide) (backOf (W := 0) (rmcp3 l Z a0 hw [] a1 b1 kc k1 c0 c1 c2 h1 n0 (Nat.le_trans Z0 E1.1) Ac_1 V1 ne_a1_b1 gn1) hZ (wd78 hw) (wd74 hw) (by decide) (by decide)) (g := (mkF m 9 #[.val (.ref a1), .val (.int (0 : Int32)), .val (.int (3 : Int32)), .val (.ref b1), .unset, .unset] [(.int (3 : Int32)), (.int (0 : Int32)), (.ref b1), (.int (0 : Int32)), (.ref a1)])) rfl (by rw [hml]; rfl) (argsL := [(.ref a1), (.int (0 : Int32)), (.ref b1), (.int (0 : Int32)), (.int (3 : Int32))]) (rest := []) (lenOf pd_cp1 rfl) rfl (by show 2 * 0 + _ ≤ _; exact Nat.le_of_eq rfl) (hb hby d15_9) (fun _ _ => ⟨rfl, e1, (by decide : 1 + 0 ≤ _), (by decide : 3 + 0 ≤ _)⟩)
 dsimp only [Pt.U, Pt.locs, Pt.cells, Pt.slots] at X2 l2 y2 z2 st2 hQ2
 subst l2 y2 z2
 obtain ⟨j2, rfl, N2q, Kp2, hd2⟩ := hQ2
 have N2 := Fr.app N0 N2q
 have Ac_2 := Ac_1.keep Kp2 (ninS ne_a1_b1 nin0)
 have EN_2 := EN_1.keep Kp2 V1.nostat
 have K2 := K1.trans Kp2 (fun x hx => by cases List.mem_singleton.mp hx; exact Or.inr sz1_b)
 have pre3 : ∀ t, Steps p.tables e below (T2.setTop (mkF m 12 #[.val (.ref a1), .val (.int (0 : Int32)), .val (.int (3 : Int32)), .val (.ref b1), .unset, .unset] [(.int j2)])) t → Steps p.tables e below (s₁.setTop (entryFrame m #[(.ref a1), (.int (0 : Int32)), (.int (3 : Int32))] 6)) t := fun t k => pre0 t (by
  show Steps p.tables e below (s₁.setTop (mkF m 0 #[.val (.ref a1), .val (.int (0 : Int32)), .val (.int (3 : Int32)), .unset, .unset, .unset] [])) _
  refine XS.iloadN X0.here hx rfl (hb hby d15_0) rfl ?_
  refine st1 _ ?_
  refine XS.astoreN X1.here hx rfl (hb hby d15_3) rfl rfl (l' := #[.val (.ref a1), .val (.int (0 : Int32)), .val (.int (3 : Int32)), .val (.ref b1), .unset, .unset]) rfl ?_
  refine XS.aloadN X1.here hx rfl (hb hby d15_4) rfl rfl ?_
  refine XS.iloadN X1.here hx rfl (hb hby d15_5) rfl ?_
  refine XS.aloadN X1.here hx rfl (hb hby d15_6) rfl rfl ?_
  refine XS.iconst X1.here hx rfl (hb hby d15_7) ?_
  refine XS.iloadN X1.here hx rfl (hb hby d15_8) rfl ?_
  refine st2 _ ?_
  exact k)
 rcases hd2 with ⟨rfl, hcw⟩ | ⟨rfl, hcw⟩ | ⟨rfl, hcw⟩ | ⟨rfl, hcl, hvl⟩
 ·obtain ⟨_, _, ⟨T4, L4, k4, n4⟩, -, X4, ⟨Lc4, hQ4, l4, y4, z4⟩, st4⟩ := Jvm.LawKit.callS X2 hx (y := own_z14) hown (mvT hZ (wd88 hw)) (mvT hZ (wd89 hw)) (mvT hZ (wd74 hw)) (mvT hZ (wd90 hw)) (by decide) (backOf (W := 0) (rmtb3 l Z a0 hw [] a1 kc c0 c1 c2 T2.heap n0 (Nat.le_trans (Nat.le_trans Z0 E1.1) Kp2.1) Ac_2 EN_2) hZ (wd90 hw) (wd74 hw) (by decide) (by decide)) (g := (mkF m 23 #[.val (.ref a1), .val (.int (0 : Int32)), .val (.int (3 : Int32)), .val (.ref b1), .val (.int (0 : Int32)), .unset] [(.int (3 : Int32)), (.int (0 : Int32)), (.ref a1)])) rfl (by rw [hml]; rfl) (argsL := [(.ref a1), (.int (0 : Int32)), (.int (3 : Int32))]) (rest := []) (lenOf pd_tb1 rfl) rfl (by show 2 * 0 + _ ≤ _; exact Nat.le_of_eq rfl) (hb hby d15_23) (fun _ _ => ⟨rfl, rfl, (by decide : 1 + 1 ≤ _), (by decide : 3 + 6 ≤ _)⟩)
  dsimp only [Pt.U, Pt.locs, Pt.cells, Pt.slots] at X4 l4 y4 z4 st4 hQ4
  subst l4 y4 z4
  obtain ⟨b4, kb4, rfl, N4q, E4, V4⟩ := hQ4
  have N4 := Fr.app N2 N4q
  have Ac_4 := Ac_2.ext E4
  have EN_4 := EN_2.ext E4
  have K4 := K2.ext E4
  have Vc5 := V4
  obtain ⟨cl5, Ar5, qq5, sz5, nn5, Ha5, Gf5⟩ := Vc5
  have r0_5 : own_rd cl5 ((0 : Int32) <<< ((1 : Int32) &&& 31)) (StrChars.lo8 c0) := own_rdOf sz5 Ha5 ⟨by decide, by decide⟩ (by rw [show (((0 : Int32) <<< ((1 : Int32) &&& 31))).toNatClampNeg = 0 from by decide]; rfl)
  have r1_5 : own_rd cl5 (((0 : Int32) <<< ((1 : Int32) &&& 31)) + (1 : Int32)) (StrChars.hi8 c0) := own_rdOf sz5 Ha5 ⟨by decide, by decide⟩ (by rw [show ((((0 : Int32) <<< ((1 : Int32) &&& 31)) + (1 : Int32))).toNatClampNeg = 1 from by decide]; rfl)
  obtain ⟨_, _, ⟨T6, L6, k6, n6⟩, -, X6, ⟨Lc6, hQ6, l6, y6, z6⟩, st6⟩ := Jvm.LawKit.callS X4 hx (y := own_z10) hown (mvT hZ (wd104 hw)) (mvT hZ (wd105 hw)) (mvT hZ (wd74 hw)) (mvT hZ (wd106 hw)) (by decide) (backOf (W := 0) (rmgc l Z a0 hw [] b4 cl5 (0 : Int32) (StrChars.lo8 c0) (StrChars.hi8 c0) c0 T4.heap n0 (Nat.le_trans (Nat.le_trans (Nat.le_trans Z0 E1.1) Kp2.1) E4.1) EN_4 (own_gcv hb0) Ar5 r0_5 r1_5) hZ (wd106 hw) (wd74 hw) (by decide) (by decide)) (g := (mkF m 32 #[.val (.ref a1), .val (.int (0 : Int32)), .val (.int (3 : Int32)), .val (.ref b1), .val (.int (0 : Int32)), .val (.ref b4)] [(.int (0 : Int32)), (.ref b4)])) rfl (by rw [hml]; rfl) (argsL := [(.ref b4), (.int (0 : Int32))]) (rest := []) (lenOf pd_gc rfl) rfl (by show 2 * 0 + _ ≤ _; exact Nat.le_of_eq rfl) (hb hby d15_32) (fun _ _ => ⟨rfl, rfl, (by decide : 2 + 0 ≤ _), (by decide : 9 + 0 ≤ _)⟩)
  dsimp only [Pt.U, Pt.locs, Pt.cells, Pt.slots] at X6 l6 y6 z6 st6 hQ6
  subst l6 y6 z6
  obtain ⟨rfl, N6q, q6⟩ := hQ6
  have N6 := Fr.app N4 N6q
  have pre7 : ∀ t, Steps p.tables e below (T6.setTop (mkF m 56 #[.val (.ref a1), .val (.int (0 : Int32)), .val (.int (3 : Int32)), .val (.ref b1), .val (.int (0 : Int32)), .val (.ref b4)] [(.ref b4)])) t → Steps p.tables e below (s₁.setTop (entryFrame m #[(.ref a1), (.int (0 : Int32)), (.int (3 : Int32))] 6)) t := fun t k => pre3 t (by
   show Steps p.tables e below (T2.setTop (mkF m 12 #[.val (.ref a1), .val (.int (0 : Int32)), .val (.int (3 : Int32)), .val (.ref b1), .unset, .unset] [(.int (0 : Int32))])) _
   refine XS.istore X2.here hx rfl (hb hby d15_12) rfl (l' := #[.val (.ref a1), .val (.int (0 : Int32)), .val (.int (3 : Int32)), .val (.ref b1), .val (.int (0 : Int32)), .unset]) rfl ?_
   refine XS.iload X2.here hx rfl (hb hby d15_14) rfl ?_
   refine XS.iloadN X2.here hx rfl (hb hby d15_16) rfl ?_
   refine XS.icmpNo X2.here hx rfl (hb hby d15_17) rfl (feq (by decide : ¬ ((0 : Int32) = (3 : Int32)))).1 ?_
   refine XS.aloadN X2.here hx rfl (hb hby d15_20) rfl rfl ?_
   refine XS.iloadN X2.here hx rfl (hb hby d15_21) rfl ?_
   refine XS.iloadN X2.here hx rfl (hb hby d15_22) rfl ?_
   refine st4 _ ?_
   refine XS.astore X4.here hx rfl (hb hby d15_26) rfl rfl (l' := #[.val (.ref a1), .val (.int (0 : Int32)), .val (.int (3 : Int32)), .val (.ref b1), .val (.int (0 : Int32)), .val (.ref b4)]) rfl ?_
   refine XS.aload X4.here hx rfl (hb hby d15_28) rfl rfl ?_
   refine XS.iload X4.here hx rfl (hb hby d15_30) rfl ?_
   refine st6 _ ?_
   refine XS.sipush X6.here hx rfl (hb hby d15_35) ?_
   refine XS.icmpYes X6.here hx rfl (pc0 := 38) (pc' := 54) rfl (hb hby d15_38) rfl (tlt hcw).2.2.1 (by decide) (by decide) ?_
   refine XS.aload X6.here hx rfl (hb hby d15_54) rfl rfl ?_
   exact k)
  obtain ⟨fs8, hr8, hrun8, hended8, hW8, hsame8⟩ := X6.leave (v := some (.ref b4)) (fun h => by rw [Bd.returns] at h; cases h)
  refine ⟨_, _, pre7 _ ?_, hrun8, hended8, _, _, rfl, ?_, ⟨_, rfl⟩, hW8, hsame8.mono (by decide) (by decide)⟩
  ·show Steps p.tables e below (T6.setTop (mkF m 56 #[.val (.ref a1), .val (.int (0 : Int32)), .val (.int (3 : Int32)), .val (.ref b1), .val (.int (0 : Int32)), .val (.ref b4)] [(.ref b4)])) _
   exact retOut X6 hx (t := (.array .byte)) Bd.returns rfl (Or.inr (Or.inr (Or.inr (Or.inr ⟨rfl, rfl, rfl⟩)))) (hb hby d15_56) hr8
  ·show Qcz3 Z a1 kc c0 c1 c2 h0 n0 _ T6.heap _
   rw [q6]
   exact ⟨_, _, 1, _, _, rfl, N6, own_ext K4, V4, Or.inr ⟨rfl, rfl, rfl, ⟨c0, by simp, hcw⟩⟩⟩
 ·obtain ⟨_, _, ⟨T9, L9, k9, n9⟩, -, X9, ⟨Lc9, hQ9, l9, y9, z9⟩, st9⟩ := Jvm.LawKit.callS X2 hx (y := own_z14) hown (mvT hZ (wd88 hw)) (mvT hZ (wd89 hw)) (mvT hZ (wd74 hw)) (mvT hZ (wd90 hw)) (by decide) (backOf (W := 0) (rmtb3 l Z a0 hw [] a1 kc c0 c1 c2 T2.heap n0 (Nat.le_trans (Nat.le_trans Z0 E1.1) Kp2.1) Ac_2 EN_2) hZ (wd90 hw) (wd74 hw) (by decide) (by decide)) (g := (mkF m 23 #[.val (.ref a1), .val (.int (0 : Int32)), .val (.int (3 : Int32)), .val (.ref b1), .val (.int (1 : Int32)), .unset] [(.int (3 : Int32)), (.int (0 : Int32)), (.ref a1)])) rfl (by rw [hml]; rfl) (argsL := [(.ref a1), (.int (0 : Int32)), (.int (3 : Int32))]) (rest := []) (lenOf pd_tb1 rfl) rfl (by show 2 * 0 + _ ≤ _; exact Nat.le_of_eq rfl) (hb hby d15_23) (fun _ _ => ⟨rfl, rfl, (by decide : 1 + 1 ≤ _), (by decide : 3 + 6 ≤ _)⟩)
  dsimp only [Pt.U, Pt.locs, Pt.cells, Pt.slots] at X9 l9 y9 z9 st9 hQ9
  subst l9 y9 z9
  obtain ⟨b9, kb9, rfl, N9q, E9, V9⟩ := hQ9
  have N9 := Fr.app N2 N9q
  have Ac_9 := Ac_2.ext E9
  have EN_9 := EN_2.ext E9
  have K9 := K2.ext E9
  have Vc10 := V9
  obtain ⟨cl10, Ar10, qq10, sz10, nn10, Ha10, Gf10⟩ := Vc10
  have r0_10 : own_rd cl10 ((1 : Int32) <<< ((1 : Int32) &&& 31)) (StrChars.lo8 c1) := own_rdOf sz10 Ha10 ⟨by decide, by decide⟩ (by rw [show (((1 : Int32) <<< ((1 : Int32) &&& 31))).toNatClampNeg = 2 from by decide]; rfl)
  have r1_10 : own_rd cl10 (((1 : Int32) <<< ((1 : Int32) &&& 31)) + (1 : Int32)) (StrChars.hi8 c1) := own_rdOf sz10 Ha10 ⟨by decide, by decide⟩ (by rw [show ((((1 : Int32) <<< ((1 : Int32) &&& 31)) + (1 : Int32))).toNatClampNeg = 3 from by decide]; rfl)
  obtain ⟨_, _, ⟨T11, L11, k11, n11⟩, -, X11, ⟨Lc11, hQ11, l11, y11, z11⟩, st11⟩ := Jvm.LawKit.callS X9 hx (y := own_z10) hown (mvT hZ (wd104 hw)) (mvT hZ (wd105 hw)) (mvT hZ (wd74 hw)) (mvT hZ (wd106 hw)) (by decide) (backOf (W := 0) (rmgc l Z a0 hw [] b9 cl10 (1 : Int32) (StrChars.lo8 c1) (StrChars.hi8 c1) c1 T9.heap n0 (Nat.le_trans (Nat.le_trans (Nat.le_trans Z0 E1.1) Kp2.1) E9.1) EN_9 (own_gcv hb1) Ar10 r0_10 r1_10) hZ (wd106 hw) (wd74 hw) (by decide) (by decide)) (g := (mkF m 32 #[.val (.ref a1), .val (.int (0 : Int32)), .val (.int (3 : Int32)), .val (.ref b1), .val (.int (1 : Int32)), .val (.ref b9)] [(.int (1 : Int32)), (.ref b9)])) rfl (by rw [hml]; rfl) (argsL := [(.ref b9), (.int (1 : Int32))]) (rest := []) (lenOf pd_gc rfl) rfl (by show 2 * 0 + _ ≤ _; exact Nat.le_of_eq rfl) (hb hby d15_32) (fun _ _ => ⟨rfl, rfl, (by decide : 2 + 0 ≤ _), (by decide : 9 + 0 ≤ _)⟩)
  dsimp only [Pt.U, Pt.locs, Pt.cells, Pt.slots] at X11 l11 y11 z11 st11 hQ11
  subst l11 y11 z11
  obtain ⟨rfl, N11q, q11⟩ := hQ11
  have N11 := Fr.app N9 N11q
  have pre12 : ∀ t, Steps p.tables e below (T11.setTop (mkF m 56 #[.val (.ref a1), .val (.int (0 : Int32)), .val (.int (3 : Int32)), .val (.ref b1), .val (.int (1 : Int32)), .val (.ref b9)] [(.ref b9)])) t → Steps p.tables e below (s₁.setTop (entryFrame m #[(.ref a1), (.int (0 : Int32)), (.int (3 : Int32))] 6)) t := fun t k => pre3 t (by
   show Steps p.tables e below (T2.setTop (mkF m 12 #[.val (.ref a1), .val (.int (0 : Int32)), .val (.int (3 : Int32)), .val (.ref b1), .unset, .unset] [(.int (1 : Int32))])) _
   refine XS.istore X2.here hx rfl (hb hby d15_12) rfl (l' := #[.val (.ref a1), .val (.int (0 : Int32)), .val (.int (3 : Int32)), .val (.ref b1), .val (.int (1 : Int32)), .unset]) rfl ?_
   refine XS.iload X2.here hx rfl (hb hby d15_14) rfl ?_
   refine XS.iloadN X2.here hx rfl (hb hby d15_16) rfl ?_
   refine XS.icmpNo X2.here hx rfl (hb hby d15_17) rfl (feq (by decide : ¬ ((1 : Int32) = (3 : Int32)))).1 ?_
   refine XS.aloadN X2.here hx rfl (hb hby d15_20) rfl rfl ?_
   refine XS.iloadN X2.here hx rfl (hb hby d15_21) rfl ?_
   refine XS.iloadN X2.here hx rfl (hb hby d15_22) rfl ?_
   refine st9 _ ?_
   refine XS.astore X9.here hx rfl (hb hby d15_26) rfl rfl (l' := #[.val (.ref a1), .val (.int (0 : Int32)), .val (.int (3 : Int32)), .val (.ref b1), .val (.int (1 : Int32)), .val (.ref b9)]) rfl ?_
   refine XS.aload X9.here hx rfl (hb hby d15_28) rfl rfl ?_
   refine XS.iload X9.here hx rfl (hb hby d15_30) rfl ?_
   refine st11 _ ?_
   refine XS.sipush X11.here hx rfl (hb hby d15_35) ?_
   refine XS.icmpYes X11.here hx rfl (pc0 := 38) (pc' := 54) rfl (hb hby d15_38) rfl (tlt hcw).2.2.1 (by decide) (by decide) ?_
   refine XS.aload X11.here hx rfl (hb hby d15_54) rfl rfl ?_
   exact k)
  obtain ⟨fs13, hr13, hrun13, hended13, hW13, hsame13⟩ := X11.leave (v := some (.ref b9)) (fun h => by rw [Bd.returns] at h; cases h)
  refine ⟨_, _, pre12 _ ?_, hrun13, hended13, _, _, rfl, ?_, ⟨_, rfl⟩, hW13, hsame13.mono (by decide) (by decide)⟩
  ·show Steps p.tables e below (T11.setTop (mkF m 56 #[.val (.ref a1), .val (.int (0 : Int32)), .val (.int (3 : Int32)), .val (.ref b1), .val (.int (1 : Int32)), .val (.ref b9)] [(.ref b9)])) _
   exact retOut X11 hx (t := (.array .byte)) Bd.returns rfl (Or.inr (Or.inr (Or.inr (Or.inr ⟨rfl, rfl, rfl⟩)))) (hb hby d15_56) hr13
  ·show Qcz3 Z a1 kc c0 c1 c2 h0 n0 _ T11.heap _
   rw [q11]
   exact ⟨_, _, 1, _, _, rfl, N11, own_ext K9, V9, Or.inr ⟨rfl, rfl, rfl, ⟨c1, by simp, hcw⟩⟩⟩
 ·obtain ⟨_, _, ⟨T14, L14, k14, n14⟩, -, X14, ⟨Lc14, hQ14, l14, y14, z14⟩, st14⟩ := Jvm.LawKit.callS X2 hx (y := own_z14) hown (mvT hZ (wd88 hw)) (mvT hZ (wd89 hw)) (mvT hZ (wd74 hw)) (mvT hZ (wd90 hw)) (by decide) (backOf (W := 0) (rmtb3 l Z a0 hw [] a1 kc c0 c1 c2 T2.heap n0 (Nat.le_trans (Nat.le_trans Z0 E1.1) Kp2.1) Ac_2 EN_2) hZ (wd90 hw) (wd74 hw) (by decide) (by decide)) (g := (mkF m 23 #[.val (.ref a1), .val (.int (0 : Int32)), .val (.int (3 : Int32)), .val (.ref b1), .val (.int (2 : Int32)), .unset] [(.int (3 : Int32)), (.int (0 : Int32)), (.ref a1)])) rfl (by rw [hml]; rfl) (argsL := [(.ref a1), (.int (0 : Int32)), (.int (3 : Int32))]) (rest := []) (lenOf pd_tb1 rfl) rfl (by show 2 * 0 + _ ≤ _; exact Nat.le_of_eq rfl) (hb hby d15_23) (fun _ _ => ⟨rfl, rfl, (by decide : 1 + 1 ≤ _), (by decide : 3 + 6 ≤ _)⟩)
  dsimp only [Pt.U, Pt.locs, Pt.cells, Pt.slots] at X14 l14 y14 z14 st14 hQ14
  subst l14 y14 z14
  obtain ⟨b14, kb14, rfl, N14q, E14, V14⟩ := hQ14
  have N14 := Fr.app N2 N14q
  have Ac_14 := Ac_2.ext E14
  have EN_14 := EN_2.ext E14
  have K14 := K2.ext E14
  have Vc15 := V14
  obtain ⟨cl15, Ar15, qq15, sz15, nn15, Ha15, Gf15⟩ := Vc15
  have r0_15 : own_rd cl15 ((2 : Int32) <<< ((1 : Int32) &&& 31)) (StrChars.lo8 c2) := own_rdOf sz15 Ha15 ⟨by decide, by decide⟩ (by rw [show (((2 : Int32) <<< ((1 : Int32) &&& 31))).toNatClampNeg = 4 from by decide]; rfl)
  have r1_15 : own_rd cl15 (((2 : Int32) <<< ((1 : Int32) &&& 31)) + (1 : Int32)) (StrChars.hi8 c2) := own_rdOf sz15 Ha15 ⟨by decide, by decide⟩ (by rw [show ((((2 : Int32) <<< ((1 : Int32) &&& 31)) + (1 : Int32))).toNatClampNeg = 5 from by decide]; rfl)
  obtain ⟨_, _, ⟨T16, L16, k16, n16⟩, -, X16, ⟨Lc16, hQ16, l16, y16, z16⟩, st16⟩ := Jvm.LawKit.callS X14 hx (y := own_z10) hown (mvT hZ (wd104 hw)) (mvT hZ (wd105 hw)) (mvT hZ (wd74 hw)) (mvT hZ (wd106 hw)) (by decide) (backOf (W := 0) (rmgc l Z a0 hw [] b14 cl15 (2 : Int32) (StrChars.lo8 c2) (StrChars.hi8 c2) c2 T14.heap n0 (Nat.le_trans (Nat.le_trans (Nat.le_trans Z0 E1.1) Kp2.1) E14.1) EN_14 (own_gcv hb2) Ar15 r0_15 r1_15) hZ (wd106 hw) (wd74 hw) (by decide) (by decide)) (g := (mkF m 32 #[.val (.ref a1), .val (.int (0 : Int32)), .val (.int (3 : Int32)), .val (.ref b1), .val (.int (2 : Int32)), .val (.ref b14)] [(.int (2 : Int32)), (.ref b14)])) rfl (by rw [hml]; rfl) (argsL := [(.ref b14), (.int (2 : Int32))]) (rest := []) (lenOf pd_gc rfl) rfl (by show 2 * 0 + _ ≤ _; exact Nat.le_of_eq rfl) (hb hby d15_32) (fun _ _ => ⟨rfl, rfl, (by decide : 2 + 0 ≤ _), (by decide : 9 + 0 ≤ _)⟩)
  dsimp only [Pt.U, Pt.locs, Pt.cells, Pt.slots] at X16 l16 y16 z16 st16 hQ16
  subst l16 y16 z16
  obtain ⟨rfl, N16q, q16⟩ := hQ16
  have N16 := Fr.app N14 N16q
  have pre17 : ∀ t, Steps p.tables e below (T16.setTop (mkF m 56 #[.val (.ref a1), .val (.int (0 : Int32)), .val (.int (3 : Int32)), .val (.ref b1), .val (.int (2 : Int32)), .val (.ref b14)] [(.ref b14)])) t → Steps p.tables e below (s₁.setTop (entryFrame m #[(.ref a1), (.int (0 : Int32)), (.int (3 : Int32))] 6)) t := fun t k => pre3 t (by
   show Steps p.tables e below (T2.setTop (mkF m 12 #[.val (.ref a1), .val (.int (0 : Int32)), .val (.int (3 : Int32)), .val (.ref b1), .unset, .unset] [(.int (2 : Int32))])) _
   refine XS.istore X2.here hx rfl (hb hby d15_12) rfl (l' := #[.val (.ref a1), .val (.int (0 : Int32)), .val (.int (3 : Int32)), .val (.ref b1), .val (.int (2 : Int32)), .unset]) rfl ?_
   refine XS.iload X2.here hx rfl (hb hby d15_14) rfl ?_
   refine XS.iloadN X2.here hx rfl (hb hby d15_16) rfl ?_
   refine XS.icmpNo X2.here hx rfl (hb hby d15_17) rfl (feq (by decide : ¬ ((2 : Int32) = (3 : Int32)))).1 ?_
   refine XS.aloadN X2.here hx rfl (hb hby d15_20) rfl rfl ?_
   refine XS.iloadN X2.here hx rfl (hb hby d15_21) rfl ?_
   refine XS.iloadN X2.here hx rfl (hb hby d15_22) rfl ?_
   refine st14 _ ?_
   refine XS.astore X14.here hx rfl (hb hby d15_26) rfl rfl (l' := #[.val (.ref a1), .val (.int (0 : Int32)), .val (.int (3 : Int32)), .val (.ref b1), .val (.int (2 : Int32)), .val (.ref b14)]) rfl ?_
   refine XS.aload X14.here hx rfl (hb hby d15_28) rfl rfl ?_
   refine XS.iload X14.here hx rfl (hb hby d15_30) rfl ?_
   refine st16 _ ?_
   refine XS.sipush X16.here hx rfl (hb hby d15_35) ?_
   refine XS.icmpYes X16.here hx rfl (pc0 := 38) (pc' := 54) rfl (hb hby d15_38) rfl (tlt hcw).2.2.1 (by decide) (by decide) ?_
   refine XS.aload X16.here hx rfl (hb hby d15_54) rfl rfl ?_
   exact k)
  obtain ⟨fs18, hr18, hrun18, hended18, hW18, hsame18⟩ := X16.leave (v := some (.ref b14)) (fun h => by rw [Bd.returns] at h; cases h)
  refine ⟨_, _, pre17 _ ?_, hrun18, hended18, _, _, rfl, ?_, ⟨_, rfl⟩, hW18, hsame18.mono (by decide) (by decide)⟩
  ·show Steps p.tables e below (T16.setTop (mkF m 56 #[.val (.ref a1), .val (.int (0 : Int32)), .val (.int (3 : Int32)), .val (.ref b1), .val (.int (2 : Int32)), .val (.ref b14)] [(.ref b14)])) _
   exact retOut X16 hx (t := (.array .byte)) Bd.returns rfl (Or.inr (Or.inr (Or.inr (Or.inr ⟨rfl, rfl, rfl⟩)))) (hb hby d15_56) hr18
  ·show Qcz3 Z a1 kc c0 c1 c2 h0 n0 _ T16.heap _
   rw [q16]
   exact ⟨_, _, 1, _, _, rfl, N16, own_ext K14, V14, Or.inr ⟨rfl, rfl, rfl, ⟨c2, by simp, hcw⟩⟩⟩
 ·have pre19 : ∀ t, Steps p.tables e below (T2.setTop (mkF m 58 #[.val (.ref a1), .val (.int (0 : Int32)), .val (.int (3 : Int32)), .val (.ref b1), .val (.int (3 : Int32)), .unset] [(.ref b1)])) t → Steps p.tables e below (s₁.setTop (entryFrame m #[(.ref a1), (.int (0 : Int32)), (.int (3 : Int32))] 6)) t := fun t k => pre3 t (by
   show Steps p.tables e below (T2.setTop (mkF m 12 #[.val (.ref a1), .val (.int (0 : Int32)), .val (.int (3 : Int32)), .val (.ref b1), .unset, .unset] [(.int (3 : Int32))])) _
   refine XS.istore X2.here hx rfl (hb hby d15_12) rfl (l' := #[.val (.ref a1), .val (.int (0 : Int32)), .val (.int (3 : Int32)), .val (.ref b1), .val (.int (3 : Int32)), .unset]) rfl ?_
   refine XS.iload X2.here hx rfl (hb hby d15_14) rfl ?_
   refine XS.iloadN X2.here hx rfl (hb hby d15_16) rfl ?_
   refine XS.icmpYes X2.here hx rfl (pc0 := 17) (pc' := 57) rfl (hb hby d15_17) rfl (teq (by decide : (3 : Int32) = (3 : Int32))).1 (by decide) (by decide) ?_
   refine XS.aloadN X2.here hx rfl (hb hby d15_57) rfl rfl ?_
   exact k)
  obtain ⟨fs20, hr20, hrun20, hended20, hW20, hsame20⟩ := X2.leave (v := some (.ref b1)) (fun h => by rw [Bd.returns] at h; cases h)
  refine ⟨_, _, pre19 _ ?_, hrun20, hended20, _, _, rfl, ?_, ⟨_, rfl⟩, hW20, hsame20.mono (by decide) (by decide)⟩
  ·show Steps p.tables e below (T2.setTop (mkF m 58 #[.val (.ref a1), .val (.int (0 : Int32)), .val (.int (3 : Int32)), .val (.ref b1), .val (.int (3 : Int32)), .unset] [(.ref b1)])) _
   exact retOut X2 hx (t := (.array .byte)) Bd.returns rfl (Or.inr (Or.inr (Or.inr (Or.inr ⟨rfl, rfl, rfl⟩)))) (hb hby d15_58) hr20
  ·show Qcz3 Z a1 kc c0 c1 c2 h0 n0 _ T2.heap _
   exact ⟨_, _, 0, _, _, rfl, N2, own_ext K2, hvl, Or.inl ⟨rfl, rfl, rfl, List.forall_mem_cons.mpr ⟨hcl.1, List.forall_mem_cons.mpr ⟨hcl.2.1, List.forall_mem_cons.mpr ⟨hcl.2.2, fun _ q => nomatch q⟩⟩⟩⟩⟩


def Qca3_1 (Z : State) (a1 : Addr) (k1 : ClassId) (vs : List Value) (h0 : Heap) (n0 : Nat) (v : Option Value) (h : Heap) (L : List Loc) : Prop := v = some (.int (1 : Int32)) ∧ Fr n0 L ∧ h = h0
set_option maxRecDepth 65536 in
set_option maxHeartbeats 40000000 in
theorem rmca3_1 (l : Launch) (Z : State) (a0 : Array Value) (hw : ∀ d ∈ tables_1, d.before a0 Z = true) (ws : List Jvm.Cond) (a1 : Addr) (k1 : ClassId) (vs : List Value) (h0 : Heap) (n0 : Nat) (Z0 : n0 ≤ h0.size) (As : Arv Z h0 a1 k1 .byte (6 : Int32) vs (.int 0)) :
  own_M l Z own_z17 jdk_52_method_15_code 2 (some .byte) ({ frames := 0, cells := 0, slots := 0, locals := 0 } : Room) ws #[(.ref a1), (.int (3 : Int32))] h0 (Qca3_1 Z a1 k1 vs h0 n0) := by
 refine MetFree.of_bodySF (plainFor_of_name pn_k5) hisR ?_
 intro p e s m args below meth c s₁ Bd hml0 hP hK
 obtain ⟨rfl, hZ, hh⟩ := hP
 have hx := Bd.exec
 have hby := Bd.bytes
 have hml : c.maxLocals = 2 := hml0
 have hown : s.vm.findClass "java/lang/StringUTF16" = some m.cls := findClass_of_methodNamed Bd.named
 have hnm := (name_of_methodNamed Bd.named Bd.method).1
 have X0 : Stand p l e ({ frames := 0, cells := 0, slots := 0, locals := 0 } : Room) s m #[(.ref a1), (.int (3 : Int32))] below meth c s₁ [] 0 0 := Stand.of_body Bd
 have e0 : s₁.heap = h0 := by rw [← hh, Bd.state]; rfl
 have N0 := Fr.nil n0
 have pre0 : ∀ t, Steps p.tables e below (s₁.setTop (mkF m 0 #[.val (.ref a1), .val (.int (3 : Int32))] [])) t → Steps p.tables e below (s₁.setTop (entryFrame m #[(.ref a1), (.int (3 : Int32))] 2)) t := fun t k => castTop (ef_gc m a1 (3 : Int32)) k
 have Vc1 := As
 obtain ⟨cl1, Ar1, qq1, sz1, nn1, Ha1, Gf1⟩ := Vc1
 have pre2 : ∀ t, Steps p.tables e below (s₁.setTop (mkF m 8 #[.val (.ref a1), .val (.int (3 : Int32))] [(.int (1 : Int32))])) t → Steps p.tables e below (s₁.setTop (entryFrame m #[(.ref a1), (.int (3 : Int32))] 2)) t := fun t k => pre0 t (by
  show Steps p.tables e below (s₁.setTop (mkF m 0 #[.val (.ref a1), .val (.int (3 : Int32))] [])) _
  refine XS.iloadN X0.here hx rfl (hb hby d17_0) rfl ?_
  refine XS.aloadN X0.here hx rfl (hb hby d17_1) rfl rfl ?_
  refine X0.arraylength hx (by rw [e0]; exact Ar1.1) (State.isArrayOf_alike hZ.alike Ar1.2.1) (g := (mkF m 2 #[.val (.ref a1), .val (.int (3 : Int32))] [(.ref a1), (.int (3 : Int32))])) rfl rfl (hb hby d17_2) _ ?_
  rw [len_of sz1 nn1]
  refine XS.isub X0.here hx rfl (hb hby d17_3) rfl ?_
  show Steps p.tables e below (s₁.setTop (mkF m 4 #[.val (.ref a1), .val (.int (3 : Int32))] [(.int ((3 : Int32) - (6 : Int32)))])) _
  rw [show ((3 : Int32) - (6 : Int32)) = (-3 : Int32) from by decide]
  refine XS.bipush X0.here hx rfl (hb hby d17_4) ?_
  refine XS.iushr X0.here hx rfl (hb hby d17_6) rfl ?_
  show Steps p.tables e below (s₁.setTop (mkF m 7 #[.val (.ref a1), .val (.int (3 : Int32))] [(.int (((-3 : Int32).toUInt32 >>> ((31 : Int32) &&& 31).toUInt32).toInt32))])) _
  rw [show (((-3 : Int32).toUInt32 >>> ((31 : Int32) &&& 31).toUInt32).toInt32) = (1 : Int32) from by decide]
  refine XS.i2b X0.here hx rfl (hb hby d17_7) rfl ?_
  show Steps p.tables e below (s₁.setTop (mkF m 8 #[.val (.ref a1), .val (.int (3 : Int32))] [(.int ((1 : Int32).toInt8.toInt32))])) _
  rw [show ((1 : Int32).toInt8.toInt32) = (1 : Int32) from by decide]
  exact k)
 obtain ⟨fs3, hr3, hrun3, hended3, hW3, hsame3⟩ := X0.leave (v := some (.int (1 : Int32))) (fun h => by rw [Bd.returns] at h; cases h)
 refine ⟨_, _, pre2 _ ?_, hrun3, hended3, _, _, rfl, ?_, ⟨_, rfl⟩, hW3, hsame3.mono (by decide) (by decide)⟩
 ·show Steps p.tables e below (s₁.setTop (mkF m 8 #[.val (.ref a1), .val (.int (3 : Int32))] [(.int (1 : Int32))])) _
  exact retN X0 hx (t := .byte) Bd.returns (by simp) (hb hby d17_8) hr3
 ·show Qca3_1 Z a1 k1 vs h0 n0 _ s₁.heap _
  rw [e0]
  exact ⟨rfl, N0, rfl⟩


def Qca3_0 (Z : State) (a1 : Addr) (k1 : ClassId) (vs : List Value) (h0 : Heap) (n0 : Nat) (v : Option Value) (h : Heap) (L : List Loc) : Prop := v = some (.int (0 : Int32)) ∧ Fr n0 L ∧ h = h0
set_option maxRecDepth 65536 in
set_option maxHeartbeats 40000000 in
theorem rmca3_0 (l : Launch) (Z : State) (a0 : Array Value) (hw : ∀ d ∈ tables_1, d.before a0 Z = true) (ws : List Jvm.Cond) (a1 : Addr) (k1 : ClassId) (vs : List Value) (h0 : Heap) (n0 : Nat) (Z0 : n0 ≤ h0.size) (As : Arv Z h0 a1 k1 .byte (3 : Int32) vs (.int 0)) :
  own_M l Z own_z17 jdk_52_method_15_code 2 (some .byte) ({ frames := 0, cells := 0, slots := 0, locals := 0 } : Room) ws #[(.ref a1), (.int (3 : Int32))] h0 (Qca3_0 Z a1 k1 vs h0 n0) := by
 refine MetFree.of_bodySF (plainFor_of_name pn_k5) hisR ?_
 intro p e s m args below meth c s₁ Bd hml0 hP hK
 obtain ⟨rfl, hZ, hh⟩ := hP
 have hx := Bd.exec
 have hby := Bd.bytes
 have hml : c.maxLocals = 2 := hml0
 have hown : s.vm.findClass "java/lang/StringUTF16" = some m.cls := findClass_of_methodNamed Bd.named
 have hnm := (name_of_methodNamed Bd.named Bd.method).1
 have X0 : Stand p l e ({ frames := 0, cells := 0, slots := 0, locals := 0 } : Room) s m #[(.ref a1), (.int (3 : Int32))] below meth c s₁ [] 0 0 := Stand.of_body Bd
 have e0 : s₁.heap = h0 := by rw [← hh, Bd.state]; rfl
 have N0 := Fr.nil n0
 have pre0 : ∀ t, Steps p.tables e below (s₁.setTop (mkF m 0 #[.val (.ref a1), .val (.int (3 : Int32))] [])) t → Steps p.tables e below (s₁.setTop (entryFrame m #[(.ref a1), (.int (3 : Int32))] 2)) t := fun t k => castTop (ef_gc m a1 (3 : Int32)) k
 have Vc1 := As
 obtain ⟨cl1, Ar1, qq1, sz1, nn1, Ha1, Gf1⟩ := Vc1
 have pre2 : ∀ t, Steps p.tables e below (s₁.setTop (mkF m 8 #[.val (.ref a1), .val (.int (3 : Int32))] [(.int (0 : Int32))])) t → Steps p.tables e below (s₁.setTop (entryFrame m #[(.ref a1), (.int (3 : Int32))] 2)) t := fun t k => pre0 t (by
  show Steps p.tables e below (s₁.setTop (mkF m 0 #[.val (.ref a1), .val (.int (3 : Int32))] [])) _
  refine XS.iloadN X0.here hx rfl (hb hby d17_0) rfl ?_
  refine XS.aloadN X0.here hx rfl (hb hby d17_1) rfl rfl ?_
  refine X0.arraylength hx (by rw [e0]; exact Ar1.1) (State.isArrayOf_alike hZ.alike Ar1.2.1) (g := (mkF m 2 #[.val (.ref a1), .val (.int (3 : Int32))] [(.ref a1), (.int (3 : Int32))])) rfl rfl (hb hby d17_2) _ ?_
  rw [len_of sz1 nn1]
  refine XS.isub X0.here hx rfl (hb hby d17_3) rfl ?_
  show Steps p.tables e below (s₁.setTop (mkF m 4 #[.val (.ref a1), .val (.int (3 : Int32))] [(.int ((3 : Int32) - (3 : Int32)))])) _
  rw [show ((3 : Int32) - (3 : Int32)) = (0 : Int32) from by decide]
  refine XS.bipush X0.here hx rfl (hb hby d17_4) ?_
  refine XS.iushr X0.here hx rfl (hb hby d17_6) rfl ?_
  show Steps p.tables e below (s₁.setTop (mkF m 7 #[.val (.ref a1), .val (.int (3 : Int32))] [(.int (((0 : Int32).toUInt32 >>> ((31 : Int32) &&& 31).toUInt32).toInt32))])) _
  rw [show (((0 : Int32).toUInt32 >>> ((31 : Int32) &&& 31).toUInt32).toInt32) = (0 : Int32) from by decide]
  refine XS.i2b X0.here hx rfl (hb hby d17_7) rfl ?_
  show Steps p.tables e below (s₁.setTop (mkF m 8 #[.val (.ref a1), .val (.int (3 : Int32))] [(.int ((0 : Int32).toInt8.toInt32))])) _
  rw [show ((0 : Int32).toInt8.toInt32) = (0 : Int32) from by decide]
  exact k)
 obtain ⟨fs3, hr3, hrun3, hended3, hW3, hsame3⟩ := X0.leave (v := some (.int (0 : Int32))) (fun h => by rw [Bd.returns] at h; cases h)
 refine ⟨_, _, pre2 _ ?_, hrun3, hended3, _, _, rfl, ?_, ⟨_, rfl⟩, hW3, hsame3.mono (by decide) (by decide)⟩
 ·show Steps p.tables e below (s₁.setTop (mkF m 8 #[.val (.ref a1), .val (.int (3 : Int32))] [(.int (0 : Int32))])) _
  exact retN X0 hx (t := .byte) Bd.returns (by simp) (hb hby d17_8) hr3
 ·show Qca3_0 Z a1 k1 vs h0 n0 _ s₁.heap _
  rw [e0]
  exact ⟨rfl, N0, rfl⟩


def Qtb4 (Z : State) (a1 : Addr) (kc : ClassId) (c0 c1 c2 c3 : Int32) (h0 : Heap) (n0 : Nat) (v : Option Value) (h : Heap) (L : List Loc) : Prop := ∃ b kb, v = some (.ref b) ∧ Fr n0 L ∧ Ext h0 h ∧ Arv Z h b kb .byte (8 : Int32) (StrChars.Road.wideBytes [c0, c1, c2, c3]) (.int 0)
set_option maxRecDepth 65536 in
set_option maxHeartbeats 40000000 in
theorem rmtb4 (l : Launch) (Z : State) (a0 : Array Value) (hw : ∀ d ∈ tables_1, d.before a0 Z = true) (ws : List Jvm.Cond) (a1 : Addr) (kc : ClassId) (c0 c1 c2 c3 : Int32) (h0 : Heap) (n0 : Nat) (Z0 : n0 ≤ h0.size) (Ac : Arv Z h0 a1 kc .char (4 : Int32) ([c0, c1, c2, c3].map Value.int) (.int 0)) (EN : own_env Z h0) :
  own_M l Z own_z14 jdk_52_method_14_code 5 (some (.array .byte)) ({ frames := 2, cells := 1, slots := 8, locals := 24 } : Room) ws #[(.ref a1), (.int (0 : Int32)), (.int (4 : Int32))] h0 (Qtb4 Z a1 kc c0 c1 c2 c3 h0 n0) := by
 refine MetFree.of_bodySF (plainFor_of_name pn_k5) hisR ?_
 intro p e s m args below meth c s₁ Bd hml0 hP hK
 obtain ⟨rfl, hZ, hh⟩ := hP
 have hx := Bd.exec
 have hby := Bd.bytes
 have hml : c.maxLocals = 5 := hml0
 have hown : s.vm.findClass "java/lang/StringUTF16" = some m.cls := findClass_of_methodNamed Bd.named
 have hnm := (name_of_methodNamed Bd.named Bd.method).1
 have X0 : Stand p l e ({ frames := 2, cells := 1, slots := 8, locals := 24 } : Room) s m #[(.ref a1), (.int (0 : Int32)), (.int (4 : Int32))] below meth c s₁ [] 0 0 := Stand.of_body Bd
 have e0 : s₁.heap = h0 := by rw [← hh, Bd.state]; rfl
 have N0 := Fr.nil n0
 have pre0 : ∀ t, Steps p.tables e below (s₁.setTop (mkF m 0 #[.val (.ref a1), .val (.int (0 : Int32)), .val (.int (4 : Int32)), .unset, .unset] [])) t → Steps p.tables e below (s₁.setTop (entryFrame m #[(.ref a1), (.int (0 : Int32)), (.int (4 : Int32))] 5)) t := fun t k => castTop (ef_tb1 m a1 (0 : Int32) (4 : Int32)) k
 obtain ⟨_, _, ⟨T1, L1, k1, n1⟩, -, X1, ⟨Lc1, hQ1, l1, y1, z1⟩, st1⟩ := Jvm.LawKit.callS X0 hx (y := own_z13) hown (mvT hZ (wd91 hw)) (mvT hZ (wd92 hw)) (mvT hZ (wd74 hw)) (mvT hZ (wd93 hw)) (by decide) (backOf (W := 0) (rmbf4 l Z a0 hw [] h0 n0 Z0) hZ (wd93 hw) (wd74 hw) (by decide) (by decide)) (g := (mkF m 1 #[.val (.ref a1), .val (.int (0 : Int32)), .val (.int (4 : Int32)), .unset, .unset] [(.int (4 : Int32))])) rfl (by rw [hml]; rfl) (argsL := [(.int (4 : Int32))]) (rest := []) (lenOf pd_bf1 rfl) rfl (by show 2 * 0 + _ ≤ _; exact Nat.le_of_eq rfl) (hb hby d20_1) (fun _ _ => ⟨rfl, e0, (by decide : 0 + 1 ≤ _), (by decide : 0 + 8 ≤ _)⟩)
 dsimp only [Pt.U, Pt.locs, Pt.cells, Pt.slots] at X1 l1 y1 z1 st1 hQ1
 subst l1 y1 z1
 obtain ⟨b1, kb1, rfl, N1q, E1, gz1, V1⟩ := hQ1
 have N1 := Fr.app N0 N1q
 have Ac_1 := Ac.ext E1
 have EN_1 := EN.ext E1
 have K1 := (Keep.refl h0 []).ext E1
 have nab : a1 ≠ b1 := Nat.ne_of_lt (Nat.lt_of_lt_of_le Ac.lt gz1)
 have Vc2 := Ac_1
 obtain ⟨cl2, Ar2, qq2, sz2, nn2, Ha2, Gf2⟩ := Vc2
 have hin2 : ¬ ((0 : Int32) < 0 ∨ cl2.slots.size ≤ ((0 : Int32)).toNatClampNeg) := inb_of sz2 ⟨by decide, by decide⟩
 obtain ⟨_, _, ⟨T3, L3, k3, n3⟩, -, X3, ⟨Lc3, hQ3, l3, y3, z3⟩, st3⟩ := Jvm.LawKit.callS X1 hx (y := own_z11) hown (mvT hZ (wd98 hw)) (mvT hZ (wd99 hw)) (mvT hZ (wd74 hw)) (mvT hZ (wd100 hw)) (by decide) (backOf (W := 0) (rmpc l Z a0 hw [] b1 kb1 (8 : Int32) [.int 0, .int 0, .int 0, .int 0, .int 0, .int 0, .int 0, .int 0] 0 (0 : Int32) c0 T1.heap n0 (Nat.le_trans Z0 E1.1) EN_1 V1 (Nat.le_trans Z0 gz1) ⟨by decide, by decide⟩ ⟨by decide, by decide⟩ (by decide) (by decide) (Nat.le_of_ble_eq_true rfl) (Nat.le_of_ble_eq_true rfl)) hZ (wd100 hw) (wd74 hw) (by decide) (by decide)) (g := (mkF m 20 #[.val (.ref a1), .val (.int (0 : Int32)), .val (.int (4 : Int32)), .val (.ref b1), .val (.int (0 : Int32))] [(.int c0), (.int (0 : Int32)), (.ref b1)])) rfl (by rw [hml]; rfl) (argsL := [(.ref b1), (.int (0 : Int32)), (.int c0)]) (rest := []) (lenOf pd_pc rfl) rfl (by show 2 * 0 + _ ≤ _; exact Nat.le_of_eq rfl) (hb hby d20_20) (fun _ _ => ⟨rfl, rfl, (by decide : 1 + 0 ≤ _), (by decide : 8 + 0 ≤ _)⟩)
 dsimp only [Pt.U, Pt.locs, Pt.cells, Pt.slots] at X3 l3 y3 z3 st3 hQ3
 subst l3 y3 z3
 obtain ⟨rfl, N3q, Kp3, Vn3⟩ := hQ3
 have N3 := Fr.app N1 N3q
 have Ac_3 := Ac_1.keep Kp3 (ninS nab nin0)
 have EN_3 := EN_1.keep Kp3 V1.nostat
 have K3 := K1.trans Kp3 (fun x hx => by cases List.mem_singleton.mp hx; exact Or.inr gz1)
 have Vx3 : Arv Z T3.heap b1 kb1 .byte (8 : Int32) [.int (StrChars.lo8 c0), .int (StrChars.hi8 c0), .int 0, .int 0, .int 0, .int 0, .int 0, .int 0] (.int 0) := Vn3
 have Vc4 := Ac_3
 obtain ⟨cl4, Ar4, qq4, sz4, nn4, Ha4, Gf4⟩ := Vc4
 have hin4 : ¬ ((1 : Int32) < 0 ∨ cl4.slots.size ≤ ((1 : Int32)).toNatClampNeg) := inb_of sz4 ⟨by decide, by decide⟩
 obtain ⟨_, _, ⟨T5, L5, k5, n5⟩, -, X5, ⟨Lc5, hQ5, l5, y5, z5⟩, st5⟩ := Jvm.LawKit.callS X3 hx (y := own_z11) hown (mvT hZ (wd98 hw)) (mvT hZ (wd99 hw)) (mvT hZ (wd74 hw)) (mvT hZ (wd100 hw)) (by decide) (backOf (W := 0) (rmpc l Z a0 hw [] b1 kb1 (8 : Int32) [.int (StrChars.lo8 c0), .int (StrChars.hi8 c0), .int 0, .int 0, .int 0, .int 0, .int 0, .int 0] 2 (1 : Int32) c1 T3.heap n0 (Nat.le_trans (Nat.le_trans Z0 E1.1) Kp3.1) EN_3 Vx3 (Nat.le_trans Z0 gz1) ⟨by decide, by decide⟩ ⟨by decide, by decide⟩ (by decide) (by decide) (Nat.le_of_ble_eq_true rfl) (Nat.le_of_ble_eq_true rfl)) hZ (wd100 hw) (wd74 hw) (by decide) (by decide)) (g := (mkF m 20 #[.val (.ref a1), .val (.int (1 : Int32)), .val (.int (4 : Int32)), .val (.ref b1), .val (.int (1 : Int32))] [(.int c1), (.int (1 : Int32)), (.ref b1)])) rfl (by rw [hml]; rfl) (argsL := [(.ref b1), (.int (1 : Int32)), (.int c1)]) (rest := []) (lenOf pd_pc rfl) rfl (by show 2 * 0 + _ ≤ _; exact Nat.le_of_eq rfl) (hb hby d20_20) (fun _ _ => ⟨rfl, rfl, (by decide : 1 + 0 ≤ _), (by decide : 8 + 0 ≤ _)⟩)
 dsimp only [Pt.U, Pt.locs, Pt.cells, Pt.slots] at X5 l5 y5 z5 st5 hQ5
 subst l5 y5 z5
 obtain ⟨rfl, N5q, Kp5, Vn5⟩ := hQ5
 have N5 := Fr.app N3 N5q
 have Ac_5 := Ac_3.keep Kp5 (ninS nab nin0)
 have EN_5 := EN_3.keep Kp5 Vx3.nostat
 have K5 := K3.trans Kp5 (fun x hx => by cases List.mem_singleton.mp hx; exact Or.inr gz1)
 have Vx5 : Arv Z T5.heap b1 kb1 .byte (8 : Int32) [.int (StrChars.lo8 c0), .int (StrChars.hi8 c0), .int (StrChars.lo8 c1), .int (StrChars.hi8 c1), .int 0, .int 0, .int 0, .int 0] (.int 0) := Vn5
 have Vc6 := Ac_5
 obtain ⟨cl6, Ar6, qq6, sz6, nn6, Ha6, Gf6⟩ := Vc6
 have hin6 : ¬ ((2 : Int32) < 0 ∨ cl6.slots.size ≤ ((2 : Int32)).toNatClampNeg) := inb_of sz6 ⟨by decide, by decide⟩
 obtain ⟨_, _, ⟨T7, L7, k7, n7⟩, -, X7, ⟨Lc7, hQ7, l7, y7, z7⟩, st7⟩ := Jvm.LawKit.callS X5 hx (y := own_z11) hown (mvT hZ (wd98 hw)) (mvT hZ (wd99 hw)) (mvT hZ (wd74 hw)) (mvT hZ (wd100 hw)) (by decide) (backOf (W := 0) (rmpc l Z a0 hw [] b1 kb1 (8 : Int32) [.int (StrChars.lo8 c0), .int (StrChars.hi8 c0), .int (StrChars.lo8 c1), .int (StrChars.hi8 c1), .int 0, .int 0, .int 0, .int 0] 4 (2 : Int32) c2 T5.heap n0 (Nat.le_trans (Nat.le_trans (Nat.le_trans Z0 E1.1) Kp3.1) Kp5.1) EN_5 Vx5 (Nat.le_trans Z0 gz1) ⟨by decide, by decide⟩ ⟨by decide, by decide⟩ (by decide) (by decide) (Nat.le_of_ble_eq_true rfl) (Nat.le_of_ble_eq_true rfl)) hZ (wd100 hw) (wd74 hw) (by decide) (by decide)) (g := (mkF m 20 #[.val (.ref a1), .val (.int (2 : Int32)), .val (.int (4 : Int32)), .val (.ref b1), .val (.int (2 : Int32))] [(.int c2), (.int (2 : Int32)), (.ref b1)])) rfl (by rw [hml]; rfl) (argsL := [(.ref b1), (.int (2 : Int32)), (.int c2)]) (rest := []) (lenOf pd_pc rfl) rfl (by show 2 * 0 + _ ≤ _; exact Nat.le_of_eq rfl) (hb hby d20_20) (fun _ _ => ⟨rfl, rfl, (by decide : 1 + 0 ≤ _), (by decide : 8 + 0 ≤ _)⟩)
 dsimp only [Pt.U, Pt.locs, Pt.cells, Pt.slots] at X7 l7 y7 z7 st7 hQ7
 subst l7 y7 z7
 obtain ⟨rfl, N7q, Kp7, Vn7⟩ := hQ7
 have N7 := Fr.app N5 N7q
 have Ac_7 := Ac_5.keep Kp7 (ninS nab nin0)
 have EN_7 := EN_5.keep Kp7 Vx5.nostat
 have K7 := K5.trans Kp7 (fun x hx => by cases List.mem_singleton.mp hx; exact Or.inr gz1)
 have Vx7 : Arv Z T7.heap b1 kb1 .byte (8 : Int32) [.int (StrChars.lo8 c0), .int (StrChars.hi8 c0), .int (StrChars.lo8 c1), .int (StrChars.hi8 c1), .int (StrChars.lo8 c2), .int (StrChars.hi8 c2), .int 0, .int 0] (.int 0) := Vn7
 have Vc8 := Ac_7
 obtain ⟨cl8, Ar8, qq8, sz8, nn8, Ha8, Gf8⟩ := Vc8
 have hin8 : ¬ ((3 : Int32) < 0 ∨ cl8.slots.size ≤ ((3 : Int32)).toNatClampNeg) := inb_of sz8 ⟨by decide, by decide⟩
 obtain ⟨_, _, ⟨T9, L9, k9, n9⟩, -, X9, ⟨Lc9, hQ9, l9, y9, z9⟩, st9⟩ := Jvm.LawKit.callS X7 hx (y := own_z11) hown (mvT hZ (wd98 hw)) (mvT hZ (wd99 hw)) (mvT hZ (wd74 hw)) (mvT hZ (wd100 hw)) (by decide) (backOf (W := 0) (rmpc l Z a0 hw [] b1 kb1 (8 : Int32) [.int (StrChars.lo8 c0), .int (StrChars.hi8 c0), .int (StrChars.lo8 c1), .int (StrChars.hi8 c1), .int (StrChars.lo8 c2), .int (StrChars.hi8 c2), .int 0, .int 0] 6 (3 : Int32) c3 T7.heap n0 (Nat.le_trans (Nat.le_trans (Nat.le_trans (Nat.le_trans Z0 E1.1) Kp3.1) Kp5.1) Kp7.1) EN_7 Vx7 (Nat.le_trans Z0 gz1) ⟨by decide, by decide⟩ ⟨by decide, by decide⟩ (by decide) (by decide) (Nat.le_of_ble_eq_true rfl) (Nat.le_of_ble_eq_true rfl)) hZ (wd100 hw) (wd74 hw) (by decide) (by decide)) (g := (mkF m 20 #[.val (.ref a1), .val (.int (3 : Int32)), .val (.int (4 : Int32)), .val (.ref b1), .val (.int (3 : Int32))] [(.int c3), (.int (3 : Int32)), (.ref b1)])) rfl (by rw [hml]; rfl) (argsL := [(.ref b1), (.int (3 : Int32)), (.int c3)]) (rest := []) (lenOf pd_pc rfl) rfl (by show 2 * 0 + _ ≤ _; exact Nat.le_of_eq rfl) (hb hby d20_20) (fun _ _ => ⟨rfl, rfl, (by decide : 1 + 0 ≤ _), (by decide : 8 + 0 ≤ _)⟩)
 dsimp only [Pt.U, Pt.locs, Pt.cells, Pt.slots] at X9 l9 y9 z9 st9 hQ9
 subst l9 y9 z9
 obtain ⟨rfl, N9q, Kp9, Vn9⟩ := hQ9
 have N9 := Fr.app N7 N9q
 have Ac_9 := Ac_7.keep Kp9 (ninS nab nin0)
 have EN_9 := EN_7.keep Kp9 Vx7.nostat
 have K9 := K7.trans Kp9 (fun x hx => by cases List.mem_singleton.mp hx; exact Or.inr gz1)
 have Vx9 : Arv Z T9.heap b1 kb1 .byte (8 : Int32) [.int (StrChars.lo8 c0), .int (StrChars.hi8 c0), .int (StrChars.lo8 c1), .int (StrChars.hi8 c1), .int (StrChars.lo8 c2), .int (StrChars.hi8 c2), .int (StrChars.lo8 c3), .int (StrChars.hi8 c3)] (.int 0) := Vn9
 have pre10 : ∀ t, Steps p.tables e below (T9.setTop (mkF m 33 #[.val (.ref a1), .val (.int (4 : Int32)), .val (.int (4 : Int32)), .val (.ref b1), .val (.int (4 : Int32))] [(.ref b1)])) t → Steps p.tables e below (s₁.setTop (entryFrame m #[(.ref a1), (.int (0 : Int32)), (.int (4 : Int32))] 5)) t := fun t k => pre0 t (by
  show Steps p.tables e below (s₁.setTop (mkF m 0 #[.val (.ref a1), .val (.int (0 : Int32)), .val (.int (4 : Int32)), .unset, .unset] [])) _
  refine XS.iloadN X0.here hx rfl (hb hby d20_0) rfl ?_
  refine st1 _ ?_
  refine XS.astoreN X1.here hx rfl (hb hby d20_4) rfl rfl (l' := #[.val (.ref a1), .val (.int (0 : Int32)), .val (.int (4 : Int32)), .val (.ref b1), .unset]) rfl ?_
  refine XS.iconst X1.here hx rfl (hb hby d20_5) ?_
  refine XS.istore X1.here hx rfl (hb hby d20_6) rfl (l' := #[.val (.ref a1), .val (.int (0 : Int32)), .val (.int (4 : Int32)), .val (.ref b1), .val (.int (0 : Int32))]) rfl ?_
  refine XS.iload X1.here hx rfl (hb hby d20_8) rfl ?_
  refine XS.iloadN X1.here hx rfl (hb hby d20_10) rfl ?_
  refine XS.icmpNo X1.here hx rfl (hb hby d20_11) rfl (tlt (by decide : (0 : Int32) < (4 : Int32))).2.1 ?_
  refine XS.aloadN X1.here hx rfl (hb hby d20_14) rfl rfl ?_
  refine XS.iload X1.here hx rfl (hb hby d20_15) rfl ?_
  refine XS.aloadN X1.here hx rfl (hb hby d20_17) rfl rfl ?_
  refine XS.iloadN X1.here hx rfl (hb hby d20_18) rfl ?_
  refine X1.caload hx (j := (0 : Int32)) (v := (.int c0)) Ar2.1 (State.isArrayOf_alike hZ.alike Ar2.2.1) Ar2.2.2 hin2 (Has.at Ha2 hin2 rfl) (g := (mkF m 19 #[.val (.ref a1), .val (.int (0 : Int32)), .val (.int (4 : Int32)), .val (.ref b1), .val (.int (0 : Int32))] [(.int (0 : Int32)), (.ref a1), (.int (0 : Int32)), (.ref b1)])) rfl rfl (hb hby d20_19) _ ?_
  refine st3 _ ?_
  refine XS.iinc X3.here hx rfl (hb hby d20_23) rfl (l' := #[.val (.ref a1), .val (.int ((0 : Int32) + (1 : Int32))), .val (.int (4 : Int32)), .val (.ref b1), .val (.int (0 : Int32))]) rfl ?_
  show Steps p.tables e below (T3.setTop (mkF m 26 #[.val (.ref a1), .val (.int ((0 : Int32) + (1 : Int32))), .val (.int (4 : Int32)), .val (.ref b1), .val (.int (0 : Int32))] [])) _
  rw [show ((0 : Int32) + (1 : Int32)) = (1 : Int32) from by decide]
  refine XS.iinc X3.here hx rfl (hb hby d20_26) rfl (l' := #[.val (.ref a1), .val (.int (1 : Int32)), .val (.int (4 : Int32)), .val (.ref b1), .val (.int ((0 : Int32) + (1 : Int32)))]) rfl ?_
  show Steps p.tables e below (T3.setTop (mkF m 29 #[.val (.ref a1), .val (.int (1 : Int32)), .val (.int (4 : Int32)), .val (.ref b1), .val (.int ((0 : Int32) + (1 : Int32)))] [])) _
  rw [show ((0 : Int32) + (1 : Int32)) = (1 : Int32) from by decide]
  refine XS.goto X3.here hx rfl (pc0 := 29) (pc' := 8) rfl (hb hby d20_29) (by decide) (by decide) ?_
  refine XS.iload X3.here hx rfl (hb hby d20_8) rfl ?_
  refine XS.iloadN X3.here hx rfl (hb hby d20_10) rfl ?_
  refine XS.icmpNo X3.here hx rfl (hb hby d20_11) rfl (tlt (by decide : (1 : Int32) < (4 : Int32))).2.1 ?_
  refine XS.aloadN X3.here hx rfl (hb hby d20_14) rfl rfl ?_
  refine XS.iload X3.here hx rfl (hb hby d20_15) rfl ?_
  refine XS.aloadN X3.here hx rfl (hb hby d20_17) rfl rfl ?_
  refine XS.iloadN X3.here hx rfl (hb hby d20_18) rfl ?_
  refine X3.caload hx (j := (1 : Int32)) (v := (.int c1)) Ar4.1 (State.isArrayOf_alike hZ.alike Ar4.2.1) Ar4.2.2 hin4 (Has.at Ha4 hin4 rfl) (g := (mkF m 19 #[.val (.ref a1), .val (.int (1 : Int32)), .val (.int (4 : Int32)), .val (.ref b1), .val (.int (1 : Int32))] [(.int (1 : Int32)), (.ref a1), (.int (1 : Int32)), (.ref b1)])) rfl rfl (hb hby d20_19) _ ?_
  refine st5 _ ?_
  refine XS.iinc X5.here hx rfl (hb hby d20_23) rfl (l' := #[.val (.ref a1), .val (.int ((1 : Int32) + (1 : Int32))), .val (.int (4 : Int32)), .val (.ref b1), .val (.int (1 : Int32))]) rfl ?_
  show Steps p.tables e below (T5.setTop (mkF m 26 #[.val (.ref a1), .val (.int ((1 : Int32) + (1 : Int32))), .val (.int (4 : Int32)), .val (.ref b1), .val (.int (1 : Int32))] [])) _
  rw [show ((1 : Int32) + (1 : Int32)) = (2 : Int32) from by decide]
  refine XS.iinc X5.here hx rfl (hb hby d20_26) rfl (l' := #[.val (.ref a1), .val (.int (2 : Int32)), .val (.int (4 : Int32)), .val (.ref b1), .val (.int ((1 : Int32) + (1 : Int32)))]) rfl ?_
  show Steps p.tables e below (T5.setTop (mkF m 29 #[.val (.ref a1), .val (.int (2 : Int32)), .val (.int (4 : Int32)), .val (.ref b1), .val (.int ((1 : Int32) + (1 : Int32)))] [])) _
  rw [show ((1 : Int32) + (1 : Int32)) = (2 : Int32) from by decide]
  refine XS.goto X5.here hx rfl (pc0 := 29) (pc' := 8) rfl (hb hby d20_29) (by decide) (by decide) ?_
  refine XS.iload X5.here hx rfl (hb hby d20_8) rfl ?_
  refine XS.iloadN X5.here hx rfl (hb hby d20_10) rfl ?_
  refine XS.icmpNo X5.here hx rfl (hb hby d20_11) rfl (tlt (by decide : (2 : Int32) < (4 : Int32))).2.1 ?_
  refine XS.aloadN X5.here hx rfl (hb hby d20_14) rfl rfl ?_
  refine XS.iload X5.here hx rfl (hb hby d20_15) rfl ?_
  refine XS.aloadN X5.here hx rfl (hb hby d20_17) rfl rfl ?_
  refine XS.iloadN X5.here hx rfl (hb hby d20_18) rfl ?_
  refine X5.caload hx (j := (2 : Int32)) (v := (.int c2)) Ar6.1 (State.isArrayOf_alike hZ.alike Ar6.2.1) Ar6.2.2 hin6 (Has.at Ha6 hin6 rfl) (g := (mkF m 19 #[.val (.ref a1), .val (.int (2 : Int32)), .val (.int (4 : Int32)), .val (.ref b1), .val (.int (2 : Int32))] [(.int (2 : Int32)), (.ref a1), (.int (2 : Int32)), (.ref b1)])) rfl rfl (hb hby d20_19) _ ?_
  refine st7 _ ?_
  refine XS.iinc X7.here hx rfl (hb hby d20_23) rfl (l' := #[.val (.ref a1), .val (.int ((2 : Int32) + (1 : Int32))), .val (.int (4 : Int32)), .val (.ref b1), .val (.int (2 : Int32))]) rfl ?_
  show Steps p.tables e below (T7.setTop (mkF m 26 #[.val (.ref a1), .val (.int ((2 : Int32) + (1 : Int32))), .val (.int (4 : Int32)), .val (.ref b1), .val (.int (2 : Int32))] [])) _
  rw [show ((2 : Int32) + (1 : Int32)) = (3 : Int32) from by decide]
  refine XS.iinc X7.here hx rfl (hb hby d20_26) rfl (l' := #[.val (.ref a1), .val (.int (3 : Int32)), .val (.int (4 : Int32)), .val (.ref b1), .val (.int ((2 : Int32) + (1 : Int32)))]) rfl ?_
  show Steps p.tables e below (T7.setTop (mkF m 29 #[.val (.ref a1), .val (.int (3 : Int32)), .val (.int (4 : Int32)), .val (.ref b1), .val (.int ((2 : Int32) + (1 : Int32)))] [])) _
  rw [show ((2 : Int32) + (1 : Int32)) = (3 : Int32) from by decide]
  refine XS.goto X7.here hx rfl (pc0 := 29) (pc' := 8) rfl (hb hby d20_29) (by decide) (by decide) ?_
  refine XS.iload X7.here hx rfl (hb hby d20_8) rfl ?_
  refine XS.iloadN X7.here hx rfl (hb hby d20_10) rfl ?_
  refine XS.icmpNo X7.here hx rfl (hb hby d20_11) rfl (tlt (by decide : (3 : Int32) < (4 : Int32))).2.1 ?_
  refine XS.aloadN X7.here hx rfl (hb hby d20_14) rfl rfl ?_
  refine XS.iload X7.here hx rfl (hb hby d20_15) rfl ?_
  refine XS.aloadN X7.here hx rfl (hb hby d20_17) rfl rfl ?_
  refine XS.iloadN X7.here hx rfl (hb hby d20_18) rfl ?_
  refine X7.caload hx (j := (3 : Int32)) (v := (.int c3)) Ar8.1 (State.isArrayOf_alike hZ.alike Ar8.2.1) Ar8.2.2 hin8 (Has.at Ha8 hin8 rfl) (g := (mkF m 19 #[.val (.ref a1), .val (.int (3 : Int32)), .val (.int (4 : Int32)), .val (.ref b1), .val (.int (3 : Int32))] [(.int (3 : Int32)), (.ref a1), (.int (3 : Int32)), (.ref b1)])) rfl rfl (hb hby d20_19) _ ?_
  refine st9 _ ?_
  refine XS.iinc X9.here hx rfl (hb hby d20_23) rfl (l' := #[.val (.ref a1), .val (.int ((3 : Int32) + (1 : Int32))), .val (.int (4 : Int32)), .val (.ref b1), .val (.int (3 : Int32))]) rfl ?_
  show Steps p.tables e below (T9.setTop (mkF m 26 #[.val (.ref a1), .val (.int ((3 : Int32) + (1 : Int32))), .val (.int (4 : Int32)), .val (.ref b1), .val (.int (3 : Int32))] [])) _
  rw [show ((3 : Int32) + (1 : Int32)) = (4 : Int32) from by decide]
  refine XS.iinc X9.here hx rfl (hb hby d20_26) rfl (l' := #[.val (.ref a1), .val (.int (4 : Int32)), .val (.int (4 : Int32)), .val (.ref b1), .val (.int ((3 : Int32) + (1 : Int32)))]) rfl ?_
  show Steps p.tables e below (T9.setTop (mkF m 29 #[.val (.ref a1), .val (.int (4 : Int32)), .val (.int (4 : Int32)), .val (.ref b1), .val (.int ((3 : Int32) + (1 : Int32)))] [])) _
  rw [show ((3 : Int32) + (1 : Int32)) = (4 : Int32) from by decide]
  refine XS.goto X9.here hx rfl (pc0 := 29) (pc' := 8) rfl (hb hby d20_29) (by decide) (by decide) ?_
  refine XS.iload X9.here hx rfl (hb hby d20_8) rfl ?_
  refine XS.iloadN X9.here hx rfl (hb hby d20_10) rfl ?_
  refine XS.icmpYes X9.here hx rfl (pc0 := 11) (pc' := 32) rfl (hb hby d20_11) rfl (flt (by decide : ¬ ((4 : Int32) < (4 : Int32)))).2.1 (by decide) (by decide) ?_
  refine XS.aloadN X9.here hx rfl (hb hby d20_32) rfl rfl ?_
  exact k)
 obtain ⟨fs11, hr11, hrun11, hended11, hW11, hsame11⟩ := X9.leave (v := some (.ref b1)) (fun h => by rw [Bd.returns] at h; cases h)
 refine ⟨_, _, pre10 _ ?_, hrun11, hended11, _, _, rfl, ?_, ⟨_, rfl⟩, hW11, hsame11.mono (by decide) (by decide)⟩
 ·show Steps p.tables e below (T9.setTop (mkF m 33 #[.val (.ref a1), .val (.int (4 : Int32)), .val (.int (4 : Int32)), .val (.ref b1), .val (.int (4 : Int32))] [(.ref b1)])) _
  exact retOut X9 hx (t := (.array .byte)) Bd.returns rfl (Or.inr (Or.inr (Or.inr (Or.inr ⟨rfl, rfl, rfl⟩)))) (hb hby d20_33) hr11
 ·show Qtb4 Z a1 kc c0 c1 c2 c3 h0 n0 _ T9.heap _
  exact ⟨_, _, rfl, N9, own_ext K9, Vx9⟩


def Qcp4 (Z : State) (a1 a2 : Addr) (kc kd : ClassId) (c0 c1 c2 c3 : Int32) (h0 : Heap) (n0 : Nat) (v : Option Value) (h : Heap) (L : List Loc) : Prop := ∃ j : Int32, v = some (.int j) ∧ Fr n0 L ∧ Keep h0 h [a2] ∧ ((j = (0 : Int32) ∧ (255 : Int32) < c0) ∨ (j = (1 : Int32) ∧ (255 : Int32) < c1) ∨ (j = (2 : Int32) ∧ (255 : Int32) < c2) ∨ (j = (3 : Int32) ∧ (255 : Int32) < c3) ∨ (j = (4 : Int32) ∧ (¬ (255 : Int32) < c0 ∧ ¬ (255 : Int32) < c1 ∧ ¬ (255 : Int32) < c2 ∧ ¬ (255 : Int32) < c3) ∧ Arv Z h a2 kd .byte (4 : Int32) ([c0, c1, c2, c3].map fun c => Value.int (StrChars.lo8 c)) (.int 0)))
set_option maxRecDepth 65536 in
set_option maxHeartbeats 40000000 in
theorem rmcp4 (l : Launch) (Z : State) (a0 : Array Value) (hw : ∀ d ∈ tables_1, d.before a0 Z = true) (ws : List Jvm.Cond) (a1 a2 : Addr) (kc kd : ClassId) (c0 c1 c2 c3 : Int32) (h0 : Heap) (n0 : Nat) (Z0 : n0 ≤ h0.size) (Ac : Arv Z h0 a1 kc .char (4 : Int32) ([c0, c1, c2, c3].map Value.int) (.int 0)) (Vd : Arv Z h0 a2 kd .byte (4 : Int32) [.int 0, .int 0, .int 0, .int 0] (.int 0)) (hne : a1 ≠ a2) (gd : n0 ≤ a2) :
  own_M l Z own_z15 jdk_52_method_21_code 7 (some .int) ({ frames := 0, cells := 0, slots := 0, locals := 0 } : Room) ws #[(.ref a1), (.int (0 : Int32)), (.ref a2), (.int (0 : Int32)), (.int (4 : Int32))] h0 (Qcp4 Z a1 a2 kc kd c0 c1 c2 c3 h0 n0) := by
 refine MetFree.of_bodySF (plainFor_of_name pn_k5) hisR ?_
 intro p e s m args below meth c s₁ Bd hml0 hP hK
 obtain ⟨rfl, hZ, hh⟩ := hP
 have hx := Bd.exec
 have hby := Bd.bytes
 have hml : c.maxLocals = 7 := hml0
 have hown : s.vm.findClass "java/lang/StringUTF16" = some m.cls := findClass_of_methodNamed Bd.named
 have hnm := (name_of_methodNamed Bd.named Bd.method).1
 have X0 : Stand p l e ({ frames := 0, cells := 0, slots := 0, locals := 0 } : Room) s m #[(.ref a1), (.int (0 : Int32)), (.ref a2), (.int (0 : Int32)), (.int (4 : Int32))] below meth c s₁ [] 0 0 := Stand.of_body Bd
 have e0 : s₁.heap = h0 := by rw [← hh, Bd.state]; rfl
 have N0 := Fr.nil n0
 have pre0 : ∀ t, Steps p.tables e below (s₁.setTop (mkF m 0 #[.val (.ref a1), .val (.int (0 : Int32)), .val (.ref a2), .val (.int (0 : Int32)), .val (.int (4 : Int32)), .unset, .unset] [])) t → Steps p.tables e below (s₁.setTop (entryFrame m #[(.ref a1), (.int (0 : Int32)), (.ref a2), (.int (0 : Int32)), (.int (4 : Int32))] 7)) t := fun t k => castTop (ef_cp1 m a1 (0 : Int32) a2 (0 : Int32) (4 : Int32)) k
 have Vc1 := Ac
 obtain ⟨cl1, Ar1, qq1, sz1, nn1, Ha1, Gf1⟩ := Vc1
 have hin1 : ¬ ((0 : Int32) < 0 ∨ cl1.slots.size ≤ ((0 : Int32)).toNatClampNeg) := inb_of sz1 ⟨by decide, by decide⟩
 have pre2 : ∀ t, Steps p.tables e below (s₁.setTop (mkF m 20 #[.val (.ref a1), .val (.int (0 : Int32)), .val (.ref a2), .val (.int (0 : Int32)), .val (.int (4 : Int32)), .val (.int (0 : Int32)), .val (.int c0)] [(.int (255 : Int32)), (.int c0)])) t → Steps p.tables e below (s₁.setTop (entryFrame m #[(.ref a1), (.int (0 : Int32)), (.ref a2), (.int (0 : Int32)), (.int (4 : Int32))] 7)) t := fun t k => pre0 t (by
  show Steps p.tables e below (s₁.setTop (mkF m 0 #[.val (.ref a1), .val (.int (0 : Int32)), .val (.ref a2), .val (.int (0 : Int32)), .val (.int (4 : Int32)), .unset, .unset] [])) _
  refine XS.iconst X0.here hx rfl (hb hby d16_0) ?_
  refine XS.istore X0.here hx rfl (hb hby d16_1) rfl (l' := #[.val (.ref a1), .val (.int (0 : Int32)), .val (.ref a2), .val (.int (0 : Int32)), .val (.int (4 : Int32)), .val (.int (0 : Int32)), .unset]) rfl ?_
  refine XS.iload X0.here hx rfl (hb hby d16_3) rfl ?_
  refine XS.iload X0.here hx rfl (hb hby d16_5) rfl ?_
  refine XS.icmpNo X0.here hx rfl (hb hby d16_7) rfl (tlt (by decide : (0 : Int32) < (4 : Int32))).2.1 ?_
  refine XS.aloadN X0.here hx rfl (hb hby d16_10) rfl rfl ?_
  refine XS.iloadN X0.here hx rfl (hb hby d16_11) rfl ?_
  refine X0.caload hx (j := (0 : Int32)) (v := (.int c0)) (by rw [e0]; exact Ar1.1) (State.isArrayOf_alike hZ.alike Ar1.2.1) Ar1.2.2 hin1 (Has.at Ha1 hin1 rfl) (g := (mkF m 12 #[.val (.ref a1), .val (.int (0 : Int32)), .val (.ref a2), .val (.int (0 : Int32)), .val (.int (4 : Int32)), .val (.int (0 : Int32)), .unset] [(.int (0 : Int32)), (.ref a1)])) rfl rfl (hb hby d16_12) _ ?_
  refine XS.istore X0.here hx rfl (hb hby d16_13) rfl (l' := #[.val (.ref a1), .val (.int (0 : Int32)), .val (.ref a2), .val (.int (0 : Int32)), .val (.int (4 : Int32)), .val (.int (0 : Int32)), .val (.int c0)]) rfl ?_
  refine XS.iload X0.here hx rfl (hb hby d16_15) rfl ?_
  refine XS.sipush X0.here hx rfl (hb hby d16_17) ?_
  exact k)
 by_cases hc20 : (255 : Int32) < c0
 ·have pre3 : ∀ t, Steps p.tables e below (s₁.setTop (mkF m 25 #[.val (.ref a1), .val (.int (0 : Int32)), .val (.ref a2), .val (.int (0 : Int32)), .val (.int (4 : Int32)), .val (.int (0 : Int32)), .val (.int c0)] [(.int (0 : Int32))])) t → Steps p.tables e below (s₁.setTop (entryFrame m #[(.ref a1), (.int (0 : Int32)), (.ref a2), (.int (0 : Int32)), (.int (4 : Int32))] 7)) t := fun t k => pre2 t (by
   show Steps p.tables e below (s₁.setTop (mkF m 20 #[.val (.ref a1), .val (.int (0 : Int32)), .val (.ref a2), .val (.int (0 : Int32)), .val (.int (4 : Int32)), .val (.int (0 : Int32)), .val (.int c0)] [(.int (255 : Int32)), (.int c0)])) _
   refine XS.icmpNo X0.here hx rfl (hb hby d16_20) rfl (tlt hc20).2.2.2 ?_
   refine XS.iload X0.here hx rfl (hb hby d16_23) rfl ?_
   exact k)
  obtain ⟨fs4, hr4, hrun4, hended4, hW4, hsame4⟩ := X0.leave (v := some (.int (0 : Int32))) (fun h => by rw [Bd.returns] at h; cases h)
  refine ⟨_, _, pre3 _ ?_, hrun4, hended4, _, _, rfl, ?_, ⟨_, rfl⟩, hW4, hsame4.mono (by decide) (by decide)⟩
  ·show Steps p.tables e below (s₁.setTop (mkF m 25 #[.val (.ref a1), .val (.int (0 : Int32)), .val (.ref a2), .val (.int (0 : Int32)), .val (.int (4 : Int32)), .val (.int (0 : Int32)), .val (.int c0)] [(.int (0 : Int32))])) _
   exact retOut X0 hx (t := .int) Bd.returns rfl (Or.inl ⟨rfl, Or.inl rfl, _, rfl⟩) (hb hby d16_25) hr4
  ·show Qcp4 Z a1 a2 kc kd c0 c1 c2 c3 h0 n0 _ s₁.heap _
   rw [e0]
   exact ⟨_, rfl, N0, (Keep.refl h0 [a2]), Or.inl ⟨rfl, hc20⟩⟩
 have Vc5 := Vd
 obtain ⟨cl5, Ar5, qq5, sz5, nn5, Ha5, Gf5⟩ := Vc5
 have hin5 : ¬ ((0 : Int32) < 0 ∨ cl5.slots.size ≤ ((0 : Int32)).toNatClampNeg) := inb_of sz5 ⟨by decide, by decide⟩
 obtain ⟨T6, h6, X6, e6, W6, st6⟩ := stB X0 hx hZ e0 Ar5 (j := (0 : Int32)) hin5 (g := (mkF m 31 #[.val (.ref a1), .val (.int (0 : Int32)), .val (.ref a2), .val (.int (0 : Int32)), .val (.int (4 : Int32)), .val (.int (0 : Int32)), .val (.int c0)] [(.int (c0.toInt8.toInt32)), (.int (0 : Int32)), (.ref a2)])) rfl rfl (hb hby d16_31)
 have N6 := Fr.snoc X6 N0 gd
 have Ac_6 := Ac.other W6 hne
 have Vd_6 := Arv.set Ar5 qq5 sz5 nn5 Ha5 Gf5 (fits_nar_byte _) W6 0 rfl (Nat.le_of_ble_eq_true rfl)
 have Vc7 := Ac_6
 obtain ⟨cl7, Ar7, qq7, sz7, nn7, Ha7, Gf7⟩ := Vc7
 have hin7 : ¬ ((1 : Int32) < 0 ∨ cl7.slots.size ≤ ((1 : Int32)).toNatClampNeg) := inb_of sz7 ⟨by decide, by decide⟩
 have pre8 : ∀ t, Steps p.tables e below (T6.setTop (mkF m 20 #[.val (.ref a1), .val (.int (1 : Int32)), .val (.ref a2), .val (.int (1 : Int32)), .val (.int (4 : Int32)), .val (.int (1 : Int32)), .val (.int c1)] [(.int (255 : Int32)), (.int c1)])) t → Steps p.tables e below (s₁.setTop (entryFrame m #[(.ref a1), (.int (0 : Int32)), (.ref a2), (.int (0 : Int32)), (.int (4 : Int32))] 7)) t := fun t k => pre2 t (by
  show Steps p.tables e below (s₁.setTop (mkF m 20 #[.val (.ref a1), .val (.int (0 : Int32)), .val (.ref a2), .val (.int (0 : Int32)), .val (.int (4 : Int32)), .val (.int (0 : Int32)), .val (.int c0)] [(.int (255 : Int32)), (.int c0)])) _
  refine XS.icmpYes X0.here hx rfl (pc0 := 20) (pc' := 26) rfl (hb hby d16_20) rfl (flt hc20).2.2.2 (by decide) (by decide) ?_
  refine XS.aloadN X0.here hx rfl (hb hby d16_26) rfl rfl ?_
  refine XS.iloadN X0.here hx rfl (hb hby d16_27) rfl ?_
  refine XS.iload X0.here hx rfl (hb hby d16_28) rfl ?_
  refine XS.i2b X0.here hx rfl (hb hby d16_30) rfl ?_
  refine st6 _ ?_
  refine XS.iinc X6.here hx rfl (hb hby d16_32) rfl (l' := #[.val (.ref a1), .val (.int ((0 : Int32) + (1 : Int32))), .val (.ref a2), .val (.int (0 : Int32)), .val (.int (4 : Int32)), .val (.int (0 : Int32)), .val (.int c0)]) rfl ?_
  show Steps p.tables e below (T6.setTop (mkF m 35 #[.val (.ref a1), .val (.int ((0 : Int32) + (1 : Int32))), .val (.ref a2), .val (.int (0 : Int32)), .val (.int (4 : Int32)), .val (.int (0 : Int32)), .val (.int c0)] [])) _
  rw [show ((0 : Int32) + (1 : Int32)) = (1 : Int32) from by decide]
  refine XS.iinc X6.here hx rfl (hb hby d16_35) rfl (l' := #[.val (.ref a1), .val (.int (1 : Int32)), .val (.ref a2), .val (.int ((0 : Int32) + (1 : Int32))), .val (.int (4 : Int32)), .val (.int (0 : Int32)), .val (.int c0)]) rfl ?_
  show Steps p.tables e below (T6.setTop (mkF m 38 #[.val (.ref a1), .val (.int (1 : Int32)), .val (.ref a2), .val (.int ((0 : Int32) + (1 : Int32))), .val (.int (4 : Int32)), .val (.int (0 : Int32)), .val (.int c0)] [])) _
  rw [show ((0 : Int32) + (1 : Int32)) = (1 : Int32) from by decide]
  refine XS.iinc X6.here hx rfl (hb hby d16_38) rfl (l' := #[.val (.ref a1), .val (.int (1 : Int32)), .val (.ref a2), .val (.int (1 : Int32)), .val (.int (4 : Int32)), .val (.int ((0 : Int32) + (1 : Int32))), .val (.int c0)]) rfl ?_
  show Steps p.tables e below (T6.setTop (mkF m 41 #[.val (.ref a1), .val (.int (1 : Int32)), .val (.ref a2), .val (.int (1 : Int32)), .val (.int (4 : Int32)), .val (.int ((0 : Int32) + (1 : Int32))), .val (.int c0)] [])) _
  rw [show ((0 : Int32) + (1 : Int32)) = (1 : Int32) from by decide]
  refine XS.goto X6.here hx rfl (pc0 := 41) (pc' := 3) rfl (hb hby d16_41) (by decide) (by decide) ?_
  refine XS.iload X6.here hx rfl (hb hby d16_3) rfl ?_
  refine XS.iload X6.here hx rfl (hb hby d16_5) rfl ?_
  refine XS.icmpNo X6.here hx rfl (hb hby d16_7) rfl (tlt (by decide : (1 : Int32) < (4 : Int32))).2.1 ?_
  refine XS.aloadN X6.here hx rfl (hb hby d16_10) rfl rfl ?_
  refine XS.iloadN X6.here hx rfl (hb hby d16_11) rfl ?_
  refine X6.caload hx (j := (1 : Int32)) (v := (.int c1)) (by rw [e6]; exact Ar7.1) (State.isArrayOf_alike hZ.alike Ar7.2.1) Ar7.2.2 hin7 (Has.at Ha7 hin7 rfl) (g := (mkF m 12 #[.val (.ref a1), .val (.int (1 : Int32)), .val (.ref a2), .val (.int (1 : Int32)), .val (.int (4 : Int32)), .val (.int (1 : Int32)), .val (.int c0)] [(.int (1 : Int32)), (.ref a1)])) rfl rfl (hb hby d16_12) _ ?_
  refine XS.istore X6.here hx rfl (hb hby d16_13) rfl (l' := #[.val (.ref a1), .val (.int (1 : Int32)), .val (.ref a2), .val (.int (1 : Int32)), .val (.int (4 : Int32)), .val (.int (1 : Int32)), .val (.int c1)]) rfl ?_
  refine XS.iload X6.here hx rfl (hb hby d16_15) rfl ?_
  refine XS.sipush X6.here hx rfl (hb hby d16_17) ?_
  exact k)
 by_cases hc20_9 : (255 : Int32) < c1
 ·have pre10 : ∀ t, Steps p.tables e below (T6.setTop (mkF m 25 #[.val (.ref a1), .val (.int (1 : Int32)), .val (.ref a2), .val (.int (1 : Int32)), .val (.int (4 : Int32)), .val (.int (1 : Int32)), .val (.int c1)] [(.int (1 : Int32))])) t → Steps p.tables e below (s₁.setTop (entryFrame m #[(.ref a1), (.int (0 : Int32)), (.ref a2), (.int (0 : Int32)), (.int (4 : Int32))] 7)) t := fun t k => pre8 t (by
   show Steps p.tables e below (T6.setTop (mkF m 20 #[.val (.ref a1), .val (.int (1 : Int32)), .val (.ref a2), .val (.int (1 : Int32)), .val (.int (4 : Int32)), .val (.int (1 : Int32)), .val (.int c1)] [(.int (255 : Int32)), (.int c1)])) _
   refine XS.icmpNo X6.here hx rfl (hb hby d16_20) rfl (tlt hc20_9).2.2.2 ?_
   refine XS.iload X6.here hx rfl (hb hby d16_23) rfl ?_
   exact k)
  obtain ⟨fs11, hr11, hrun11, hended11, hW11, hsame11⟩ := X6.leave (v := some (.int (1 : Int32))) (fun h => by rw [Bd.returns] at h; cases h)
  refine ⟨_, _, pre10 _ ?_, hrun11, hended11, _, _, rfl, ?_, ⟨_, rfl⟩, hW11, hsame11.mono (by decide) (by decide)⟩
  ·show Steps p.tables e below (T6.setTop (mkF m 25 #[.val (.ref a1), .val (.int (1 : Int32)), .val (.ref a2), .val (.int (1 : Int32)), .val (.int (4 : Int32)), .val (.int (1 : Int32)), .val (.int c1)] [(.int (1 : Int32))])) _
   exact retOut X6 hx (t := .int) Bd.returns rfl (Or.inl ⟨rfl, Or.inl rfl, _, rfl⟩) (hb hby d16_25) hr11
  ·show Qcp4 Z a1 a2 kc kd c0 c1 c2 c3 h0 n0 _ T6.heap _
   rw [e6]
   exact ⟨_, rfl, N6, ((Keep.refl h0 [a2]).wr W6 (Or.inl (List.mem_singleton.mpr rfl))), Or.inr (Or.inl ⟨rfl, hc20_9⟩)⟩
 have Vc12 := Vd_6
 obtain ⟨cl12, Ar12, qq12, sz12, nn12, Ha12, Gf12⟩ := Vc12
 have hin12 : ¬ ((1 : Int32) < 0 ∨ cl12.slots.size ≤ ((1 : Int32)).toNatClampNeg) := inb_of sz12 ⟨by decide, by decide⟩
 obtain ⟨T13, h13, X13, e13, W13, st13⟩ := stB X6 hx hZ e6 Ar12 (j := (1 : Int32)) hin12 (g := (mkF m 31 #[.val (.ref a1), .val (.int (1 : Int32)), .val (.ref a2), .val (.int (1 : Int32)), .val (.int (4 : Int32)), .val (.int (1 : Int32)), .val (.int c1)] [(.int (c1.toInt8.toInt32)), (.int (1 : Int32)), (.ref a2)])) rfl rfl (hb hby d16_31)
 have N13 := Fr.snoc X13 N6 gd
 have Ac_13 := Ac_6.other W13 hne
 have Vd_13 := Arv.set Ar12 qq12 sz12 nn12 Ha12 Gf12 (fits_nar_byte _) W13 1 rfl (Nat.le_of_ble_eq_true rfl)
 have Vc14 := Ac_13
 obtain ⟨cl14, Ar14, qq14, sz14, nn14, Ha14, Gf14⟩ := Vc14
 have hin14 : ¬ ((2 : Int32) < 0 ∨ cl14.slots.size ≤ ((2 : Int32)).toNatClampNeg) := inb_of sz14 ⟨by decide, by decide⟩
 have pre15 : ∀ t, Steps p.tables e below (T13.setTop (mkF m 20 #[.val (.ref a1), .val (.int (2 : Int32)), .val (.ref a2), .val (.int (2 : Int32)), .val (.int (4 : Int32)), .val (.int (2 : Int32)), .val (.int c2)] [(.int (255 : Int32)), (.int c2)])) t → Steps p.tables e below (s₁.setTop (entryFrame m #[(.ref a1), (.int (0 : Int32)), (.ref a2), (.int (0 : Int32)), (.int (4 : Int32))] 7)) t := fun t k => pre8 t (by
  show Steps p.tables e below (T6.setTop (mkF m 20 #[.val (.ref a1), .val (.int (1 : Int32)), .val (.ref a2), .val (.int (1 : Int32)), .val (.int (4 : Int32)), .val (.int (1 : Int32)), .val (.int c1)] [(.int (255 : Int32)), (.int c1)])) _
  refine XS.icmpYes X6.here hx rfl (pc0 := 20) (pc' := 26) rfl (hb hby d16_20) rfl (flt hc20_9).2.2.2 (by decide) (by decide) ?_
  refine XS.aloadN X6.here hx rfl (hb hby d16_26) rfl rfl ?_
  refine XS.iloadN X6.here hx rfl (hb hby d16_27) rfl ?_
  refine XS.iload X6.here hx rfl (hb hby d16_28) rfl ?_
  refine XS.i2b X6.here hx rfl (hb hby d16_30) rfl ?_
  refine st13 _ ?_
  refine XS.iinc X13.here hx rfl (hb hby d16_32) rfl (l' := #[.val (.ref a1), .val (.int ((1 : Int32) + (1 : Int32))), .val (.ref a2), .val (.int (1 : Int32)), .val (.int (4 : Int32)), .val (.int (1 : Int32)), .val (.int c1)]) rfl ?_
  show Steps p.tables e below (T13.setTop (mkF m 35 #[.val (.ref a1), .val (.int ((1 : Int32) + (1 : Int32))), .val (.ref a2), .val (.int (1 : Int32)), .val (.int (4 : Int32)), .val (.int (1 : Int32)), .val (.int c1)] [])) _
  rw [show ((1 : Int32) + (1 : Int32)) = (2 : Int32) from by decide]
  refine XS.iinc X13.here hx rfl (hb hby d16_35) rfl (l' := #[.val (.ref a1), .val (.int (2 : Int32)), .val (.ref a2), .val (.int ((1 : Int32) + (1 : Int32))), .val (.int (4 : Int32)), .val (.int (1 : Int32)), .val (.int c1)]) rfl ?_
  show Steps p.tables e below (T13.setTop (mkF m 38 #[.val (.ref a1), .val (.int (2 : Int32)), .val (.ref a2), .val (.int ((1 : Int32) + (1 : Int32))), .val (.int (4 : Int32)), .val (.int (1 : Int32)), .val (.int c1)] [])) _
  rw [show ((1 : Int32) + (1 : Int32)) = (2 : Int32) from by decide]
  refine XS.iinc X13.here hx rfl (hb hby d16_38) rfl (l' := #[.val (.ref a1), .val (.int (2 : Int32)), .val (.ref a2), .val (.int (2 : Int32)), .val (.int (4 : Int32)), .val (.int ((1 : Int32) + (1 : Int32))), .val (.int c1)]) rfl ?_
  show Steps p.tables e below (T13.setTop (mkF m 41 #[.val (.ref a1), .val (.int (2 : Int32)), .val (.ref a2), .val (.int (2 : Int32)), .val (.int (4 : Int32)), .val (.int ((1 : Int32) + (1 : Int32))), .val (.int c1)] [])) _
  rw [show ((1 : Int32) + (1 : Int32)) = (2 : Int32) from by decide]
  refine XS.goto X13.here hx rfl (pc0 := 41) (pc' := 3) rfl (hb hby d16_41) (by decide) (by decide) ?_
  refine XS.iload X13.here hx rfl (hb hby d16_3) rfl ?_
  refine XS.iload X13.here hx rfl (hb hby d16_5) rfl ?_
  refine XS.icmpNo X13.here hx rfl (hb hby d16_7) rfl (tlt (by decide : (2 : Int32) < (4 : Int32))).2.1 ?_
  refine XS.aloadN X13.here hx rfl (hb hby d16_10) rfl rfl ?_
  refine XS.iloadN X13.here hx rfl (hb hby d16_11) rfl ?_
  refine X13.caload hx (j := (2 : Int32)) (v := (.int c2)) (by rw [e13]; exact Ar14.1) (State.isArrayOf_alike hZ.alike Ar14.2.1) Ar14.2.2 hin14 (Has.at Ha14 hin14 rfl) (g := (mkF m 12 #[.val (.ref a1), .val (.int (2 : Int32)), .val (.ref a2), .val (.int (2 : Int32)), .val (.int (4 : Int32)), .val (.int (2 : Int32)), .val (.int c1)] [(.int (2 : Int32)), (.ref a1)])) rfl rfl (hb hby d16_12) _ ?_
  refine XS.istore X13.here hx rfl (hb hby d16_13) rfl (l' := #[.val (.ref a1), .val (.int (2 : Int32)), .val (.ref a2), .val (.int (2 : Int32)), .val (.int (4 : Int32)), .val (.int (2 : Int32)), .val (.int c2)]) rfl ?_
  refine XS.iload X13.here hx rfl (hb hby d16_15) rfl ?_
  refine XS.sipush X13.here hx rfl (hb hby d16_17) ?_
  exact k)
 by_cases hc20_16 : (255 : Int32) < c2
 ·have pre17 : ∀ t, Steps p.tables e below (T13.setTop (mkF m 25 #[.val (.ref a1), .val (.int (2 : Int32)), .val (.ref a2), .val (.int (2 : Int32)), .val (.int (4 : Int32)), .val (.int (2 : Int32)), .val (.int c2)] [(.int (2 : Int32))])) t → Steps p.tables e below (s₁.setTop (entryFrame m #[(.ref a1), (.int (0 : Int32)), (.ref a2), (.int (0 : Int32)), (.int (4 : Int32))] 7)) t := fun t k => pre15 t (by
   show Steps p.tables e below (T13.setTop (mkF m 20 #[.val (.ref a1), .val (.int (2 : Int32)), .val (.ref a2), .val (.int (2 : Int32)), .val (.int (4 : Int32)), .val (.int (2 : Int32)), .val (.int c2)] [(.int (255 : Int32)), (.int c2)])) _
   refine XS.icmpNo X13.here hx rfl (hb hby d16_20) rfl (tlt hc20_16).2.2.2 ?_
   refine XS.iload X13.here hx rfl (hb hby d16_23) rfl ?_
   exact k)
  obtain ⟨fs18, hr18, hrun18, hended18, hW18, hsame18⟩ := X13.leave (v := some (.int (2 : Int32))) (fun h => by rw [Bd.returns] at h; cases h)
  refine ⟨_, _, pre17 _ ?_, hrun18, hended18, _, _, rfl, ?_, ⟨_, rfl⟩, hW18, hsame18.mono (by decide) (by decide)⟩
  ·show Steps p.tables e below (T13.setTop (mkF m 25 #[.val (.ref a1), .val (.int (2 : Int32)), .val (.ref a2), .val (.int (2 : Int32)), .val (.int (4 : Int32)), .val (.int (2 : Int32)), .val (.int c2)] [(.int (2 : Int32))])) _
   exact retOut X13 hx (t := .int) Bd.returns rfl (Or.inl ⟨rfl, Or.inl rfl, _, rfl⟩) (hb hby d16_25) hr18
  ·show Qcp4 Z a1 a2 kc kd c0 c1 c2 c3 h0 n0 _ T13.heap _
   rw [e13]
   exact ⟨_, rfl, N13, (((Keep.refl h0 [a2]).wr W6 (Or.inl (List.mem_singleton.mpr rfl))).wr W13 (Or.inl (List.mem_singleton.mpr rfl))), Or.inr (Or.inr (Or.inl ⟨rfl, hc20_16⟩))⟩
 have Vc19 := Vd_13
 obtain ⟨cl19, Ar19, qq19, sz19, nn19, Ha19, Gf19⟩ := Vc19
 have hin19 : ¬ ((2 : Int32) < 0 ∨ cl19.slots.size ≤ ((2 : Int32)).toNatClampNeg) := inb_of sz19 ⟨by decide, by decide⟩
 obtain ⟨T20, h20, X20, e20, W20, st20⟩ := stB X13 hx hZ e13 Ar19 (j := (2 : Int32)) hin19 (g := (mkF m 31 #[.val (.ref a1), .val (.int (2 : Int32)), .val (.ref a2), .val (.int (2 : Int32)), .val (.int (4 : Int32)), .val (.int (2 : Int32)), .val (.int c2)] [(.int (c2.toInt8.toInt32)), (.int (2 : Int32)), (.ref a2)])) rfl rfl (hb hby d16_31)
 have N20 := Fr.snoc X20 N13 gd
 have Ac_20 := Ac_13.other W20 hne
 have Vd_20 := Arv.set Ar19 qq19 sz19 nn19 Ha19 Gf19 (fits_nar_byte _) W20 2 rfl (Nat.le_of_ble_eq_true rfl)
 have Vc21 := Ac_20
 obtain ⟨cl21, Ar21, qq21, sz21, nn21, Ha21, Gf21⟩ := Vc21
 have hin21 : ¬ ((3 : Int32) < 0 ∨ cl21.slots.size ≤ ((3 : Int32)).toNatClampNeg) := inb_of sz21 ⟨by decide, by decide⟩
 have pre22 : ∀ t, Steps p.tables e below (T20.setTop (mkF m 20 #[.val (.ref a1), .val (.int (3 : Int32)), .val (.ref a2), .val (.int (3 : Int32)), .val (.int (4 : Int32)), .val (.int (3 : Int32)), .val (.int c3)] [(.int (255 : Int32)), (.int c3)])) t → Steps p.tables e below (s₁.setTop (entryFrame m #[(.ref a1), (.int (0 : Int32)), (.ref a2), (.int (0 : Int32)), (.int (4 : Int32))] 7)) t := fun t k => pre15 t (by
  show Steps p.tables e below (T13.setTop (mkF m 20 #[.val (.ref a1), .val (.int (2 : Int32)), .val (.ref a2), .val (.int (2 : Int32)), .val (.int (4 : Int32)), .val (.int (2 : Int32)), .val (.int c2)] [(.int (255 : Int32)), (.int c2)])) _
  refine XS.icmpYes X13.here hx rfl (pc0 := 20) (pc' := 26) rfl (hb hby d16_20) rfl (flt hc20_16).2.2.2 (by decide) (by decide) ?_
  refine XS.aloadN X13.here hx rfl (hb hby d16_26) rfl rfl ?_
  refine XS.iloadN X13.here hx rfl (hb hby d16_27) rfl ?_
  refine XS.iload X13.here hx rfl (hb hby d16_28) rfl ?_
  refine XS.i2b X13.here hx rfl (hb hby d16_30) rfl ?_
  refine st20 _ ?_
  refine XS.iinc X20.here hx rfl (hb hby d16_32) rfl (l' := #[.val (.ref a1), .val (.int ((2 : Int32) + (1 : Int32))), .val (.ref a2), .val (.int (2 : Int32)), .val (.int (4 : Int32)), .val (.int (2 : Int32)), .val (.int c2)]) rfl ?_
  show Steps p.tables e below (T20.setTop (mkF m 35 #[.val (.ref a1), .val (.int ((2 : Int32) + (1 : Int32))), .val (.ref a2), .val (.int (2 : Int32)), .val (.int (4 : Int32)), .val (.int (2 : Int32)), .val (.int c2)] [])) _
  rw [show ((2 : Int32) + (1 : Int32)) = (3 : Int32) from by decide]
  refine XS.iinc X20.here hx rfl (hb hby d16_35) rfl (l' := #[.val (.ref a1), .val (.int (3 : Int32)), .val (.ref a2), .val (.int ((2 : Int32) + (1 : Int32))), .val (.int (4 : Int32)), .val (.int (2 : Int32)), .val (.int c2)]) rfl ?_
  show Steps p.tables e below (T20.setTop (mkF m 38 #[.val (.ref a1), .val (.int (3 : Int32)), .val (.ref a2), .val (.int ((2 : Int32) + (1 : Int32))), .val (.int (4 : Int32)), .val (.int (2 : Int32)), .val (.int c2)] [])) _
  rw [show ((2 : Int32) + (1 : Int32)) = (3 : Int32) from by decide]
  refine XS.iinc X20.here hx rfl (hb hby d16_38) rfl (l' := #[.val (.ref a1), .val (.int (3 : Int32)), .val (.ref a2), .val (.int (3 : Int32)), .val (.int (4 : Int32)), .val (.int ((2 : Int32) + (1 : Int32))), .val (.int c2)]) rfl ?_
  show Steps p.tables e below (T20.setTop (mkF m 41 #[.val (.ref a1), .val (.int (3 : Int32)), .val (.ref a2), .val (.int (3 : Int32)), .val (.int (4 : Int32)), .val (.int ((2 : Int32) + (1 : Int32))), .val (.int c2)] [])) _
  rw [show ((2 : Int32) + (1 : Int32)) = (3 : Int32) from by decide]
  refine XS.goto X20.here hx rfl (pc0 := 41) (pc' := 3) rfl (hb hby d16_41) (by decide) (by decide) ?_
  refine XS.iload X20.here hx rfl (hb hby d16_3) rfl ?_
  refine XS.iload X20.here hx rfl (hb hby d16_5) rfl ?_
  refine XS.icmpNo X20.here hx rfl (hb hby d16_7) rfl (tlt (by decide : (3 : Int32) < (4 : Int32))).2.1 ?_
  refine XS.aloadN X20.here hx rfl (hb hby d16_10) rfl rfl ?_
  refine XS.iloadN X20.here hx rfl (hb hby d16_11) rfl ?_
  refine X20.caload hx (j := (3 : Int32)) (v := (.int c3)) (by rw [e20]; exact Ar21.1) (State.isArrayOf_alike hZ.alike Ar21.2.1) Ar21.2.2 hin21 (Has.at Ha21 hin21 rfl) (g := (mkF m 12 #[.val (.ref a1), .val (.int (3 : Int32)), .val (.ref a2), .val (.int (3 : Int32)), .val (.int (4 : Int32)), .val (.int (3 : Int32)), .val (.int c2)] [(.int (3 : Int32)), (.ref a1)])) rfl rfl (hb hby d16_12) _ ?_
  refine XS.istore X20.here hx rfl (hb hby d16_13) rfl (l' := #[.val (.ref a1), .val (.int (3 : Int32)), .val (.ref a2), .val (.int (3 : Int32)), .val (.int (4 : Int32)), .val (.int (3 : Int32)), .val (.int c3)]) rfl ?_
  refine XS.iload X20.here hx rfl (hb hby d16_15) rfl ?_
  refine XS.sipush X20.here hx rfl (hb hby d16_17) ?_
  exact k)
 by_cases hc20_23 : (255 : Int32) < c3
 ·have pre24 : ∀ t, Steps p.tables e below (T20.setTop (mkF m 25 #[.val (.ref a1), .val (.int (3 : Int32)), .val (.ref a2), .val (.int (3 : Int32)), .val (.int (4 : Int32)), .val (.int (3 : Int32)), .val (.int c3)] [(.int (3 : Int32))])) t → Steps p.tables e below (s₁.setTop (entryFrame m #[(.ref a1), (.int (0 : Int32)), (.ref a2), (.int (0 : Int32)), (.int (4 : Int32))] 7)) t := fun t k => pre22 t (by
   show Steps p.tables e below (T20.setTop (mkF m 20 #[.val (.ref a1), .val (.int (3 : Int32)), .val (.ref a2), .val (.int (3 : Int32)), .val (.int (4 : Int32)), .val (.int (3 : Int32)), .val (.int c3)] [(.int (255 : Int32)), (.int c3)])) _
   refine XS.icmpNo X20.here hx rfl (hb hby d16_20) rfl (tlt hc20_23).2.2.2 ?_
   refine XS.iload X20.here hx rfl (hb hby d16_23) rfl ?_
   exact k)
  obtain ⟨fs25, hr25, hrun25, hended25, hW25, hsame25⟩ := X20.leave (v := some (.int (3 : Int32))) (fun h => by rw [Bd.returns] at h; cases h)
  refine ⟨_, _, pre24 _ ?_, hrun25, hended25, _, _, rfl, ?_, ⟨_, rfl⟩, hW25, hsame25.mono (by decide) (by decide)⟩
  ·show Steps p.tables e below (T20.setTop (mkF m 25 #[.val (.ref a1), .val (.int (3 : Int32)), .val (.ref a2), .val (.int (3 : Int32)), .val (.int (4 : Int32)), .val (.int (3 : Int32)), .val (.int c3)] [(.int (3 : Int32))])) _
   exact retOut X20 hx (t := .int) Bd.returns rfl (Or.inl ⟨rfl, Or.inl rfl, _, rfl⟩) (hb hby d16_25) hr25
  ·show Qcp4 Z a1 a2 kc kd c0 c1 c2 c3 h0 n0 _ T20.heap _
   rw [e20]
   exact ⟨_, rfl, N20, ((((Keep.refl h0 [a2]).wr W6 (Or.inl (List.mem_singleton.mpr rfl))).wr W13 (Or.inl (List.mem_singleton.mpr rfl))).wr W20 (Or.inl (List.mem_singleton.mpr rfl))), Or.inr (Or.inr (Or.inr (Or.inl ⟨rfl, hc20_23⟩)))⟩
 have Vc26 := Vd_20
 obtain ⟨cl26, Ar26, qq26, sz26, nn26, Ha26, Gf26⟩ := Vc26
 have hin26 : ¬ ((3 : Int32) < 0 ∨ cl26.slots.size ≤ ((3 : Int32)).toNatClampNeg) := inb_of sz26 ⟨by decide, by decide⟩
 obtain ⟨T27, h27, X27, e27, W27, st27⟩ := stB X20 hx hZ e20 Ar26 (j := (3 : Int32)) hin26 (g := (mkF m 31 #[.val (.ref a1), .val (.int (3 : Int32)), .val (.ref a2), .val (.int (3 : Int32)), .val (.int (4 : Int32)), .val (.int (3 : Int32)), .val (.int c3)] [(.int (c3.toInt8.toInt32)), (.int (3 : Int32)), (.ref a2)])) rfl rfl (hb hby d16_31)
 have N27 := Fr.snoc X27 N20 gd
 have Ac_27 := Ac_20.other W27 hne
 have Vd_27 := Arv.set Ar26 qq26 sz26 nn26 Ha26 Gf26 (fits_nar_byte _) W27 3 rfl (Nat.le_of_ble_eq_true rfl)
 have pre28 : ∀ t, Steps p.tables e below (T27.setTop (mkF m 46 #[.val (.ref a1), .val (.int (4 : Int32)), .val (.ref a2), .val (.int (4 : Int32)), .val (.int (4 : Int32)), .val (.int (4 : Int32)), .val (.int c3)] [(.int (4 : Int32))])) t → Steps p.tables e below (s₁.setTop (entryFrame m #[(.ref a1), (.int (0 : Int32)), (.ref a2), (.int (0 : Int32)), (.int (4 : Int32))] 7)) t := fun t k => pre22 t (by
  show Steps p.tables e below (T20.setTop (mkF m 20 #[.val (.ref a1), .val (.int (3 : Int32)), .val (.ref a2), .val (.int (3 : Int32)), .val (.int (4 : Int32)), .val (.int (3 : Int32)), .val (.int c3)] [(.int (255 : Int32)), (.int c3)])) _
  refine XS.icmpYes X20.here hx rfl (pc0 := 20) (pc' := 26) rfl (hb hby d16_20) rfl (flt hc20_23).2.2.2 (by decide) (by decide) ?_
  refine XS.aloadN X20.here hx rfl (hb hby d16_26) rfl rfl ?_
  refine XS.iloadN X20.here hx rfl (hb hby d16_27) rfl ?_
  refine XS.iload X20.here hx rfl (hb hby d16_28) rfl ?_
  refine XS.i2b X20.here hx rfl (hb hby d16_30) rfl ?_
  refine st27 _ ?_
  refine XS.iinc X27.here hx rfl (hb hby d16_32) rfl (l' := #[.val (.ref a1), .val (.int ((3 : Int32) + (1 : Int32))), .val (.ref a2), .val (.int (3 : Int32)), .val (.int (4 : Int32)), .val (.int (3 : Int32)), .val (.int c3)]) rfl ?_
  show Steps p.tables e below (T27.setTop (mkF m 35 #[.val (.ref a1), .val (.int ((3 : Int32) + (1 : Int32))), .val (.ref a2), .val (.int (3 : Int32)), .val (.int (4 : Int32)), .val (.int (3 : Int32)), .val (.int c3)] [])) _
  rw [show ((3 : Int32) + (1 : Int32)) = (4 : Int32) from by decide]
  refine XS.iinc X27.here hx rfl (hb hby d16_35) rfl (l' := #[.val (.ref a1), .val (.int (4 : Int32)), .val (.ref a2), .val (.int ((3 : Int32) + (1 : Int32))), .val (.int (4 : Int32)), .val (.int (3 : Int32)), .val (.int c3)]) rfl ?_
  show Steps p.tables e below (T27.setTop (mkF m 38 #[.val (.ref a1), .val (.int (4 : Int32)), .val (.ref a2), .val (.int ((3 : Int32) + (1 : Int32))), .val (.int (4 : Int32)), .val (.int (3 : Int32)), .val (.int c3)] [])) _
  rw [show ((3 : Int32) + (1 : Int32)) = (4 : Int32) from by decide]
  refine XS.iinc X27.here hx rfl (hb hby d16_38) rfl (l' := #[.val (.ref a1), .val (.int (4 : Int32)), .val (.ref a2), .val (.int (4 : Int32)), .val (.int (4 : Int32)), .val (.int ((3 : Int32) + (1 : Int32))), .val (.int c3)]) rfl ?_
  show Steps p.tables e below (T27.setTop (mkF m 41 #[.val (.ref a1), .val (.int (4 : Int32)), .val (.ref a2), .val (.int (4 : Int32)), .val (.int (4 : Int32)), .val (.int ((3 : Int32) + (1 : Int32))), .val (.int c3)] [])) _
  rw [show ((3 : Int32) + (1 : Int32)) = (4 : Int32) from by decide]
  refine XS.goto X27.here hx rfl (pc0 := 41) (pc' := 3) rfl (hb hby d16_41) (by decide) (by decide) ?_
  refine XS.iload X27.here hx rfl (hb hby d16_3) rfl ?_
  refine XS.iload X27.here hx rfl (hb hby d16_5) rfl ?_
  refine XS.icmpYes X27.here hx rfl (pc0 := 7) (pc' := 44) rfl (hb hby d16_7) rfl (flt (by decide : ¬ ((4 : Int32) < (4 : Int32)))).2.1 (by decide) (by decide) ?_
  refine XS.iload X27.here hx rfl (hb hby d16_44) rfl ?_
  exact k)
 obtain ⟨fs29, hr29, hrun29, hended29, hW29, hsame29⟩ := X27.leave (v := some (.int (4 : Int32))) (fun h => by rw [Bd.returns] at h; cases h)
 refine ⟨_, _, pre28 _ ?_, hrun29, hended29, _, _, rfl, ?_, ⟨_, rfl⟩, hW29, hsame29.mono (by decide) (by decide)⟩
 ·show Steps p.tables e below (T27.setTop (mkF m 46 #[.val (.ref a1), .val (.int (4 : Int32)), .val (.ref a2), .val (.int (4 : Int32)), .val (.int (4 : Int32)), .val (.int (4 : Int32)), .val (.int c3)] [(.int (4 : Int32))])) _
  exact retOut X27 hx (t := .int) Bd.returns rfl (Or.inl ⟨rfl, Or.inl rfl, _, rfl⟩) (hb hby d16_46) hr29
 ·show Qcp4 Z a1 a2 kc kd c0 c1 c2 c3 h0 n0 _ T27.heap _
  rw [e27]
  have q := Vd_27
  simp only [own_lo] at q
  exact ⟨_, rfl, N27, (((((Keep.refl h0 [a2]).wr W6 (Or.inl (List.mem_singleton.mpr rfl))).wr W13 (Or.inl (List.mem_singleton.mpr rfl))).wr W20 (Or.inl (List.mem_singleton.mpr rfl))).wr W27 (Or.inl (List.mem_singleton.mpr rfl))), Or.inr (Or.inr (Or.inr (Or.inr (⟨rfl, ⟨hc20, hc20_9, hc20_16, hc20_23⟩, q⟩))))⟩


def Qcz4 (Z : State) (a1 : Addr) (kc : ClassId) (c0 c1 c2 c3 : Int32) (h0 : Heap) (n0 : Nat) (v : Option Value) (h : Heap) (L : List Loc) : Prop := ∃ b kb cd N vs, v = some (.ref b) ∧ Fr n0 L ∧ Ext h0 h ∧ Arv Z h b kb .byte N vs (.int 0) ∧ StrChars.Road.CodA [c0, c1, c2, c3] cd N vs
set_option maxRecDepth 65536 in
set_option maxHeartbeats 40000000 in
theorem rmcz4 (l : Launch) (Z : State) (a0 : Array Value) (hw : ∀ d ∈ tables_1, d.before a0 Z = true) (ws : List Jvm.Cond) (a1 : Addr) (kc : ClassId) (c0 c1 c2 c3 : Int32) (h0 : Heap) (n0 : Nat) (Z0 : n0 ≤ h0.size) (Ac : Arv Z h0 a1 kc .char (4 : Int32) ([c0, c1, c2, c3].map Value.int) (.int 0)) (EN : own_env Z h0) (hb0 : own_b c0) (hb1 : own_b c1) (hb2 : own_b c2) (hb3 : own_b c3) :
  own_M l Z own_z16 jdk_52_method_16_code 6 (some (.array .byte)) ({ frames := 3, cells := 2, slots := 12, locals := 45 } : Room) ws #[(.ref a1), (.int (0 : Int32)), (.int (4 : Int32))] h0 (Qcz4 Z a1 kc c0 c1 c2 c3 h0 n0) := by
 refine MetFree.of_bodySF (plainFor_of_name pn_k5) hisR ?_
 intro p e s m args below meth c s₁ Bd hml0 hP hK
 obtain ⟨rfl, hZ, hh⟩ := hP
 have hx := Bd.exec
 have hby := Bd.bytes
 have hml : c.maxLocals = 6 := hml0
 have hown : s.vm.findClass "java/lang/StringUTF16" = some m.cls := findClass_of_methodNamed Bd.named
 have hnm := (name_of_methodNamed Bd.named Bd.method).1
 have X0 : Stand p l e ({ frames := 3, cells := 2, slots := 12, locals := 45 } : Room) s m #[(.ref a1), (.int (0 : Int32)), (.int (4 : Int32))] below meth c s₁ [] 0 0 := Stand.of_body Bd
 have e0 : s₁.heap = h0 := by rw [← hh, Bd.state]; rfl
 have N0 := Fr.nil n0
 have pre0 : ∀ t, Steps p.tables e below (s₁.setTop (mkF m 0 #[.val (.ref a1), .val (.int (0 : Int32)), .val (.int (4 : Int32)), .unset, .unset, .unset] [])) t → Steps p.tables e below (s₁.setTop (entryFrame m #[(.ref a1), (.int (0 : Int32)), (.int (4 : Int32))] 6)) t := fun t k => castTop (ef_cz1 m a1 (0 : Int32) (4 : Int32)) k
 obtain ⟨T1, h1, k1, X1, e1, E1, A1, st1⟩ := newP (aty := .byte) X0 hx hZ (wd21 hw) e0 (g := (mkF m 1 #[.val (.ref a1), .val (.int (0 : Int32)), .val (.int (4 : Int32)), .unset, .unset, .unset] [(.int (4 : Int32))])) rfl (hb hby d15_1) rfl (by decide) (cap := 4) (by decide) (by decide) (by decide) (by decide)
 obtain ⟨b1, gb1⟩ : ∃ z, z = h0.size := ⟨_, rfl⟩
 rw [← gb1] at A1 st1
 have gn1 : n0 ≤ b1 := Nat.le_trans Z0 (Nat.le_of_eq gb1.symm)
 have sz1_b : h0.size ≤ b1 := Nat.le_trans (Keep.refl h0 []).1 (Nat.le_of_eq gb1.symm)
 have ne_a1_b1 : a1 ≠ b1 := Nat.ne_of_lt (Nat.lt_of_lt_of_le Ac.lt (Nat.le_of_eq gb1.symm))
 have Ac_1 := Ac.ext E1
 have EN_1 := EN.ext E1
 have K1 := (Keep.refl h0 []).ext E1
 have V1 : Arv Z h1 b1 k1 .byte (4 : Int32) [(.int (0 : Int32)), (.int (0 : Int32)), (.int (0 : Int32)), (.int (0 : Int32))] (.int (0 : Int32)) := (Arv.new A1 (by decide)).pad (pad_rep [] (.int (0 : Int32)) 4)
 obtain ⟨_, _, ⟨T2, L2, k2, n2⟩, -, X2, ⟨Lc2, hQ2, l2, y2, z2⟩, st2⟩ := Jvm.LawKit.callS X1 hx (y := own_z15) hown (mvT hZ (wd76 hw)) (mvT hZ (wd77 hw)) (mvT hZ (wd74 hw)) (mvT hZ (wd78 hw)) (by decide) (backOf (W := 0) (rmcp4 l Z a0 hw [] a1 b1 kc k1 c0 c1 c2 c3 h1 n0 (Nat.le_trans Z0 E1.1) Ac_1 V1 ne_a1_b1 gn1) hZ (wd78 hw) (wd74 hw) (by decide) (by decide)) (g := (mkF m 9 #[.val (.ref a1), .val (.int (0 : Int32)), .val (.int (4 : Int32)), .val (.ref b1), .unset, .unset] [(.int (4 : Int32)), (.int (0 : Int32)), (.ref b1), (.int (0 : Int32)), (.ref a1)])) rfl (by rw [hml]; rfl) (argsL := [(.ref a1), (.int (0 : Int32)), (.ref b1), (.int (0 : Int32)), (.int (4 : Int32))]) (rest := []) (lenOf pd_cp1 rfl) rfl (by show 2 * 0 + _ ≤ _; exact Nat.le_of_eq rfl) (hb hby d15_9) (fun _ _ => ⟨rfl, e1, (by decide : 1 + 0 ≤ _), (by decide : 4 + 0 ≤ _)⟩)
 dsimp only [Pt.U, Pt.locs, Pt.cells, Pt.slots] at X2 l2 y2 z2 st2 hQ2
 subst l2 y2 z2
 obtain ⟨j2, rfl, N2q, Kp2, hd2⟩ := hQ2
 have N2 := Fr.app N0 N2q
 have Ac_2 := Ac_1.keep Kp2 (ninS ne_a1_b1 nin0)
 have EN_2 := EN_1.keep Kp2 V1.nostat
 have K2 := K1.trans Kp2 (fun x hx => by cases List.mem_singleton.mp hx; exact Or.inr sz1_b)
 have pre3 : ∀ t, Steps p.tables e below (T2.setTop (mkF m 12 #[.val (.ref a1), .val (.int (0 : Int32)), .val (.int (4 : Int32)), .val (.ref b1), .unset, .unset] [(.int j2)])) t → Steps p.tables e below (s₁.setTop (entryFrame m #[(.ref a1), (.int (0 : Int32)), (.int (4 : Int32))] 6)) t := fun t k => pre0 t (by
  show Steps p.tables e below (s₁.setTop (mkF m 0 #[.val (.ref a1), .val (.int (0 : Int32)), .val (.int (4 : Int32)), .unset, .unset, .unset] [])) _
  refine XS.iloadN X0.here hx rfl (hb hby d15_0) rfl ?_
  refine st1 _ ?_
  refine XS.astoreN X1.here hx rfl (hb hby d15_3) rfl rfl (l' := #[.val (.ref a1), .val (.int (0 : Int32)), .val (.int (4 : Int32)), .val (.ref b1), .unset, .unset]) rfl ?_
  refine XS.aloadN X1.here hx rfl (hb hby d15_4) rfl rfl ?_
  refine XS.iloadN X1.here hx rfl (hb hby d15_5) rfl ?_
  refine XS.aloadN X1.here hx rfl (hb hby d15_6) rfl rfl ?_
  refine XS.iconst X1.here hx rfl (hb hby d15_7) ?_
  refine XS.iloadN X1.here hx rfl (hb hby d15_8) rfl ?_
  refine st2 _ ?_
  exact k)
 rcases hd2 with ⟨rfl, hcw⟩ | ⟨rfl, hcw⟩ | ⟨rfl, hcw⟩ | ⟨rfl, hcw⟩ | ⟨rfl, hcl, hvl⟩
 ·obtain ⟨_, _, ⟨T4, L4, k4, n4⟩, -, X4, ⟨Lc4, hQ4, l4, y4, z4⟩, st4⟩ := Jvm.LawKit.callS X2 hx (y := own_z14) hown (mvT hZ (wd88 hw)) (mvT hZ (wd89 hw)) (mvT hZ (wd74 hw)) (mvT hZ (wd90 hw)) (by decide) (backOf (W := 0) (rmtb4 l Z a0 hw [] a1 kc c0 c1 c2 c3 T2.heap n0 (Nat.le_trans (Nat.le_trans Z0 E1.1) Kp2.1) Ac_2 EN_2) hZ (wd90 hw) (wd74 hw) (by decide) (by decide)) (g := (mkF m 23 #[.val (.ref a1), .val (.int (0 : Int32)), .val (.int (4 : Int32)), .val (.ref b1), .val (.int (0 : Int32)), .unset] [(.int (4 : Int32)), (.int (0 : Int32)), (.ref a1)])) rfl (by rw [hml]; rfl) (argsL := [(.ref a1), (.int (0 : Int32)), (.int (4 : Int32))]) (rest := []) (lenOf pd_tb1 rfl) rfl (by show 2 * 0 + _ ≤ _; exact Nat.le_of_eq rfl) (hb hby d15_23) (fun _ _ => ⟨rfl, rfl, (by decide : 1 + 1 ≤ _), (by decide : 4 + 8 ≤ _)⟩)
  dsimp only [Pt.U, Pt.locs, Pt.cells, Pt.slots] at X4 l4 y4 z4 st4 hQ4
  subst l4 y4 z4
  obtain ⟨b4, kb4, rfl, N4q, E4, V4⟩ := hQ4
  have N4 := Fr.app N2 N4q
  have Ac_4 := Ac_2.ext E4
  have EN_4 := EN_2.ext E4
  have K4 := K2.ext E4
  have Vc5 := V4
  obtain ⟨cl5, Ar5, qq5, sz5, nn5, Ha5, Gf5⟩ := Vc5
  have r0_5 : own_rd cl5 ((0 : Int32) <<< ((1 : Int32) &&& 31)) (StrChars.lo8 c0) := own_rdOf sz5 Ha5 ⟨by decide, by decide⟩ (by rw [show (((0 : Int32) <<< ((1 : Int32) &&& 31))).toNatClampNeg = 0 from by decide]; rfl)
  have r1_5 : own_rd cl5 (((0 : Int32) <<< ((1 : Int32) &&& 31)) + (1 : Int32)) (StrChars.hi8 c0) := own_rdOf sz5 Ha5 ⟨by decide, by decide⟩ (by rw [show ((((0 : Int32) <<< ((1 : Int32) &&& 31)) + (1 : Int32))).toNatClampNeg = 1 from by decide]; rfl)
  obtain ⟨_, _, ⟨T6, L6, k6, n6⟩, -, X6, ⟨Lc6, hQ6, l6, y6, z6⟩, st6⟩ := Jvm.LawKit.callS X4 hx (y := own_z10) hown (mvT hZ (wd104 hw)) (mvT hZ (wd105 hw)) (mvT hZ (wd74 hw)) (mvT hZ (wd106 hw)) (by decide) (backOf (W := 0) (rmgc l Z a0 hw [] b4 cl5 (0 : Int32) (StrChars.lo8 c0) (StrChars.hi8 c0) c0 T4.heap n0 (Nat.le_trans (Nat.le_trans (Nat.le_trans Z0 E1.1) Kp2.1) E4.1) EN_4 (own_gcv hb0) Ar5 r0_5 r1_5) hZ (wd106 hw) (wd74 hw) (by decide) (by decide)) (g := (mkF m 32 #[.val (.ref a1), .val (.int (0 : Int32)), .val (.int (4 : Int32)), .val (.ref b1), .val (.int (0 : Int32)), .val (.ref b4)] [(.int (0 : Int32)), (.ref b4)])) rfl (by rw [hml]; rfl) (argsL := [(.ref b4), (.int (0 : Int32))]) (rest := []) (lenOf pd_gc rfl) rfl (by show 2 * 0 + _ ≤ _; exact Nat.le_of_eq rfl) (hb hby d15_32) (fun _ _ => ⟨rfl, rfl, (by decide : 2 + 0 ≤ _), (by decide : 12 + 0 ≤ _)⟩)
  dsimp only [Pt.U, Pt.locs, Pt.cells, Pt.slots] at X6 l6 y6 z6 st6 hQ6
  subst l6 y6 z6
  obtain ⟨rfl, N6q, q6⟩ := hQ6
  have N6 := Fr.app N4 N6q
  have pre7 : ∀ t, Steps p.tables e below (T6.setTop (mkF m 56 #[.val (.ref a1), .val (.int (0 : Int32)), .val (.int (4 : Int32)), .val (.ref b1), .val (.int (0 : Int32)), .val (.ref b4)] [(.ref b4)])) t → Steps p.tables e below (s₁.setTop (entryFrame m #[(.ref a1), (.int (0 : Int32)), (.int (4 : Int32))] 6)) t := fun t k => pre3 t (by
   show Steps p.tables e below (T2.setTop (mkF m 12 #[.val (.ref a1), .val (.int (0 : Int32)), .val (.int (4 : Int32)), .val (.ref b1), .unset, .unset] [(.int (0 : Int32))])) _
   refine XS.istore X2.here hx rfl (hb hby d15_12) rfl (l' := #[.val (.ref a1), .val (.int (0 : Int32)), .val (.int (4 : Int32)), .val (.ref b1), .val (.int (0 : Int32)), .unset]) rfl ?_
   refine XS.iload X2.here hx rfl (hb hby d15_14) rfl ?_
   refine XS.iloadN X2.here hx rfl (hb hby d15_16) rfl ?_
   refine XS.icmpNo X2.here hx rfl (hb hby d15_17) rfl (feq (by decide : ¬ ((0 : Int32) = (4 : Int32)))).1 ?_
   refine XS.aloadN X2.here hx rfl (hb hby d15_20) rfl rfl ?_
   refine XS.iloadN X2.here hx rfl (hb hby d15_21) rfl ?_
   refine XS.iloadN X2.here hx rfl (hb hby d15_22) rfl ?_
   refine st4 _ ?_
   refine XS.astore X4.here hx rfl (hb hby d15_26) rfl rfl (l' := #[.val (.ref a1), .val (.int (0 : Int32)), .val (.int (4 : Int32)), .val (.ref b1), .val (.int (0 : Int32)), .val (.ref b4)]) rfl ?_
   refine XS.aload X4.here hx rfl (hb hby d15_28) rfl rfl ?_
   refine XS.iload X4.here hx rfl (hb hby d15_30) rfl ?_
   refine st6 _ ?_
   refine XS.sipush X6.here hx rfl (hb hby d15_35) ?_
   refine XS.icmpYes X6.here hx rfl (pc0 := 38) (pc' := 54) rfl (hb hby d15_38) rfl (tlt hcw).2.2.1 (by decide) (by decide) ?_
   refine XS.aload X6.here hx rfl (hb hby d15_54) rfl rfl ?_
   exact k)
  obtain ⟨fs8, hr8, hrun8, hended8, hW8, hsame8⟩ := X6.leave (v := some (.ref b4)) (fun h => by rw [Bd.returns] at h; cases h)
  refine ⟨_, _, pre7 _ ?_, hrun8, hended8, _, _, rfl, ?_, ⟨_, rfl⟩, hW8, hsame8.mono (by decide) (by decide)⟩
  ·show Steps p.tables e below (T6.setTop (mkF m 56 #[.val (.ref a1), .val (.int (0 : Int32)), .val (.int (4 : Int32)), .val (.ref b1), .val (.int (0 : Int32)), .val (.ref b4)] [(.ref b4)])) _
   exact retOut X6 hx (t := (.array .byte)) Bd.returns rfl (Or.inr (Or.inr (Or.inr (Or.inr ⟨rfl, rfl, rfl⟩)))) (hb hby d15_56) hr8
  ·show Qcz4 Z a1 kc c0 c1 c2 c3 h0 n0 _ T6.heap _
   rw [q6]
   exact ⟨_, _, 1, _, _, rfl, N6, own_ext K4, V4, Or.inr ⟨rfl, rfl, rfl, ⟨c0, by simp, hcw⟩⟩⟩
 ·obtain ⟨_, _, ⟨T9, L9, k9, n9⟩, -, X9, ⟨Lc9, hQ9, l9, y9, z9⟩, st9⟩ := Jvm.LawKit.callS X2 hx (y := own_z14) hown (mvT hZ (wd88 hw)) (mvT hZ (wd89 hw)) (mvT hZ (wd74 hw)) (mvT hZ (wd90 hw)) (by decide) (backOf (W := 0) (rmtb4 l Z a0 hw [] a1 kc c0 c1 c2 c3 T2.heap n0 (Nat.le_trans (Nat.le_trans Z0 E1.1) Kp2.1) Ac_2 EN_2) hZ (wd90 hw) (wd74 hw) (by decide) (by decide)) (g := (mkF m 23 #[.val (.ref a1), .val (.int (0 : Int32)), .val (.int (4 : Int32)), .val (.ref b1), .val (.int (1 : Int32)), .unset] [(.int (4 : Int32)), (.int (0 : Int32)), (.ref a1)])) rfl (by rw [hml]; rfl) (argsL := [(.ref a1), (.int (0 : Int32)), (.int (4 : Int32))]) (rest := []) (lenOf pd_tb1 rfl) rfl (by show 2 * 0 + _ ≤ _; exact Nat.le_of_eq rfl) (hb hby d15_23) (fun _ _ => ⟨rfl, rfl, (by decide : 1 + 1 ≤ _), (by decide : 4 + 8 ≤ _)⟩)
  dsimp only [Pt.U, Pt.locs, Pt.cells, Pt.slots] at X9 l9 y9 z9 st9 hQ9
  subst l9 y9 z9
  obtain ⟨b9, kb9, rfl, N9q, E9, V9⟩ := hQ9
  have N9 := Fr.app N2 N9q
  have Ac_9 := Ac_2.ext E9
  have EN_9 := EN_2.ext E9
  have K9 := K2.ext E9
  have Vc10 := V9
  obtain ⟨cl10, Ar10, qq10, sz10, nn10, Ha10, Gf10⟩ := Vc10
  have r0_10 : own_rd cl10 ((1 : Int32) <<< ((1 : Int32) &&& 31)) (StrChars.lo8 c1) := own_rdOf sz10 Ha10 ⟨by decide, by decide⟩ (by rw [show (((1 : Int32) <<< ((1 : Int32) &&& 31))).toNatClampNeg = 2 from by decide]; rfl)
  have r1_10 : own_rd cl10 (((1 : Int32) <<< ((1 : Int32) &&& 31)) + (1 : Int32)) (StrChars.hi8 c1) := own_rdOf sz10 Ha10 ⟨by decide, by decide⟩ (by rw [show ((((1 : Int32) <<< ((1 : Int32) &&& 31)) + (1 : Int32))).toNatClampNeg = 3 from by decide]; rfl)
  obtain ⟨_, _, ⟨T11, L11, k11, n11⟩, -, X11, ⟨Lc11, hQ11, l11, y11, z11⟩, st11⟩ := Jvm.LawKit.callS X9 hx (y := own_z10) hown (mvT hZ (wd104 hw)) (mvT hZ (wd105 hw)) (mvT hZ (wd74 hw)) (mvT hZ (wd106 hw)) (by decide) (backOf (W := 0) (rmgc l Z a0 hw [] b9 cl10 (1 : Int32) (StrChars.lo8 c1) (StrChars.hi8 c1) c1 T9.heap n0 (Nat.le_trans (Nat.le_trans (Nat.le_trans Z0 E1.1) Kp2.1) E9.1) EN_9 (own_gcv hb1) Ar10 r0_10 r1_10) hZ (wd106 hw) (wd74 hw) (by decide) (by decide)) (g := (mkF m 32 #[.val (.ref a1), .val (.int (0 : Int32)), .val (.int (4 : Int32)), .val (.ref b1), .val (.int (1 : Int32)), .val (.ref b9)] [(.int (1 : Int32)), (.ref b9)])) rfl (by rw [hml]; rfl) (argsL := [(.ref b9), (.int (1 : Int32))]) (rest := []) (lenOf pd_gc rfl) rfl (by show 2 * 0 + _ ≤ _; exact Nat.le_of_eq rfl) (hb hby d15_32) (fun _ _ => ⟨rfl, rfl, (by decide : 2 + 0 ≤ _), (by decide : 12 + 0 ≤ _)⟩)
  dsimp only [Pt.U, Pt.locs, Pt.cells, Pt.slots] at X11 l11 y11 z11 st11 hQ11
  subst l11 y11 z11
  obtain ⟨rfl, N11q, q11⟩ := hQ11
  have N11 := Fr.app N9 N11q
  have pre12 : ∀ t, Steps p.tables e below (T11.setTop (mkF m 56 #[.val (.ref a1), .val (.int (0 : Int32)), .val (.int (4 : Int32)), .val (.ref b1), .val (.int (1 : Int32)), .val (.ref b9)] [(.ref b9)])) t → Steps p.tables e below (s₁.setTop (entryFrame m #[(.ref a1), (.int (0 : Int32)), (.int (4 : Int32))] 6)) t := fun t k => pre3 t (by
   show Steps p.tables e below (T2.setTop (mkF m 12 #[.val (.ref a1), .val (.int (0 : Int32)), .val (.int (4 : Int32)), .val (.ref b1), .unset, .unset] [(.int (1 : Int32))])) _
   refine XS.istore X2.here hx rfl (hb hby d15_12) rfl (l' := #[.val (.ref a1), .val (.int (0 : Int32)), .val (.int (4 : Int32)), .val (.ref b1), .val (.int (1 : Int32)), .unset]) rfl ?_
   refine XS.iload X2.here hx rfl (hb hby d15_14) rfl ?_
   refine XS.iloadN X2.here hx rfl (hb hby d15_16) rfl ?_
   refine XS.icmpNo X2.here hx rfl (hb hby d15_17) rfl (feq (by decide : ¬ ((1 : Int32) = (4 : Int32)))).1 ?_
   refine XS.aloadN X2.here hx rfl (hb hby d15_20) rfl rfl ?_
   refine XS.iloadN X2.here hx rfl (hb hby d15_21) rfl ?_
   refine XS.iloadN X2.here hx rfl (hb hby d15_22) rfl ?_
   refine st9 _ ?_
   refine XS.astore X9.here hx rfl (hb hby d15_26) rfl rfl (l' := #[.val (.ref a1), .val (.int (0 : Int32)), .val (.int (4 : Int32)), .val (.ref b1), .val (.int (1 : Int32)), .val (.ref b9)]) rfl ?_
   refine XS.aload X9.here hx rfl (hb hby d15_28) rfl rfl ?_
   refine XS.iload X9.here hx rfl (hb hby d15_30) rfl ?_
   refine st11 _ ?_
   refine XS.sipush X11.here hx rfl (hb hby d15_35) ?_
   refine XS.icmpYes X11.here hx rfl (pc0 := 38) (pc' := 54) rfl (hb hby d15_38) rfl (tlt hcw).2.2.1 (by decide) (by decide) ?_
   refine XS.aload X11.here hx rfl (hb hby d15_54) rfl rfl ?_
   exact k)
  obtain ⟨fs13, hr13, hrun13, hended13, hW13, hsame13⟩ := X11.leave (v := some (.ref b9)) (fun h => by rw [Bd.returns] at h; cases h)
  refine ⟨_, _, pre12 _ ?_, hrun13, hended13, _, _, rfl, ?_, ⟨_, rfl⟩, hW13, hsame13.mono (by decide) (by decide)⟩
  ·show Steps p.tables e below (T11.setTop (mkF m 56 #[.val (.ref a1), .val (.int (0 : Int32)), .val (.int (4 : Int32)), .val (.ref b1), .val (.int (1 : Int32)), .val (.ref b9)] [(.ref b9)])) _
   exact retOut X11 hx (t := (.array .byte)) Bd.returns rfl (Or.inr (Or.inr (Or.inr (Or.inr ⟨rfl, rfl, rfl⟩)))) (hb hby d15_56) hr13
  ·show Qcz4 Z a1 kc c0 c1 c2 c3 h0 n0 _ T11.heap _
   rw [q11]
   exact ⟨_, _, 1, _, _, rfl, N11, own_ext K9, V9, Or.inr ⟨rfl, rfl, rfl, ⟨c1, by simp, hcw⟩⟩⟩
 ·obtain ⟨_, _, ⟨T14, L14, k14, n14⟩, -, X14, ⟨Lc14, hQ14, l14, y14, z14⟩, st14⟩ := Jvm.LawKit.callS X2 hx (y := own_z14) hown (mvT hZ (wd88 hw)) (mvT hZ (wd89 hw)) (mvT hZ (wd74 hw)) (mvT hZ (wd90 hw)) (by decide) (backOf (W := 0) (rmtb4 l Z a0 hw [] a1 kc c0 c1 c2 c3 T2.heap n0 (Nat.le_trans (Nat.le_trans Z0 E1.1) Kp2.1) Ac_2 EN_2) hZ (wd90 hw) (wd74 hw) (by decide) (by decide)) (g := (mkF m 23 #[.val (.ref a1), .val (.int (0 : Int32)), .val (.int (4 : Int32)), .val (.ref b1), .val (.int (2 : Int32)), .unset] [(.int (4 : Int32)), (.int (0 : Int32)), (.ref a1)])) rfl (by rw [hml]; rfl) (argsL := [(.ref a1), (.int (0 : Int32)), (.int (4 : Int32))]) (rest := []) (lenOf pd_tb1 rfl) rfl (by show 2 * 0 + _ ≤ _; exact Nat.le_of_eq rfl) (hb hby d15_23) (fun _ _ => ⟨rfl, rfl, (by decide : 1 + 1 ≤ _), (by decide : 4 + 8 ≤ _)⟩)
  dsimp only [Pt.U, Pt.locs, Pt.cells, Pt.slots] at X14 l14 y14 z14 st14 hQ14
  subst l14 y14 z14
  obtain ⟨b14, kb14, rfl, N14q, E14, V14⟩ := hQ14
  have N14 := Fr.app N2 N14q
  have Ac_14 := Ac_2.ext E14
  have EN_14 := EN_2.ext E14
  have K14 := K2.ext E14
  have Vc15 := V14
  obtain ⟨cl15, Ar15, qq15, sz15, nn15, Ha15, Gf15⟩ := Vc15
  have r0_15 : own_rd cl15 ((2 : Int32) <<< ((1 : Int32) &&& 31)) (StrChars.lo8 c2) := own_rdOf sz15 Ha15 ⟨by decide, by decide⟩ (by rw [show (((2 : Int32) <<< ((1 : Int32) &&& 31))).toNatClampNeg = 4 from by decide]; rfl)
  have r1_15 : own_rd cl15 (((2 : Int32) <<< ((1 : Int32) &&& 31)) + (1 : Int32)) (StrChars.hi8 c2) := own_rdOf sz15 Ha15 ⟨by decide, by decide⟩ (by rw [show ((((2 : Int32) <<< ((1 : Int32) &&& 31)) + (1 : Int32))).toNatClampNeg = 5 from by decide]; rfl)
  obtain ⟨_, _, ⟨T16, L16, k16, n16⟩, -, X16, ⟨Lc16, hQ16, l16, y16, z16⟩, st16⟩ := Jvm.LawKit.callS X14 hx (y := own_z10) hown (mvT hZ (wd104 hw)) (mvT hZ (wd105 hw)) (mvT hZ (wd74 hw)) (mvT hZ (wd106 hw)) (by decide) (backOf (W := 0) (rmgc l Z a0 hw [] b14 cl15 (2 : Int32) (StrChars.lo8 c2) (StrChars.hi8 c2) c2 T14.heap n0 (Nat.le_trans (Nat.le_trans (Nat.le_trans Z0 E1.1) Kp2.1) E14.1) EN_14 (own_gcv hb2) Ar15 r0_15 r1_15) hZ (wd106 hw) (wd74 hw) (by decide) (by decide)) (g := (mkF m 32 #[.val (.ref a1), .val (.int (0 : Int32)), .val (.int (4 : Int32)), .val (.ref b1), .val (.int (2 : Int32)), .val (.ref b14)] [(.int (2 : Int32)), (.ref b14)])) rfl (by rw [hml]; rfl) (argsL := [(.ref b14), (.int (2 : Int32))]) (rest := []) (lenOf pd_gc rfl) rfl (by show 2 * 0 + _ ≤ _; exact Nat.le_of_eq rfl) (hb hby d15_32) (fun _ _ => ⟨rfl, rfl, (by decide : 2 + 0 ≤ _), (by decide : 12 + 0 ≤ _)⟩)
  dsimp only [Pt.U, Pt.locs, Pt.cells, Pt.slots] at X16 l16 y16 z16 st16 hQ16
  subst l16 y16 z16
  obtain ⟨rfl, N16q, q16⟩ := hQ16
  have N16 := Fr.app N14 N16q
  have pre17 : ∀ t, Steps p.tables e below (T16.setTop (mkF m 56 #[.val (.ref a1), .val (.int (0 : Int32)), .val (.int (4 : Int32)), .val (.ref b1), .val (.int (2 : Int32)), .val (.ref b14)] [(.ref b14)])) t → Steps p.tables e below (s₁.setTop (entryFrame m #[(.ref a1), (.int (0 : Int32)), (.int (4 : Int32))] 6)) t := fun t k => pre3 t (by
   show Steps p.tables e below (T2.setTop (mkF m 12 #[.val (.ref a1), .val (.int (0 : Int32)), .val (.int (4 : Int32)), .val (.ref b1), .unset, .unset] [(.int (2 : Int32))])) _
   refine XS.istore X2.here hx rfl (hb hby d15_12) rfl (l' := #[.val (.ref a1), .val (.int (0 : Int32)), .val (.int (4 : Int32)), .val (.ref b1), .val (.int (2 : Int32)), .unset]) rfl ?_
   refine XS.iload X2.here hx rfl (hb hby d15_14) rfl ?_
   refine XS.iloadN X2.here hx rfl (hb hby d15_16) rfl ?_
   refine XS.icmpNo X2.here hx rfl (hb hby d15_17) rfl (feq (by decide : ¬ ((2 : Int32) = (4 : Int32)))).1 ?_
   refine XS.aloadN X2.here hx rfl (hb hby d15_20) rfl rfl ?_
   refine XS.iloadN X2.here hx rfl (hb hby d15_21) rfl ?_
   refine XS.iloadN X2.here hx rfl (hb hby d15_22) rfl ?_
   refine st14 _ ?_
   refine XS.astore X14.here hx rfl (hb hby d15_26) rfl rfl (l' := #[.val (.ref a1), .val (.int (0 : Int32)), .val (.int (4 : Int32)), .val (.ref b1), .val (.int (2 : Int32)), .val (.ref b14)]) rfl ?_
   refine XS.aload X14.here hx rfl (hb hby d15_28) rfl rfl ?_
   refine XS.iload X14.here hx rfl (hb hby d15_30) rfl ?_
   refine st16 _ ?_
   refine XS.sipush X16.here hx rfl (hb hby d15_35) ?_
   refine XS.icmpYes X16.here hx rfl (pc0 := 38) (pc' := 54) rfl (hb hby d15_38) rfl (tlt hcw).2.2.1 (by decide) (by decide) ?_
   refine XS.aload X16.here hx rfl (hb hby d15_54) rfl rfl ?_
   exact k)
  obtain ⟨fs18, hr18, hrun18, hended18, hW18, hsame18⟩ := X16.leave (v := some (.ref b14)) (fun h => by rw [Bd.returns] at h; cases h)
  refine ⟨_, _, pre17 _ ?_, hrun18, hended18, _, _, rfl, ?_, ⟨_, rfl⟩, hW18, hsame18.mono (by decide) (by decide)⟩
  ·show Steps p.tables e below (T16.setTop (mkF m 56 #[.val (.ref a1), .val (.int (0 : Int32)), .val (.int (4 : Int32)), .val (.ref b1), .val (.int (2 : Int32)), .val (.ref b14)] [(.ref b14)])) _
   exact retOut X16 hx (t := (.array .byte)) Bd.returns rfl (Or.inr (Or.inr (Or.inr (Or.inr ⟨rfl, rfl, rfl⟩)))) (hb hby d15_56) hr18
  ·show Qcz4 Z a1 kc c0 c1 c2 c3 h0 n0 _ T16.heap _
   rw [q16]
   exact ⟨_, _, 1, _, _, rfl, N16, own_ext K14, V14, Or.inr ⟨rfl, rfl, rfl, ⟨c2, by simp, hcw⟩⟩⟩
 ·obtain ⟨_, _, ⟨T19, L19, k19, n19⟩, -, X19, ⟨Lc19, hQ19, l19, y19, z19⟩, st19⟩ := Jvm.LawKit.callS X2 hx (y := own_z14) hown (mvT hZ (wd88 hw)) (mvT hZ (wd89 hw)) (mvT hZ (wd74 hw)) (mvT hZ (wd90 hw)) (by decide) (backOf (W := 0) (rmtb4 l Z a0 hw [] a1 kc c0 c1 c2 c3 T2.heap n0 (Nat.le_trans (Nat.le_trans Z0 E1.1) Kp2.1) Ac_2 EN_2) hZ (wd90 hw) (wd74 hw) (by decide) (by decide)) (g := (mkF m 23 #[.val (.ref a1), .val (.int (0 : Int32)), .val (.int (4 : Int32)), .val (.ref b1), .val (.int (3 : Int32)), .unset] [(.int (4 : Int32)), (.int (0 : Int32)), (.ref a1)])) rfl (by rw [hml]; rfl) (argsL := [(.ref a1), (.int (0 : Int32)), (.int (4 : Int32))]) (rest := []) (lenOf pd_tb1 rfl) rfl (by show 2 * 0 + _ ≤ _; exact Nat.le_of_eq rfl) (hb hby d15_23) (fun _ _ => ⟨rfl, rfl, (by decide : 1 + 1 ≤ _), (by decide : 4 + 8 ≤ _)⟩)
  dsimp only [Pt.U, Pt.locs, Pt.cells, Pt.slots] at X19 l19 y19 z19 st19 hQ19
  subst l19 y19 z19
  obtain ⟨b19, kb19, rfl, N19q, E19, V19⟩ := hQ19
  have N19 := Fr.app N2 N19q
  have Ac_19 := Ac_2.ext E19
  have EN_19 := EN_2.ext E19
  have K19 := K2.ext E19
  have Vc20 := V19
  obtain ⟨cl20, Ar20, qq20, sz20, nn20, Ha20, Gf20⟩ := Vc20
  have r0_20 : own_rd cl20 ((3 : Int32) <<< ((1 : Int32) &&& 31)) (StrChars.lo8 c3) := own_rdOf sz20 Ha20 ⟨by decide, by decide⟩ (by rw [show (((3 : Int32) <<< ((1 : Int32) &&& 31))).toNatClampNeg = 6 from by decide]; rfl)
  have r1_20 : own_rd cl20 (((3 : Int32) <<< ((1 : Int32) &&& 31)) + (1 : Int32)) (StrChars.hi8 c3) := own_rdOf sz20 Ha20 ⟨by decide, by decide⟩ (by rw [show ((((3 : Int32) <<< ((1 : Int32) &&& 31)) + (1 : Int32))).toNatClampNeg = 7 from by decide]; rfl)
  obtain ⟨_, _, ⟨T21, L21, k21, n21⟩, -, X21, ⟨Lc21, hQ21, l21, y21, z21⟩, st21⟩ := Jvm.LawKit.callS X19 hx (y := own_z10) hown (mvT hZ (wd104 hw)) (mvT hZ (wd105 hw)) (mvT hZ (wd74 hw)) (mvT hZ (wd106 hw)) (by decide) (backOf (W := 0) (rmgc l Z a0 hw [] b19 cl20 (3 : Int32) (StrChars.lo8 c3) (StrChars.hi8 c3) c3 T19.heap n0 (Nat.le_trans (Nat.le_trans (Nat.le_trans Z0 E1.1) Kp2.1) E19.1) EN_19 (own_gcv hb3) Ar20 r0_20 r1_20) hZ (wd106 hw) (wd74 hw) (by decide) (by decide)) (g := (mkF m 32 #[.val (.ref a1), .val (.int (0 : Int32)), .val (.int (4 : Int32)), .val (.ref b1), .val (.int (3 : Int32)), .val (.ref b19)] [(.int (3 : Int32)), (.ref b19)])) rfl (by rw [hml]; rfl) (argsL := [(.ref b19), (.int (3 : Int32))]) (rest := []) (lenOf pd_gc rfl) rfl (by show 2 * 0 + _ ≤ _; exact Nat.le_of_eq rfl) (hb hby d15_32) (fun _ _ => ⟨rfl, rfl, (by decide : 2 + 0 ≤ _), (by decide : 12 + 0 ≤ _)⟩)
  dsimp only [Pt.U, Pt.locs, Pt.cells, Pt.slots] at X21 l21 y21 z21 st21 hQ21
  subst l21 y21 z21
  obtain ⟨rfl, N21q, q21⟩ := hQ21
  have N21 := Fr.app N19 N21q
  have pre22 : ∀ t, Steps p.tables e below (T21.setTop (mkF m 56 #[.val (.ref a1), .val (.int (0 : Int32)), .val (.int (4 : Int32)), .val (.ref b1), .val (.int (3 : Int32)), .val (.ref b19)] [(.ref b19)])) t → Steps p.tables e below (s₁.setTop (entryFrame m #[(.ref a1), (.int (0 : Int32)), (.int (4 : Int32))] 6)) t := fun t k => pre3 t (by
   show Steps p.tables e below (T2.setTop (mkF m 12 #[.val (.ref a1), .val (.int (0 : Int32)), .val (.int (4 : Int32)), .val (.ref b1), .unset, .unset] [(.int (3 : Int32))])) _
   refine XS.istore X2.here hx rfl (hb hby d15_12) rfl (l' := #[.val (.ref a1), .val (.int (0 : Int32)), .val (.int (4 : Int32)), .val (.ref b1), .val (.int (3 : Int32)), .unset]) rfl ?_
   refine XS.iload X2.here hx rfl (hb hby d15_14) rfl ?_
   refine XS.iloadN X2.here hx rfl (hb hby d15_16) rfl ?_
   refine XS.icmpNo X2.here hx rfl (hb hby d15_17) rfl (feq (by decide : ¬ ((3 : Int32) = (4 : Int32)))).1 ?_
   refine XS.aloadN X2.here hx rfl (hb hby d15_20) rfl rfl ?_
   refine XS.iloadN X2.here hx rfl (hb hby d15_21) rfl ?_
   refine XS.iloadN X2.here hx rfl (hb hby d15_22) rfl ?_
   refine st19 _ ?_
   refine XS.astore X19.here hx rfl (hb hby d15_26) rfl rfl (l' := #[.val (.ref a1), .val (.int (0 : Int32)), .val (.int (4 : Int32)), .val (.ref b1), .val (.int (3 : Int32)), .val (.ref b19)]) rfl ?_
   refine XS.aload X19.here hx rfl (hb hby d15_28) rfl rfl ?_
   refine XS.iload X19.here hx rfl (hb hby d15_30) rfl ?_
   refine st21 _ ?_
   refine XS.sipush X21.here hx rfl (hb hby d15_35) ?_
   refine XS.icmpYes X21.here hx rfl (pc0 := 38) (pc' := 54) rfl (hb hby d15_38) rfl (tlt hcw).2.2.1 (by decide) (by decide) ?_
   refine XS.aload X21.here hx rfl (hb hby d15_54) rfl rfl ?_
   exact k)
  obtain ⟨fs23, hr23, hrun23, hended23, hW23, hsame23⟩ := X21.leave (v := some (.ref b19)) (fun h => by rw [Bd.returns] at h; cases h)
  refine ⟨_, _, pre22 _ ?_, hrun23, hended23, _, _, rfl, ?_, ⟨_, rfl⟩, hW23, hsame23.mono (by decide) (by decide)⟩
  ·show Steps p.tables e below (T21.setTop (mkF m 56 #[.val (.ref a1), .val (.int (0 : Int32)), .val (.int (4 : Int32)), .val (.ref b1), .val (.int (3 : Int32)), .val (.ref b19)] [(.ref b19)])) _
   exact retOut X21 hx (t := (.array .byte)) Bd.returns rfl (Or.inr (Or.inr (Or.inr (Or.inr ⟨rfl, rfl, rfl⟩)))) (hb hby d15_56) hr23
  ·show Qcz4 Z a1 kc c0 c1 c2 c3 h0 n0 _ T21.heap _
   rw [q21]
   exact ⟨_, _, 1, _, _, rfl, N21, own_ext K19, V19, Or.inr ⟨rfl, rfl, rfl, ⟨c3, by simp, hcw⟩⟩⟩
 ·have pre24 : ∀ t, Steps p.tables e below (T2.setTop (mkF m 58 #[.val (.ref a1), .val (.int (0 : Int32)), .val (.int (4 : Int32)), .val (.ref b1), .val (.int (4 : Int32)), .unset] [(.ref b1)])) t → Steps p.tables e below (s₁.setTop (entryFrame m #[(.ref a1), (.int (0 : Int32)), (.int (4 : Int32))] 6)) t := fun t k => pre3 t (by
   show Steps p.tables e below (T2.setTop (mkF m 12 #[.val (.ref a1), .val (.int (0 : Int32)), .val (.int (4 : Int32)), .val (.ref b1), .unset, .unset] [(.int (4 : Int32))])) _
   refine XS.istore X2.here hx rfl (hb hby d15_12) rfl (l' := #[.val (.ref a1), .val (.int (0 : Int32)), .val (.int (4 : Int32)), .val (.ref b1), .val (.int (4 : Int32)), .unset]) rfl ?_
   refine XS.iload X2.here hx rfl (hb hby d15_14) rfl ?_
   refine XS.iloadN X2.here hx rfl (hb hby d15_16) rfl ?_
   refine XS.icmpYes X2.here hx rfl (pc0 := 17) (pc' := 57) rfl (hb hby d15_17) rfl (teq (by decide : (4 : Int32) = (4 : Int32))).1 (by decide) (by decide) ?_
   refine XS.aloadN X2.here hx rfl (hb hby d15_57) rfl rfl ?_
   exact k)
  obtain ⟨fs25, hr25, hrun25, hended25, hW25, hsame25⟩ := X2.leave (v := some (.ref b1)) (fun h => by rw [Bd.returns] at h; cases h)
  refine ⟨_, _, pre24 _ ?_, hrun25, hended25, _, _, rfl, ?_, ⟨_, rfl⟩, hW25, hsame25.mono (by decide) (by decide)⟩
  ·show Steps p.tables e below (T2.setTop (mkF m 58 #[.val (.ref a1), .val (.int (0 : Int32)), .val (.int (4 : Int32)), .val (.ref b1), .val (.int (4 : Int32)), .unset] [(.ref b1)])) _
   exact retOut X2 hx (t := (.array .byte)) Bd.returns rfl (Or.inr (Or.inr (Or.inr (Or.inr ⟨rfl, rfl, rfl⟩)))) (hb hby d15_58) hr25
  ·show Qcz4 Z a1 kc c0 c1 c2 c3 h0 n0 _ T2.heap _
   exact ⟨_, _, 0, _, _, rfl, N2, own_ext K2, hvl, Or.inl ⟨rfl, rfl, rfl, List.forall_mem_cons.mpr ⟨hcl.1, List.forall_mem_cons.mpr ⟨hcl.2.1, List.forall_mem_cons.mpr ⟨hcl.2.2.1, List.forall_mem_cons.mpr ⟨hcl.2.2.2, fun _ q => nomatch q⟩⟩⟩⟩⟩⟩


def Qca4_1 (Z : State) (a1 : Addr) (k1 : ClassId) (vs : List Value) (h0 : Heap) (n0 : Nat) (v : Option Value) (h : Heap) (L : List Loc) : Prop := v = some (.int (1 : Int32)) ∧ Fr n0 L ∧ h = h0
set_option maxRecDepth 65536 in
set_option maxHeartbeats 40000000 in
theorem rmca4_1 (l : Launch) (Z : State) (a0 : Array Value) (hw : ∀ d ∈ tables_1, d.before a0 Z = true) (ws : List Jvm.Cond) (a1 : Addr) (k1 : ClassId) (vs : List Value) (h0 : Heap) (n0 : Nat) (Z0 : n0 ≤ h0.size) (As : Arv Z h0 a1 k1 .byte (8 : Int32) vs (.int 0)) :
  own_M l Z own_z17 jdk_52_method_15_code 2 (some .byte) ({ frames := 0, cells := 0, slots := 0, locals := 0 } : Room) ws #[(.ref a1), (.int (4 : Int32))] h0 (Qca4_1 Z a1 k1 vs h0 n0) := by
 refine MetFree.of_bodySF (plainFor_of_name pn_k5) hisR ?_
 intro p e s m args below meth c s₁ Bd hml0 hP hK
 obtain ⟨rfl, hZ, hh⟩ := hP
 have hx := Bd.exec
 have hby := Bd.bytes
 have hml : c.maxLocals = 2 := hml0
 have hown : s.vm.findClass "java/lang/StringUTF16" = some m.cls := findClass_of_methodNamed Bd.named
 have hnm := (name_of_methodNamed Bd.named Bd.method).1
 have X0 : Stand p l e ({ frames := 0, cells := 0, slots := 0, locals := 0 } : Room) s m #[(.ref a1), (.int (4 : Int32))] below meth c s₁ [] 0 0 := Stand.of_body Bd
 have e0 : s₁.heap = h0 := by rw [← hh, Bd.state]; rfl
 have N0 := Fr.nil n0
 have pre0 : ∀ t, Steps p.tables e below (s₁.setTop (mkF m 0 #[.val (.ref a1), .val (.int (4 : Int32))] [])) t → Steps p.tables e below (s₁.setTop (entryFrame m #[(.ref a1), (.int (4 : Int32))] 2)) t := fun t k => castTop (ef_gc m a1 (4 : Int32)) k
 have Vc1 := As
 obtain ⟨cl1, Ar1, qq1, sz1, nn1, Ha1, Gf1⟩ := Vc1
 have pre2 : ∀ t, Steps p.tables e below (s₁.setTop (mkF m 8 #[.val (.ref a1), .val (.int (4 : Int32))] [(.int (1 : Int32))])) t → Steps p.tables e below (s₁.setTop (entryFrame m #[(.ref a1), (.int (4 : Int32))] 2)) t := fun t k => pre0 t (by
  show Steps p.tables e below (s₁.setTop (mkF m 0 #[.val (.ref a1), .val (.int (4 : Int32))] [])) _
  refine XS.iloadN X0.here hx rfl (hb hby d17_0) rfl ?_
  refine XS.aloadN X0.here hx rfl (hb hby d17_1) rfl rfl ?_
  refine X0.arraylength hx (by rw [e0]; exact Ar1.1) (State.isArrayOf_alike hZ.alike Ar1.2.1) (g := (mkF m 2 #[.val (.ref a1), .val (.int (4 : Int32))] [(.ref a1), (.int (4 : Int32))])) rfl rfl (hb hby d17_2) _ ?_
  rw [len_of sz1 nn1]
  refine XS.isub X0.here hx rfl (hb hby d17_3) rfl ?_
  show Steps p.tables e below (s₁.setTop (mkF m 4 #[.val (.ref a1), .val (.int (4 : Int32))] [(.int ((4 : Int32) - (8 : Int32)))])) _
  rw [show ((4 : Int32) - (8 : Int32)) = (-4 : Int32) from by decide]
  refine XS.bipush X0.here hx rfl (hb hby d17_4) ?_
  refine XS.iushr X0.here hx rfl (hb hby d17_6) rfl ?_
  show Steps p.tables e below (s₁.setTop (mkF m 7 #[.val (.ref a1), .val (.int (4 : Int32))] [(.int (((-4 : Int32).toUInt32 >>> ((31 : Int32) &&& 31).toUInt32).toInt32))])) _
  rw [show (((-4 : Int32).toUInt32 >>> ((31 : Int32) &&& 31).toUInt32).toInt32) = (1 : Int32) from by decide]
  refine XS.i2b X0.here hx rfl (hb hby d17_7) rfl ?_
  show Steps p.tables e below (s₁.setTop (mkF m 8 #[.val (.ref a1), .val (.int (4 : Int32))] [(.int ((1 : Int32).toInt8.toInt32))])) _
  rw [show ((1 : Int32).toInt8.toInt32) = (1 : Int32) from by decide]
  exact k)
 obtain ⟨fs3, hr3, hrun3, hended3, hW3, hsame3⟩ := X0.leave (v := some (.int (1 : Int32))) (fun h => by rw [Bd.returns] at h; cases h)
 refine ⟨_, _, pre2 _ ?_, hrun3, hended3, _, _, rfl, ?_, ⟨_, rfl⟩, hW3, hsame3.mono (by decide) (by decide)⟩
 ·show Steps p.tables e below (s₁.setTop (mkF m 8 #[.val (.ref a1), .val (.int (4 : Int32))] [(.int (1 : Int32))])) _
  exact retN X0 hx (t := .byte) Bd.returns (by simp) (hb hby d17_8) hr3
 ·show Qca4_1 Z a1 k1 vs h0 n0 _ s₁.heap _
  rw [e0]
  exact ⟨rfl, N0, rfl⟩


def Qca4_0 (Z : State) (a1 : Addr) (k1 : ClassId) (vs : List Value) (h0 : Heap) (n0 : Nat) (v : Option Value) (h : Heap) (L : List Loc) : Prop := v = some (.int (0 : Int32)) ∧ Fr n0 L ∧ h = h0
set_option maxRecDepth 65536 in
set_option maxHeartbeats 40000000 in
theorem rmca4_0 (l : Launch) (Z : State) (a0 : Array Value) (hw : ∀ d ∈ tables_1, d.before a0 Z = true) (ws : List Jvm.Cond) (a1 : Addr) (k1 : ClassId) (vs : List Value) (h0 : Heap) (n0 : Nat) (Z0 : n0 ≤ h0.size) (As : Arv Z h0 a1 k1 .byte (4 : Int32) vs (.int 0)) :
  own_M l Z own_z17 jdk_52_method_15_code 2 (some .byte) ({ frames := 0, cells := 0, slots := 0, locals := 0 } : Room) ws #[(.ref a1), (.int (4 : Int32))] h0 (Qca4_0 Z a1 k1 vs h0 n0) := by
 refine MetFree.of_bodySF (plainFor_of_name pn_k5) hisR ?_
 intro p e s m args below meth c s₁ Bd hml0 hP hK
 obtain ⟨rfl, hZ, hh⟩ := hP
 have hx := Bd.exec
 have hby := Bd.bytes
 have hml : c.maxLocals = 2 := hml0
 have hown : s.vm.findClass "java/lang/StringUTF16" = some m.cls := findClass_of_methodNamed Bd.named
 have hnm := (name_of_methodNamed Bd.named Bd.method).1
 have X0 : Stand p l e ({ frames := 0, cells := 0, slots := 0, locals := 0 } : Room) s m #[(.ref a1), (.int (4 : Int32))] below meth c s₁ [] 0 0 := Stand.of_body Bd
 have e0 : s₁.heap = h0 := by rw [← hh, Bd.state]; rfl
 have N0 := Fr.nil n0
 have pre0 : ∀ t, Steps p.tables e below (s₁.setTop (mkF m 0 #[.val (.ref a1), .val (.int (4 : Int32))] [])) t → Steps p.tables e below (s₁.setTop (entryFrame m #[(.ref a1), (.int (4 : Int32))] 2)) t := fun t k => castTop (ef_gc m a1 (4 : Int32)) k
 have Vc1 := As
 obtain ⟨cl1, Ar1, qq1, sz1, nn1, Ha1, Gf1⟩ := Vc1
 have pre2 : ∀ t, Steps p.tables e below (s₁.setTop (mkF m 8 #[.val (.ref a1), .val (.int (4 : Int32))] [(.int (0 : Int32))])) t → Steps p.tables e below (s₁.setTop (entryFrame m #[(.ref a1), (.int (4 : Int32))] 2)) t := fun t k => pre0 t (by
  show Steps p.tables e below (s₁.setTop (mkF m 0 #[.val (.ref a1), .val (.int (4 : Int32))] [])) _
  refine XS.iloadN X0.here hx rfl (hb hby d17_0) rfl ?_
  refine XS.aloadN X0.here hx rfl (hb hby d17_1) rfl rfl ?_
  refine X0.arraylength hx (by rw [e0]; exact Ar1.1) (State.isArrayOf_alike hZ.alike Ar1.2.1) (g := (mkF m 2 #[.val (.ref a1), .val (.int (4 : Int32))] [(.ref a1), (.int (4 : Int32))])) rfl rfl (hb hby d17_2) _ ?_
  rw [len_of sz1 nn1]
  refine XS.isub X0.here hx rfl (hb hby d17_3) rfl ?_
  show Steps p.tables e below (s₁.setTop (mkF m 4 #[.val (.ref a1), .val (.int (4 : Int32))] [(.int ((4 : Int32) - (4 : Int32)))])) _
  rw [show ((4 : Int32) - (4 : Int32)) = (0 : Int32) from by decide]
  refine XS.bipush X0.here hx rfl (hb hby d17_4) ?_
  refine XS.iushr X0.here hx rfl (hb hby d17_6) rfl ?_
  show Steps p.tables e below (s₁.setTop (mkF m 7 #[.val (.ref a1), .val (.int (4 : Int32))] [(.int (((0 : Int32).toUInt32 >>> ((31 : Int32) &&& 31).toUInt32).toInt32))])) _
  rw [show (((0 : Int32).toUInt32 >>> ((31 : Int32) &&& 31).toUInt32).toInt32) = (0 : Int32) from by decide]
  refine XS.i2b X0.here hx rfl (hb hby d17_7) rfl ?_
  show Steps p.tables e below (s₁.setTop (mkF m 8 #[.val (.ref a1), .val (.int (4 : Int32))] [(.int ((0 : Int32).toInt8.toInt32))])) _
  rw [show ((0 : Int32).toInt8.toInt32) = (0 : Int32) from by decide]
  exact k)
 obtain ⟨fs3, hr3, hrun3, hended3, hW3, hsame3⟩ := X0.leave (v := some (.int (0 : Int32))) (fun h => by rw [Bd.returns] at h; cases h)
 refine ⟨_, _, pre2 _ ?_, hrun3, hended3, _, _, rfl, ?_, ⟨_, rfl⟩, hW3, hsame3.mono (by decide) (by decide)⟩
 ·show Steps p.tables e below (s₁.setTop (mkF m 8 #[.val (.ref a1), .val (.int (4 : Int32))] [(.int (0 : Int32))])) _
  exact retN X0 hx (t := .byte) Bd.returns (by simp) (hb hby d17_8) hr3
 ·show Qca4_0 Z a1 k1 vs h0 n0 _ s₁.heap _
  rw [e0]
  exact ⟨rfl, N0, rfl⟩

theorem d3_0 : decode jdk_42_method_149_code 0 = .ok (.aload_n 0, 1) := by decide +kernel
theorem d3_1 : decode jdk_42_method_149_code 1 = .ok (.invokespecial 1, 3) := by decide +kernel
theorem d3_4 : decode jdk_42_method_149_code 4 = .ok (.iload_n 3, 1) := by decide +kernel
theorem d3_5 : decode jdk_42_method_149_code 5 = .ok (.ifCond .ne 22, 3) := by decide +kernel
theorem d3_8 : decode jdk_42_method_149_code 8 = .ok (.aload_n 0, 1) := by decide +kernel
theorem d3_9 : decode jdk_42_method_149_code 9 = .ok (.ldc 7, 2) := by decide +kernel
theorem d3_11 : decode jdk_42_method_149_code 11 = .ok (.getfield 9, 3) := by decide +kernel
theorem d3_14 : decode jdk_42_method_149_code 14 = .ok (.putfield 9, 3) := by decide +kernel
theorem d3_17 : decode jdk_42_method_149_code 17 = .ok (.aload_n 0, 1) := by decide +kernel
theorem d3_18 : decode jdk_42_method_149_code 18 = .ok (.ldc 7, 2) := by decide +kernel
theorem d3_20 : decode jdk_42_method_149_code 20 = .ok (.getfield 15, 3) := by decide +kernel
theorem d3_23 : decode jdk_42_method_149_code 23 = .ok (.putfield 15, 3) := by decide +kernel
theorem d3_26 : decode jdk_42_method_149_code 26 = .ok (.return_, 1) := by decide +kernel
theorem d3_27 : decode jdk_42_method_149_code 27 = .ok (.getstatic 38, 3) := by decide +kernel
theorem d3_30 : decode jdk_42_method_149_code 30 = .ok (.ifCond .eq 28, 3) := by decide +kernel
theorem d3_33 : decode jdk_42_method_149_code 33 = .ok (.aload_n 1, 1) := by decide +kernel
theorem d3_34 : decode jdk_42_method_149_code 34 = .ok (.iload_n 2, 1) := by decide +kernel
theorem d3_35 : decode jdk_42_method_149_code 35 = .ok (.iload_n 3, 1) := by decide +kernel
theorem d3_36 : decode jdk_42_method_149_code 36 = .ok (.invokestatic 177, 3) := by decide +kernel
theorem d3_39 : decode jdk_42_method_149_code 39 = .ok (.astore 5, 2) := by decide +kernel
theorem d3_41 : decode jdk_42_method_149_code 41 = .ok (.aload_n 0, 1) := by decide +kernel
theorem d3_42 : decode jdk_42_method_149_code 42 = .ok (.aload 5, 2) := by decide +kernel
theorem d3_44 : decode jdk_42_method_149_code 44 = .ok (.iload_n 3, 1) := by decide +kernel
theorem d3_45 : decode jdk_42_method_149_code 45 = .ok (.invokestatic 47, 3) := by decide +kernel
theorem d3_48 : decode jdk_42_method_149_code 48 = .ok (.putfield 15, 3) := by decide +kernel
theorem d3_51 : decode jdk_42_method_149_code 51 = .ok (.aload_n 0, 1) := by decide +kernel
theorem d3_52 : decode jdk_42_method_149_code 52 = .ok (.aload 5, 2) := by decide +kernel
theorem d3_54 : decode jdk_42_method_149_code 54 = .ok (.putfield 9, 3) := by decide +kernel
theorem d3_57 : decode jdk_42_method_149_code 57 = .ok (.return_, 1) := by decide +kernel

theorem pd_w41 : parseMethodDescriptor "([CIILjava/lang/Void;)V" = some ⟨[(.array .char), .int, .int, (.object "java/lang/Void")], none⟩ := by decide +kernel

theorem ef_w41 (m : MethodId) (x0 : Addr) (x1 : Addr) (x2 : Int32) (x3 : Int32)  : entryFrame m #[(.ref x0), (.ref x1), (.int x2), (.int x3), .null] 6 = mkF m 0 #[.val (.ref x0), .val (.ref x1), .val (.int x2), .val (.int x3), .val .null, .unset] [] := by first | (simp [entryFrame, mkF, argsToLocals, Value.category]; done) | rfl
def Qw41 (Z : State) (a1 a2 : Addr) (kc : ClassId) (c0 : Int32) (h0 : Heap) (n0 : Nat) (v : Option Value) (h : Heap) (L : List Loc) : Prop := v = none ∧ Fr n0 L ∧ Keep h0 h [a1] ∧ ∃ cd, own_s Z h a1 [c0] cd
set_option maxRecDepth 65536 in
set_option maxHeartbeats 40000000 in
theorem rmw41 (l : Launch) (Z : State) (a0 : Array Value) (hw : ∀ d ∈ tables_1, d.before a0 Z = true) (ws : List Jvm.Cond) (a1 a2 : Addr) (kc : ClassId) (c0 : Int32) (h0 : Heap) (n0 : Nat) (Z0 : n0 ≤ h0.size) (F1 : Fld Z h0 a1 "java/lang/String" "value" "[B" .null) (C1 : Fld Z h0 a1 "java/lang/String" "coder" "B" (.int 0)) (E1 : Exa Z h0 a1 "java/lang/String") (g1 : n0 ≤ a1) (Ac : Arv Z h0 a2 kc .char (1 : Int32) ([c0].map Value.int) (.int 0)) (EN : own_env Z h0) (hb0 : own_b c0) :
  own_M l Z own_z18 jdk_42_method_149_code 6 none ({ frames := 4, cells := 2, slots := 3, locals := 64 } : Room) ws #[(.ref a1), (.ref a2), (.int (0 : Int32)), (.int (1 : Int32)), .null] h0 (Qw41 Z a1 a2 kc c0 h0 n0) := by
 refine MetFree.of_bodySF (plainFor_of_name pn_k2) hisR ?_
 intro p e s m args below meth c s₁ Bd hml0 hP hK
 obtain ⟨rfl, hZ, hh⟩ := hP
 have hx := Bd.exec
 have hby := Bd.bytes
 have hml : c.maxLocals = 6 := hml0
 have hown : s.vm.findClass "java/lang/String" = some m.cls := findClass_of_methodNamed Bd.named
 have hnm := (name_of_methodNamed Bd.named Bd.method).1
 have X0 : Stand p l e ({ frames := 4, cells := 2, slots := 3, locals := 64 } : Room) s m #[(.ref a1), (.ref a2), (.int (0 : Int32)), (.int (1 : Int32)), .null] below meth c s₁ [] 0 0 := Stand.of_body Bd
 have e0 : s₁.heap = h0 := by rw [← hh, Bd.state]; rfl
 have N0 := Fr.nil n0
 have pre0 : ∀ t, Steps p.tables e below (s₁.setTop (mkF m 0 #[.val (.ref a1), .val (.ref a2), .val (.int (0 : Int32)), .val (.int (1 : Int32)), .val .null, .unset] [])) t → Steps p.tables e below (s₁.setTop (entryFrame m #[(.ref a1), (.ref a2), (.int (0 : Int32)), (.int (1 : Int32)), .null] 6)) t := fun t k => castTop (ef_w41 m a1 a2 (0 : Int32) (1 : Int32)) k
 have EN9 := EN
 obtain ⟨z, fm, Sz, hz, -⟩ := EN9
 obtain ⟨T1, X1, e1, st1⟩ := initO X0 hx hZ hown (wd17 hw) (wd18 hw) (wd19 hw) e0 (g := (mkF m 1 #[.val (.ref a1), .val (.ref a2), .val (.int (0 : Int32)), .val (.int (1 : Int32)), .val .null, .unset] [(.ref a1)])) rfl (by rw [hml]; rfl) rfl (hb hby d3_1) (by decide) (W := 0) (by show 2 * 0 + _ ≤ _; exact Nat.le_of_eq rfl) (by decide)
 obtain ⟨T2, X2, e2, st2⟩ := getS2 X1 hx hZ hown (host := "") (Or.inl (wd47 hw)) Via.refl e1 Sz (g := (mkF m 27 #[.val (.ref a1), .val (.ref a2), .val (.int (0 : Int32)), .val (.int (1 : Int32)), .val .null, .unset] [])) rfl (hb hby d3_27)
 obtain ⟨_, _, ⟨T3, L3, k3, n3⟩, -, X3, ⟨Lc3, hQ3, l3, y3, z3⟩, st3⟩ := Jvm.LawKit.callS X2 hx (y := own_z16) hown (mvT hZ (wd72 hw)) (mvT hZ (wd73 hw)) (mvT hZ (wd74 hw)) (mvT hZ (wd75 hw)) (by decide) (backOf (W := 0) (rmcz1 l Z a0 hw [] a2 kc c0 h0 n0 Z0 Ac EN hb0) hZ (wd75 hw) (wd74 hw) (by decide) (by decide)) (g := (mkF m 36 #[.val (.ref a1), .val (.ref a2), .val (.int (0 : Int32)), .val (.int (1 : Int32)), .val .null, .unset] [(.int (1 : Int32)), (.int (0 : Int32)), (.ref a2)])) rfl (by rw [hml]; rfl) (argsL := [(.ref a2), (.int (0 : Int32)), (.int (1 : Int32))]) (rest := []) (lenOf pd_tb1 rfl) rfl (by show 2 * 0 + _ ≤ _; exact Nat.le_of_eq rfl) (hb hby d3_36) (fun _ _ => ⟨rfl, e2, (by decide : 0 + 2 ≤ _), (by decide : 0 + 3 ≤ _)⟩)
 dsimp only [Pt.U, Pt.locs, Pt.cells, Pt.slots] at X3 l3 y3 z3 st3 hQ3
 subst l3 y3 z3
 obtain ⟨b3, kb3, cd3, NN3, vs3, rfl, N3q, E3, V3, hcod3⟩ := hQ3
 have N3 := Fr.app N0 N3q
 have F1_3 := F1.ext E3
 have C1_3 := C1.ext E3
 have E1_3 := E1.ext E3
 have Ac_3 := Ac.ext E3
 have EN_3 := EN.ext E3
 have K3 := (Keep.refl h0 []).ext E3
 have pre4 : ∀ t, Steps p.tables e below (T3.setTop (mkF m 45 #[.val (.ref a1), .val (.ref a2), .val (.int (0 : Int32)), .val (.int (1 : Int32)), .val .null, .val (.ref b3)] [(.int (1 : Int32)), (.ref b3), (.ref a1)])) t → Steps p.tables e below (s₁.setTop (entryFrame m #[(.ref a1), (.ref a2), (.int (0 : Int32)), (.int (1 : Int32)), .null] 6)) t := fun t k => pre0 t (by
  show Steps p.tables e below (s₁.setTop (mkF m 0 #[.val (.ref a1), .val (.ref a2), .val (.int (0 : Int32)), .val (.int (1 : Int32)), .val .null, .unset] [])) _
  refine XS.aloadN X0.here hx rfl (hb hby d3_0) rfl rfl ?_
  refine st1 _ ?_
  refine XS.iloadN X1.here hx rfl (hb hby d3_4) rfl ?_
  refine XS.ifYes X1.here hx rfl (pc0 := 5) (pc' := 27) rfl (hb hby d3_5) rfl ((if0 _ _).trans (feq (by decide : ¬ ((1 : Int32) = (0 : Int32)))).2) (by decide) (by decide) ?_
  refine st2 _ ?_
  refine XS.ifNo X2.here hx rfl (hb hby d3_30) rfl ((if0 _ _).trans (feq hz).1) ?_
  refine XS.aloadN X2.here hx rfl (hb hby d3_33) rfl rfl ?_
  refine XS.iloadN X2.here hx rfl (hb hby d3_34) rfl ?_
  refine XS.iloadN X2.here hx rfl (hb hby d3_35) rfl ?_
  refine st3 _ ?_
  refine XS.astore X3.here hx rfl (hb hby d3_39) rfl rfl (l' := #[.val (.ref a1), .val (.ref a2), .val (.int (0 : Int32)), .val (.int (1 : Int32)), .val .null, .val (.ref b3)]) rfl ?_
  refine XS.aloadN X3.here hx rfl (hb hby d3_41) rfl rfl ?_
  refine XS.aload X3.here hx rfl (hb hby d3_42) rfl rfl ?_
  refine XS.iloadN X3.here hx rfl (hb hby d3_44) rfl ?_
  exact k)
 rcases hcod3 with ⟨rfl, rfl, rfl, hxx⟩ | ⟨rfl, rfl, rfl, hxx⟩
 ·obtain ⟨_, _, ⟨T5, L5, k5, n5⟩, -, X5, ⟨Lc5, hQ5, l5, y5, z5⟩, st5⟩ := Jvm.LawKit.callS X3 hx (y := own_z17) hown (mvT hZ (wd79 hw)) (mvT hZ (wd80 hw)) (mvT hZ (wd74 hw)) (mvT hZ (wd81 hw)) (by decide) (backOf (W := 1) (rmca1_0 l Z a0 hw [] b3 kb3 ([c0].map fun c => Value.int (StrChars.lo8 c)) T3.heap n0 (Nat.le_trans Z0 E3.1) V3) hZ (wd81 hw) (wd74 hw) (by decide) (by decide)) (g := (mkF m 45 #[.val (.ref a1), .val (.ref a2), .val (.int (0 : Int32)), .val (.int (1 : Int32)), .val .null, .val (.ref b3)] [(.int (1 : Int32)), (.ref b3), (.ref a1)])) rfl (by rw [hml]; rfl) (argsL := [(.ref b3), (.int (1 : Int32))]) (rest := [(.ref a1)]) (lenOf pd_ca1_1 rfl) rfl (by show 2 * 0 + _ ≤ _; exact Nat.le_of_eq rfl) (hb hby d3_45) (fun _ _ => ⟨rfl, rfl, (by decide : 2 + 0 ≤ _), (by decide : 3 + 0 ≤ _)⟩)
  dsimp only [Pt.U, Pt.locs, Pt.cells, Pt.slots] at X5 l5 y5 z5 st5 hQ5
  subst l5 y5 z5
  obtain ⟨rfl, N5q, q5⟩ := hQ5
  have N5 := Fr.app N3 N5q
  obtain ⟨T6, h6, X6, e6, W6, st6⟩ := putFN X5 hx hZ hown (wd27 hw) Via.refl q5 C1_3 E1_3 (Or.inr ⟨(wd23 hw), rfl, hnm⟩) (wd7 hw) (ty := .byte) (v' := (.int (0 : Int32))) (by decide) rfl rfl (g := (mkF m 48 #[.val (.ref a1), .val (.ref a2), .val (.int (0 : Int32)), .val (.int (1 : Int32)), .val .null, .val (.ref b3)] [(.int (0 : Int32)), (.ref a1)])) rfl rfl (hb hby d3_48)
  have N6 := Fr.snoc X6 N5 g1
  have F1_6 := F1_3.other W6 (Or.inr (slot_ne (Or.inr (wd22 hw)) (Or.inr (wd23 hw)) (by decide) (t := (.array .byte)) (t' := .byte) (by decide) (by decide)))
  have C1_6 := C1_3.same W6
  have E1_6 := E1_3.wr W6
  have Ac_6 := Ac_3.other W6 (Ne.symm (E1_3.neArv Ac_3 (wd7 hw)))
  have EN_6 := EN_3.wr W6 trivial
  have V3_6 := V3.other W6 (Ne.symm (E1_3.neArv V3 (wd7 hw)))
  obtain ⟨T7, h7, X7, e7, W7, st7⟩ := putF X6 hx hZ hown (host := "") (Or.inl (wd26 hw)) Via.refl e6 F1_6 E1_6 (Or.inr ⟨(wd22 hw), rfl, hnm⟩) (wd7 hw) (ty := (.array .byte)) (by decide) rfl rfl (g := (mkF m 54 #[.val (.ref a1), .val (.ref a2), .val (.int (0 : Int32)), .val (.int (1 : Int32)), .val .null, .val (.ref b3)] [(.ref b3), (.ref a1)])) rfl rfl (hb hby d3_54)
  have N7 := Fr.snoc X7 N6 g1
  have F1_7 := F1_6.same W7
  have C1_7 := C1_6.other W7 (Or.inr (slot_ne (Or.inr (wd23 hw)) (Or.inr (wd22 hw)) (by decide) (t := .byte) (t' := (.array .byte)) (by decide) (by decide)))
  have E1_7 := E1_6.wr W7
  have Ac_7 := Ac_6.other W7 (Ne.symm (E1_6.neArv Ac_6 (wd7 hw)))
  have EN_7 := EN_6.wr W7 trivial
  have V3_7 := V3_6.other W7 (Ne.symm (E1_6.neArv V3_6 (wd7 hw)))
  have pre8 : ∀ t, Steps p.tables e below (T7.setTop (mkF m 57 #[.val (.ref a1), .val (.ref a2), .val (.int (0 : Int32)), .val (.int (1 : Int32)), .val .null, .val (.ref b3)] [])) t → Steps p.tables e below (s₁.setTop (entryFrame m #[(.ref a1), (.ref a2), (.int (0 : Int32)), (.int (1 : Int32)), .null] 6)) t := fun t k => pre4 t (by
   show Steps p.tables e below (T3.setTop (mkF m 45 #[.val (.ref a1), .val (.ref a2), .val (.int (0 : Int32)), .val (.int (1 : Int32)), .val .null, .val (.ref b3)] [(.int (1 : Int32)), (.ref b3), (.ref a1)])) _
   refine st5 _ ?_
   refine st6 _ ?_
   refine XS.aloadN X6.here hx rfl (hb hby d3_51) rfl rfl ?_
   refine XS.aload X6.here hx rfl (hb hby d3_52) rfl rfl ?_
   refine st7 _ ?_
   exact k)
  obtain ⟨fs9, hr9, hrun9, hended9, hW9, hsame9⟩ := X7.leave (v := none) (fun _ => rfl)
  refine ⟨_, _, pre8 _ ?_, hrun9, hended9, _, _, rfl, ?_, ⟨_, rfl⟩, hW9, hsame9.mono (by decide) (by decide)⟩
  ·show Steps p.tables e below (T7.setTop (mkF m 57 #[.val (.ref a1), .val (.ref a2), .val (.int (0 : Int32)), .val (.int (1 : Int32)), .val .null, .val (.ref b3)] [])) _
   exact X7.returnOut hx Bd.returns (hb hby d3_57) hr9
  ·show Qw41 Z a1 a2 kc c0 h0 n0 _ T7.heap _
   rw [e7]
   exact ⟨rfl, N7, (((Keep.refl h0 [a1]).ext E3).wr W6 (Or.inl (List.mem_singleton.mpr rfl))).wr W7 (Or.inl (List.mem_singleton.mpr rfl)), 0, b3, kb3, _, _, E1_7, F1_7, C1_7, V3_7, Or.inl ⟨rfl, rfl, rfl, hxx⟩⟩
 ·obtain ⟨_, _, ⟨T10, L10, k10, n10⟩, -, X10, ⟨Lc10, hQ10, l10, y10, z10⟩, st10⟩ := Jvm.LawKit.callS X3 hx (y := own_z17) hown (mvT hZ (wd79 hw)) (mvT hZ (wd80 hw)) (mvT hZ (wd74 hw)) (mvT hZ (wd81 hw)) (by decide) (backOf (W := 1) (rmca1_1 l Z a0 hw [] b3 kb3 (StrChars.Road.wideBytes [c0]) T3.heap n0 (Nat.le_trans Z0 E3.1) V3) hZ (wd81 hw) (wd74 hw) (by decide) (by decide)) (g := (mkF m 45 #[.val (.ref a1), .val (.ref a2), .val (.int (0 : Int32)), .val (.int (1 : Int32)), .val .null, .val (.ref b3)] [(.int (1 : Int32)), (.ref b3), (.ref a1)])) rfl (by rw [hml]; rfl) (argsL := [(.ref b3), (.int (1 : Int32))]) (rest := [(.ref a1)]) (lenOf pd_ca1_1 rfl) rfl (by show 2 * 0 + _ ≤ _; exact Nat.le_of_eq rfl) (hb hby d3_45) (fun _ _ => ⟨rfl, rfl, (by decide : 2 + 0 ≤ _), (by decide : 3 + 0 ≤ _)⟩)
  dsimp only [Pt.U, Pt.locs, Pt.cells, Pt.slots] at X10 l10 y10 z10 st10 hQ10
  subst l10 y10 z10
  obtain ⟨rfl, N10q, q10⟩ := hQ10
  have N10 := Fr.app N3 N10q
  obtain ⟨T11, h11, X11, e11, W11, st11⟩ := putFN X10 hx hZ hown (wd27 hw) Via.refl q10 C1_3 E1_3 (Or.inr ⟨(wd23 hw), rfl, hnm⟩) (wd7 hw) (ty := .byte) (v' := (.int (1 : Int32))) (by decide) rfl rfl (g := (mkF m 48 #[.val (.ref a1), .val (.ref a2), .val (.int (0 : Int32)), .val (.int (1 : Int32)), .val .null, .val (.ref b3)] [(.int (1 : Int32)), (.ref a1)])) rfl rfl (hb hby d3_48)
  have N11 := Fr.snoc X11 N10 g1
  have F1_11 := F1_3.other W11 (Or.inr (slot_ne (Or.inr (wd22 hw)) (Or.inr (wd23 hw)) (by decide) (t := (.array .byte)) (t' := .byte) (by decide) (by decide)))
  have C1_11 := C1_3.same W11
  have E1_11 := E1_3.wr W11
  have Ac_11 := Ac_3.other W11 (Ne.symm (E1_3.neArv Ac_3 (wd7 hw)))
  have EN_11 := EN_3.wr W11 trivial
  have V3_11 := V3.other W11 (Ne.symm (E1_3.neArv V3 (wd7 hw)))
  obtain ⟨T12, h12, X12, e12, W12, st12⟩ := putF X11 hx hZ hown (host := "") (Or.inl (wd26 hw)) Via.refl e11 F1_11 E1_11 (Or.inr ⟨(wd22 hw), rfl, hnm⟩) (wd7 hw) (ty := (.array .byte)) (by decide) rfl rfl (g := (mkF m 54 #[.val (.ref a1), .val (.ref a2), .val (.int (0 : Int32)), .val (.int (1 : Int32)), .val .null, .val (.ref b3)] [(.ref b3), (.ref a1)])) rfl rfl (hb hby d3_54)
  have N12 := Fr.snoc X12 N11 g1
  have F1_12 := F1_11.same W12
  have C1_12 := C1_11.other W12 (Or.inr (slot_ne (Or.inr (wd23 hw)) (Or.inr (wd22 hw)) (by decide) (t := .byte) (t' := (.array .byte)) (by decide) (by decide)))
  have E1_12 := E1_11.wr W12
  have Ac_12 := Ac_11.other W12 (Ne.symm (E1_11.neArv Ac_11 (wd7 hw)))
  have EN_12 := EN_11.wr W12 trivial
  have V3_12 := V3_11.other W12 (Ne.symm (E1_11.neArv V3_11 (wd7 hw)))
  have pre13 : ∀ t, Steps p.tables e below (T12.setTop (mkF m 57 #[.val (.ref a1), .val (.ref a2), .val (.int (0 : Int32)), .val (.int (1 : Int32)), .val .null, .val (.ref b3)] [])) t → Steps p.tables e below (s₁.setTop (entryFrame m #[(.ref a1), (.ref a2), (.int (0 : Int32)), (.int (1 : Int32)), .null] 6)) t := fun t k => pre4 t (by
   show Steps p.tables e below (T3.setTop (mkF m 45 #[.val (.ref a1), .val (.ref a2), .val (.int (0 : Int32)), .val (.int (1 : Int32)), .val .null, .val (.ref b3)] [(.int (1 : Int32)), (.ref b3), (.ref a1)])) _
   refine st10 _ ?_
   refine st11 _ ?_
   refine XS.aloadN X11.here hx rfl (hb hby d3_51) rfl rfl ?_
   refine XS.aload X11.here hx rfl (hb hby d3_52) rfl rfl ?_
   refine st12 _ ?_
   exact k)
  obtain ⟨fs14, hr14, hrun14, hended14, hW14, hsame14⟩ := X12.leave (v := none) (fun _ => rfl)
  refine ⟨_, _, pre13 _ ?_, hrun14, hended14, _, _, rfl, ?_, ⟨_, rfl⟩, hW14, hsame14.mono (by decide) (by decide)⟩
  ·show Steps p.tables e below (T12.setTop (mkF m 57 #[.val (.ref a1), .val (.ref a2), .val (.int (0 : Int32)), .val (.int (1 : Int32)), .val .null, .val (.ref b3)] [])) _
   exact X12.returnOut hx Bd.returns (hb hby d3_57) hr14
  ·show Qw41 Z a1 a2 kc c0 h0 n0 _ T12.heap _
   rw [e12]
   exact ⟨rfl, N12, (((Keep.refl h0 [a1]).ext E3).wr W11 (Or.inl (List.mem_singleton.mpr rfl))).wr W12 (Or.inl (List.mem_singleton.mpr rfl)), 1, b3, kb3, _, _, E1_12, F1_12, C1_12, V3_12, Or.inr ⟨rfl, rfl, rfl, hxx⟩⟩

theorem d2_0 : decode jdk_42_method_3_code 0 = .ok (.aload_n 0, 1) := by decide +kernel
theorem d2_1 : decode jdk_42_method_3_code 1 = .ok (.aload_n 1, 1) := by decide +kernel
theorem d2_2 : decode jdk_42_method_3_code 2 = .ok (.iconst 0, 1) := by decide +kernel
theorem d2_3 : decode jdk_42_method_3_code 3 = .ok (.aload_n 1, 1) := by decide +kernel
theorem d2_4 : decode jdk_42_method_3_code 4 = .ok (.arraylength, 1) := by decide +kernel
theorem d2_5 : decode jdk_42_method_3_code 5 = .ok (.aconst_null, 1) := by decide +kernel
theorem d2_6 : decode jdk_42_method_3_code 6 = .ok (.invokespecial 27, 3) := by decide +kernel
theorem d2_9 : decode jdk_42_method_3_code 9 = .ok (.return_, 1) := by decide +kernel

theorem pd_w11 : parseMethodDescriptor "([C)V" = some ⟨[(.array .char)], none⟩ := by decide +kernel

theorem ef_w11 (m : MethodId) (x0 : Addr) (x1 : Addr)  : entryFrame m #[(.ref x0), (.ref x1)] 2 = mkF m 0 #[.val (.ref x0), .val (.ref x1)] [] := by first | (simp [entryFrame, mkF, argsToLocals, Value.category]; done) | rfl
def Qw11 (Z : State) (a1 a2 : Addr) (kc : ClassId) (c0 : Int32) (h0 : Heap) (n0 : Nat) (v : Option Value) (h : Heap) (L : List Loc) : Prop := v = none ∧ Fr n0 L ∧ Keep h0 h [a1] ∧ ∃ cd, own_s Z h a1 [c0] cd
set_option maxRecDepth 65536 in
set_option maxHeartbeats 40000000 in
theorem rmw11 (l : Launch) (Z : State) (a0 : Array Value) (hw : ∀ d ∈ tables_1, d.before a0 Z = true) (ws : List Jvm.Cond) (a1 a2 : Addr) (kc : ClassId) (c0 : Int32) (h0 : Heap) (n0 : Nat) (Z0 : n0 ≤ h0.size) (F1 : Fld Z h0 a1 "java/lang/String" "value" "[B" .null) (C1 : Fld Z h0 a1 "java/lang/String" "coder" "B" (.int 0)) (E1 : Exa Z h0 a1 "java/lang/String") (g1 : n0 ≤ a1) (Ac : Arv Z h0 a2 kc .char (1 : Int32) ([c0].map Value.int) (.int 0)) (EN : own_env Z h0) (hb0 : own_b c0) :
  own_M l Z own_z19 jdk_42_method_3_code 2 none ({ frames := 5, cells := 2, slots := 3, locals := 81 } : Room) ws #[(.ref a1), (.ref a2)] h0 (Qw11 Z a1 a2 kc c0 h0 n0) := by
 refine MetFree.of_bodySF (plainFor_of_name pn_k2) hisR ?_
 intro p e s m args below meth c s₁ Bd hml0 hP hK
 obtain ⟨rfl, hZ, hh⟩ := hP
 have hx := Bd.exec
 have hby := Bd.bytes
 have hml : c.maxLocals = 2 := hml0
 have hown : s.vm.findClass "java/lang/String" = some m.cls := findClass_of_methodNamed Bd.named
 have hnm := (name_of_methodNamed Bd.named Bd.method).1
 have X0 : Stand p l e ({ frames := 5, cells := 2, slots := 3, locals := 81 } : Room) s m #[(.ref a1), (.ref a2)] below meth c s₁ [] 0 0 := Stand.of_body Bd
 have e0 : s₁.heap = h0 := by rw [← hh, Bd.state]; rfl
 have N0 := Fr.nil n0
 have pre0 : ∀ t, Steps p.tables e below (s₁.setTop (mkF m 0 #[.val (.ref a1), .val (.ref a2)] [])) t → Steps p.tables e below (s₁.setTop (entryFrame m #[(.ref a1), (.ref a2)] 2)) t := fun t k => castTop (ef_w11 m a1 a2) k
 have Vc1 := Ac
 obtain ⟨cl1, Ar1, qq1, sz1, nn1, Ha1, Gf1⟩ := Vc1
 obtain ⟨_, _, ⟨T2, L2, k2, n2⟩, -, X2, ⟨Lc2, hQ2, l2, y2, z2⟩, st2⟩ := X0.specialBack hx (y := own_z18) rfl hown (mvT hZ (wd13 hw)) (mvT hZ (wd14 hw)) (mvT hZ (wd16 hw)) (by decide) (backOf (W := 0) (rmw41 l Z a0 hw [] a1 a2 kc c0 h0 n0 Z0 F1 C1 E1 g1 Ac EN hb0) hZ (wd16 hw) (wd8 hw) (by decide) (by decide)) (g := (mkF m 6 #[.val (.ref a1), .val (.ref a2)] [.null, (.int (1 : Int32)), (.int (0 : Int32)), (.ref a2), (.ref a1)])) rfl (by rw [hml]; rfl) (Steps.refl _) (a := a1) (argsL := [(.ref a2), (.int (0 : Int32)), (.int (1 : Int32)), .null]) (rest := []) (lenOf pd_w41 rfl) rfl (by show 2 * 0 + _ ≤ _; exact Nat.le_of_eq rfl) (hb hby d2_6) (fun _ _ => ⟨rfl, e0, (by decide : 0 + 2 ≤ _), (by decide : 0 + 3 ≤ _)⟩)
 dsimp only [Pt.U, Pt.locs, Pt.cells, Pt.slots] at X2 l2 y2 z2 st2 hQ2
 subst l2 y2 z2
 obtain ⟨rfl, N2q, Kp2, S2⟩ := hQ2
 have N2 := Fr.app N0 N2q
 have pre3 : ∀ t, Steps p.tables e below (T2.setTop (mkF m 9 #[.val (.ref a1), .val (.ref a2)] [])) t → Steps p.tables e below (s₁.setTop (entryFrame m #[(.ref a1), (.ref a2)] 2)) t := fun t k => pre0 t (by
  show Steps p.tables e below (s₁.setTop (mkF m 0 #[.val (.ref a1), .val (.ref a2)] [])) _
  refine XS.aloadN X0.here hx rfl (hb hby d2_0) rfl rfl ?_
  refine XS.aloadN X0.here hx rfl (hb hby d2_1) rfl rfl ?_
  refine XS.iconst X0.here hx rfl (hb hby d2_2) ?_
  refine XS.aloadN X0.here hx rfl (hb hby d2_3) rfl rfl ?_
  refine X0.arraylength hx (by rw [e0]; exact Ar1.1) (State.isArrayOf_alike hZ.alike Ar1.2.1) (g := (mkF m 4 #[.val (.ref a1), .val (.ref a2)] [(.ref a2), (.int (0 : Int32)), (.ref a2), (.ref a1)])) rfl rfl (hb hby d2_4) _ ?_
  rw [len_of sz1 nn1]
  refine XS.aconstNull X0.here hx rfl (hb hby d2_5) ?_
  refine st2.trans ?_
  exact k)
 obtain ⟨fs4, hr4, hrun4, hended4, hW4, hsame4⟩ := X2.leave (v := none) (fun _ => rfl)
 refine ⟨_, _, pre3 _ ?_, hrun4, hended4, _, _, rfl, ?_, ⟨_, rfl⟩, hW4, hsame4.mono (by decide) (by decide)⟩
 ·show Steps p.tables e below (T2.setTop (mkF m 9 #[.val (.ref a1), .val (.ref a2)] [])) _
  exact X2.returnOut hx Bd.returns (hb hby d2_9) hr4
 ·show Qw11 Z a1 a2 kc c0 h0 n0 _ T2.heap _
  exact ⟨rfl, N2, Kp2, S2⟩


def Qw42 (Z : State) (a1 a2 : Addr) (kc : ClassId) (c0 c1 : Int32) (h0 : Heap) (n0 : Nat) (v : Option Value) (h : Heap) (L : List Loc) : Prop := v = none ∧ Fr n0 L ∧ Keep h0 h [a1] ∧ ∃ cd, own_s Z h a1 [c0, c1] cd
set_option maxRecDepth 65536 in
set_option maxHeartbeats 40000000 in
theorem rmw42 (l : Launch) (Z : State) (a0 : Array Value) (hw : ∀ d ∈ tables_1, d.before a0 Z = true) (ws : List Jvm.Cond) (a1 a2 : Addr) (kc : ClassId) (c0 c1 : Int32) (h0 : Heap) (n0 : Nat) (Z0 : n0 ≤ h0.size) (F1 : Fld Z h0 a1 "java/lang/String" "value" "[B" .null) (C1 : Fld Z h0 a1 "java/lang/String" "coder" "B" (.int 0)) (E1 : Exa Z h0 a1 "java/lang/String") (g1 : n0 ≤ a1) (Ac : Arv Z h0 a2 kc .char (2 : Int32) ([c0, c1].map Value.int) (.int 0)) (EN : own_env Z h0) (hb0 : own_b c0) (hb1 : own_b c1) :
  own_M l Z own_z18 jdk_42_method_149_code 6 none ({ frames := 4, cells := 2, slots := 6, locals := 64 } : Room) ws #[(.ref a1), (.ref a2), (.int (0 : Int32)), (.int (2 : Int32)), .null] h0 (Qw42 Z a1 a2 kc c0 c1 h0 n0) := by
 refine MetFree.of_bodySF (plainFor_of_name pn_k2) hisR ?_
 intro p e s m args below meth c s₁ Bd hml0 hP hK
 obtain ⟨rfl, hZ, hh⟩ := hP
 have hx := Bd.exec
 have hby := Bd.bytes
 have hml : c.maxLocals = 6 := hml0
 have hown : s.vm.findClass "java/lang/String" = some m.cls := findClass_of_methodNamed Bd.named
 have hnm := (name_of_methodNamed Bd.named Bd.method).1
 have X0 : Stand p l e ({ frames := 4, cells := 2, slots := 6, locals := 64 } : Room) s m #[(.ref a1), (.ref a2), (.int (0 : Int32)), (.int (2 : Int32)), .null] below meth c s₁ [] 0 0 := Stand.of_body Bd
 have e0 : s₁.heap = h0 := by rw [← hh, Bd.state]; rfl
 have N0 := Fr.nil n0
 have pre0 : ∀ t, Steps p.tables e below (s₁.setTop (mkF m 0 #[.val (.ref a1), .val (.ref a2), .val (.int (0 : Int32)), .val (.int (2 : Int32)), .val .null, .unset] [])) t → Steps p.tables e below (s₁.setTop (entryFrame m #[(.ref a1), (.ref a2), (.int (0 : Int32)), (.int (2 : Int32)), .null] 6)) t := fun t k => castTop (ef_w41 m a1 a2 (0 : Int32) (2 : Int32)) k
 have EN9 := EN
 obtain ⟨z, fm, Sz, hz, -⟩ := EN9
 obtain ⟨T1, X1, e1, st1⟩ := initO X0 hx hZ hown (wd17 hw) (wd18 hw) (wd19 hw) e0 (g := (mkF m 1 #[.val (.ref a1), .val (.ref a2), .val (.int (0 : Int32)), .val (.int (2 : Int32)), .val .null, .unset] [(.ref a1)])) rfl (by rw [hml]; rfl) rfl (hb hby d3_1) (by decide) (W := 0) (by show 2 * 0 + _ ≤ _; exact Nat.le_of_eq rfl) (by decide)
 obtain ⟨T2, X2, e2, st2⟩ := getS2 X1 hx hZ hown (host := "") (Or.inl (wd47 hw)) Via.refl e1 Sz (g := (mkF m 27 #[.val (.ref a1), .val (.ref a2), .val (.int (0 : Int32)), .val (.int (2 : Int32)), .val .null, .unset] [])) rfl (hb hby d3_27)
 obtain ⟨_, _, ⟨T3, L3, k3, n3⟩, -, X3, ⟨Lc3, hQ3, l3, y3, z3⟩, st3⟩ := Jvm.LawKit.callS X2 hx (y := own_z16) hown (mvT hZ (wd72 hw)) (mvT hZ (wd73 hw)) (mvT hZ (wd74 hw)) (mvT hZ (wd75 hw)) (by decide) (backOf (W := 0) (rmcz2 l Z a0 hw [] a2 kc c0 c1 h0 n0 Z0 Ac EN hb0 hb1) hZ (wd75 hw) (wd74 hw) (by decide) (by decide)) (g := (mkF m 36 #[.val (.ref a1), .val (.ref a2), .val (.int (0 : Int32)), .val (.int (2 : Int32)), .val .null, .unset] [(.int (2 : Int32)), (.int (0 : Int32)), (.ref a2)])) rfl (by rw [hml]; rfl) (argsL := [(.ref a2), (.int (0 : Int32)), (.int (2 : Int32))]) (rest := []) (lenOf pd_tb1 rfl) rfl (by show 2 * 0 + _ ≤ _; exact Nat.le_of_eq rfl) (hb hby d3_36) (fun _ _ => ⟨rfl, e2, (by decide : 0 + 2 ≤ _), (by decide : 0 + 6 ≤ _)⟩)
 dsimp only [Pt.U, Pt.locs, Pt.cells, Pt.slots] at X3 l3 y3 z3 st3 hQ3
 subst l3 y3 z3
 obtain ⟨b3, kb3, cd3, NN3, vs3, rfl, N3q, E3, V3, hcod3⟩ := hQ3
 have N3 := Fr.app N0 N3q
 have F1_3 := F1.ext E3
 have C1_3 := C1.ext E3
 have E1_3 := E1.ext E3
 have Ac_3 := Ac.ext E3
 have EN_3 := EN.ext E3
 have K3 := (Keep.refl h0 []).ext E3
 have pre4 : ∀ t, Steps p.tables e below (T3.setTop (mkF m 45 #[.val (.ref a1), .val (.ref a2), .val (.int (0 : Int32)), .val (.int (2 : Int32)), .val .null, .val (.ref b3)] [(.int (2 : Int32)), (.ref b3), (.ref a1)])) t → Steps p.tables e below (s₁.setTop (entryFrame m #[(.ref a1), (.ref a2), (.int (0 : Int32)), (.int (2 : Int32)), .null] 6)) t := fun t k => pre0 t (by
  show Steps p.tables e below (s₁.setTop (mkF m 0 #[.val (.ref a1), .val (.ref a2), .val (.int (0 : Int32)), .val (.int (2 : Int32)), .val .null, .unset] [])) _
  refine XS.aloadN X0.here hx rfl (hb hby d3_0) rfl rfl ?_
  refine st1 _ ?_
  refine XS.iloadN X1.here hx rfl (hb hby d3_4) rfl ?_
  refine XS.ifYes X1.here hx rfl (pc0 := 5) (pc' := 27) rfl (hb hby d3_5) rfl ((if0 _ _).trans (feq (by decide : ¬ ((2 : Int32) = (0 : Int32)))).2) (by decide) (by decide) ?_
  refine st2 _ ?_
  refine XS.ifNo X2.here hx rfl (hb hby d3_30) rfl ((if0 _ _).trans (feq hz).1) ?_
  refine XS.aloadN X2.here hx rfl (hb hby d3_33) rfl rfl ?_
  refine XS.iloadN X2.here hx rfl (hb hby d3_34) rfl ?_
  refine XS.iloadN X2.here hx rfl (hb hby d3_35) rfl ?_
  refine st3 _ ?_
  refine XS.astore X3.here hx rfl (hb hby d3_39) rfl rfl (l' := #[.val (.ref a1), .val (.ref a2), .val (.int (0 : Int32)), .val (.int (2 : Int32)), .val .null, .val (.ref b3)]) rfl ?_
  refine XS.aloadN X3.here hx rfl (hb hby d3_41) rfl rfl ?_
  refine XS.aload X3.here hx rfl (hb hby d3_42) rfl rfl ?_
  refine XS.iloadN X3.here hx rfl (hb hby d3_44) rfl ?_
  exact k)
 rcases hcod3 with ⟨rfl, rfl, rfl, hxx⟩ | ⟨rfl, rfl, rfl, hxx⟩
 ·obtain ⟨_, _, ⟨T5, L5, k5, n5⟩, -, X5, ⟨Lc5, hQ5, l5, y5, z5⟩, st5⟩ := Jvm.LawKit.callS X3 hx (y := own_z17) hown (mvT hZ (wd79 hw)) (mvT hZ (wd80 hw)) (mvT hZ (wd74 hw)) (mvT hZ (wd81 hw)) (by decide) (backOf (W := 1) (rmca2_0 l Z a0 hw [] b3 kb3 ([c0, c1].map fun c => Value.int (StrChars.lo8 c)) T3.heap n0 (Nat.le_trans Z0 E3.1) V3) hZ (wd81 hw) (wd74 hw) (by decide) (by decide)) (g := (mkF m 45 #[.val (.ref a1), .val (.ref a2), .val (.int (0 : Int32)), .val (.int (2 : Int32)), .val .null, .val (.ref b3)] [(.int (2 : Int32)), (.ref b3), (.ref a1)])) rfl (by rw [hml]; rfl) (argsL := [(.ref b3), (.int (2 : Int32))]) (rest := [(.ref a1)]) (lenOf pd_ca1_1 rfl) rfl (by show 2 * 0 + _ ≤ _; exact Nat.le_of_eq rfl) (hb hby d3_45) (fun _ _ => ⟨rfl, rfl, (by decide : 2 + 0 ≤ _), (by decide : 6 + 0 ≤ _)⟩)
  dsimp only [Pt.U, Pt.locs, Pt.cells, Pt.slots] at X5 l5 y5 z5 st5 hQ5
  subst l5 y5 z5
  obtain ⟨rfl, N5q, q5⟩ := hQ5
  have N5 := Fr.app N3 N5q
  obtain ⟨T6, h6, X6, e6, W6, st6⟩ := putFN X5 hx hZ hown (wd27 hw) Via.refl q5 C1_3 E1_3 (Or.inr ⟨(wd23 hw), rfl, hnm⟩) (wd7 hw) (ty := .byte) (v' := (.int (0 : Int32))) (by decide) rfl rfl (g := (mkF m 48 #[.val (.ref a1), .val (.ref a2), .val (.int (0 : Int32)), .val (.int (2 : Int32)), .val .null, .val (.ref b3)] [(.int (0 : Int32)), (.ref a1)])) rfl rfl (hb hby d3_48)
  have N6 := Fr.snoc X6 N5 g1
  have F1_6 := F1_3.other W6 (Or.inr (slot_ne (Or.inr (wd22 hw)) (Or.inr (wd23 hw)) (by decide) (t := (.array .byte)) (t' := .byte) (by decide) (by decide)))
  have C1_6 := C1_3.same W6
  have E1_6 := E1_3.wr W6
  have Ac_6 := Ac_3.other W6 (Ne.symm (E1_3.neArv Ac_3 (wd7 hw)))
  have EN_6 := EN_3.wr W6 trivial
  have V3_6 := V3.other W6 (Ne.symm (E1_3.neArv V3 (wd7 hw)))
  obtain ⟨T7, h7, X7, e7, W7, st7⟩ := putF X6 hx hZ hown (host := "") (Or.inl (wd26 hw)) Via.refl e6 F1_6 E1_6 (Or.inr ⟨(wd22 hw), rfl, hnm⟩) (wd7 hw) (ty := (.array .byte)) (by decide) rfl rfl (g := (mkF m 54 #[.val (.ref a1), .val (.ref a2), .val (.int (0 : Int32)), .val (.int (2 : Int32)), .val .null, .val (.ref b3)] [(.ref b3), (.ref a1)])) rfl rfl (hb hby d3_54)
  have N7 := Fr.snoc X7 N6 g1
  have F1_7 := F1_6.same W7
  have C1_7 := C1_6.other W7 (Or.inr (slot_ne (Or.inr (wd23 hw)) (Or.inr (wd22 hw)) (by decide) (t := .byte) (t' := (.array .byte)) (by decide) (by decide)))
  have E1_7 := E1_6.wr W7
  have Ac_7 := Ac_6.other W7 (Ne.symm (E1_6.neArv Ac_6 (wd7 hw)))
  have EN_7 := EN_6.wr W7 trivial
  have V3_7 := V3_6.other W7 (Ne.symm (E1_6.neArv V3_6 (wd7 hw)))
  have pre8 : ∀ t, Steps p.tables e below (T7.setTop (mkF m 57 #[.val (.ref a1), .val (.ref a2), .val (.int (0 : Int32)), .val (.int (2 : Int32)), .val .null, .val (.ref b3)] [])) t → Steps p.tables e below (s₁.setTop (entryFrame m #[(.ref a1), (.ref a2), (.int (0 : Int32)), (.int (2 : Int32)), .null] 6)) t := fun t k => pre4 t (by
   show Steps p.tables e below (T3.setTop (mkF m 45 #[.val (.ref a1), .val (.ref a2), .val (.int (0 : Int32)), .val (.int (2 : Int32)), .val .null, .val (.ref b3)] [(.int (2 : Int32)), (.ref b3), (.ref a1)])) _
   refine st5 _ ?_
   refine st6 _ ?_
   refine XS.aloadN X6.here hx rfl (hb hby d3_51) rfl rfl ?_
   refine XS.aload X6.here hx rfl (hb hby d3_52) rfl rfl ?_
   refine st7 _ ?_
   exact k)
  obtain ⟨fs9, hr9, hrun9, hended9, hW9, hsame9⟩ := X7.leave (v := none) (fun _ => rfl)
  refine ⟨_, _, pre8 _ ?_, hrun9, hended9, _, _, rfl, ?_, ⟨_, rfl⟩, hW9, hsame9.mono (by decide) (by decide)⟩
  ·show Steps p.tables e below (T7.setTop (mkF m 57 #[.val (.ref a1), .val (.ref a2), .val (.int (0 : Int32)), .val (.int (2 : Int32)), .val .null, .val (.ref b3)] [])) _
   exact X7.returnOut hx Bd.returns (hb hby d3_57) hr9
  ·show Qw42 Z a1 a2 kc c0 c1 h0 n0 _ T7.heap _
   rw [e7]
   exact ⟨rfl, N7, (((Keep.refl h0 [a1]).ext E3).wr W6 (Or.inl (List.mem_singleton.mpr rfl))).wr W7 (Or.inl (List.mem_singleton.mpr rfl)), 0, b3, kb3, _, _, E1_7, F1_7, C1_7, V3_7, Or.inl ⟨rfl, rfl, rfl, hxx⟩⟩
 ·obtain ⟨_, _, ⟨T10, L10, k10, n10⟩, -, X10, ⟨Lc10, hQ10, l10, y10, z10⟩, st10⟩ := Jvm.LawKit.callS X3 hx (y := own_z17) hown (mvT hZ (wd79 hw)) (mvT hZ (wd80 hw)) (mvT hZ (wd74 hw)) (mvT hZ (wd81 hw)) (by decide) (backOf (W := 1) (rmca2_1 l Z a0 hw [] b3 kb3 (StrChars.Road.wideBytes [c0, c1]) T3.heap n0 (Nat.le_trans Z0 E3.1) V3) hZ (wd81 hw) (wd74 hw) (by decide) (by decide)) (g := (mkF m 45 #[.val (.ref a1), .val (.ref a2), .val (.int (0 : Int32)), .val (.int (2 : Int32)), .val .null, .val (.ref b3)] [(.int (2 : Int32)), (.ref b3), (.ref a1)])) rfl (by rw [hml]; rfl) (argsL := [(.ref b3), (.int (2 : Int32))]) (rest := [(.ref a1)]) (lenOf pd_ca1_1 rfl) rfl (by show 2 * 0 + _ ≤ _; exact Nat.le_of_eq rfl) (hb hby d3_45) (fun _ _ => ⟨rfl, rfl, (by decide : 2 + 0 ≤ _), (by decide : 6 + 0 ≤ _)⟩)
  dsimp only [Pt.U, Pt.locs, Pt.cells, Pt.slots] at X10 l10 y10 z10 st10 hQ10
  subst l10 y10 z10
  obtain ⟨rfl, N10q, q10⟩ := hQ10
  have N10 := Fr.app N3 N10q
  obtain ⟨T11, h11, X11, e11, W11, st11⟩ := putFN X10 hx hZ hown (wd27 hw) Via.refl q10 C1_3 E1_3 (Or.inr ⟨(wd23 hw), rfl, hnm⟩) (wd7 hw) (ty := .byte) (v' := (.int (1 : Int32))) (by decide) rfl rfl (g := (mkF m 48 #[.val (.ref a1), .val (.ref a2), .val (.int (0 : Int32)), .val (.int (2 : Int32)), .val .null, .val (.ref b3)] [(.int (1 : Int32)), (.ref a1)])) rfl rfl (hb hby d3_48)
  have N11 := Fr.snoc X11 N10 g1
  have F1_11 := F1_3.other W11 (Or.inr (slot_ne (Or.inr (wd22 hw)) (Or.inr (wd23 hw)) (by decide) (t := (.array .byte)) (t' := .byte) (by decide) (by decide)))
  have C1_11 := C1_3.same W11
  have E1_11 := E1_3.wr W11
  have Ac_11 := Ac_3.other W11 (Ne.symm (E1_3.neArv Ac_3 (wd7 hw)))
  have EN_11 := EN_3.wr W11 trivial
  have V3_11 := V3.other W11 (Ne.symm (E1_3.neArv V3 (wd7 hw)))
  obtain ⟨T12, h12, X12, e12, W12, st12⟩ := putF X11 hx hZ hown (host := "") (Or.inl (wd26 hw)) Via.refl e11 F1_11 E1_11 (Or.inr ⟨(wd22 hw), rfl, hnm⟩) (wd7 hw) (ty := (.array .byte)) (by decide) rfl rfl (g := (mkF m 54 #[.val (.ref a1), .val (.ref a2), .val (.int (0 : Int32)), .val (.int (2 : Int32)), .val .null, .val (.ref b3)] [(.ref b3), (.ref a1)])) rfl rfl (hb hby d3_54)
  have N12 := Fr.snoc X12 N11 g1
  have F1_12 := F1_11.same W12
  have C1_12 := C1_11.other W12 (Or.inr (slot_ne (Or.inr (wd23 hw)) (Or.inr (wd22 hw)) (by decide) (t := .byte) (t' := (.array .byte)) (by decide) (by decide)))
  have E1_12 := E1_11.wr W12
  have Ac_12 := Ac_11.other W12 (Ne.symm (E1_11.neArv Ac_11 (wd7 hw)))
  have EN_12 := EN_11.wr W12 trivial
  have V3_12 := V3_11.other W12 (Ne.symm (E1_11.neArv V3_11 (wd7 hw)))
  have pre13 : ∀ t, Steps p.tables e below (T12.setTop (mkF m 57 #[.val (.ref a1), .val (.ref a2), .val (.int (0 : Int32)), .val (.int (2 : Int32)), .val .null, .val (.ref b3)] [])) t → Steps p.tables e below (s₁.setTop (entryFrame m #[(.ref a1), (.ref a2), (.int (0 : Int32)), (.int (2 : Int32)), .null] 6)) t := fun t k => pre4 t (by
   show Steps p.tables e below (T3.setTop (mkF m 45 #[.val (.ref a1), .val (.ref a2), .val (.int (0 : Int32)), .val (.int (2 : Int32)), .val .null, .val (.ref b3)] [(.int (2 : Int32)), (.ref b3), (.ref a1)])) _
   refine st10 _ ?_
   refine st11 _ ?_
   refine XS.aloadN X11.here hx rfl (hb hby d3_51) rfl rfl ?_
   refine XS.aload X11.here hx rfl (hb hby d3_52) rfl rfl ?_
   refine st12 _ ?_
   exact k)
  obtain ⟨fs14, hr14, hrun14, hended14, hW14, hsame14⟩ := X12.leave (v := none) (fun _ => rfl)
  refine ⟨_, _, pre13 _ ?_, hrun14, hended14, _, _, rfl, ?_, ⟨_, rfl⟩, hW14, hsame14.mono (by decide) (by decide)⟩
  ·show Steps p.tables e below (T12.setTop (mkF m 57 #[.val (.ref a1), .val (.ref a2), .val (.int (0 : Int32)), .val (.int (2 : Int32)), .val .null, .val (.ref b3)] [])) _
   exact X12.returnOut hx Bd.returns (hb hby d3_57) hr14
  ·show Qw42 Z a1 a2 kc c0 c1 h0 n0 _ T12.heap _
   rw [e12]
   exact ⟨rfl, N12, (((Keep.refl h0 [a1]).ext E3).wr W11 (Or.inl (List.mem_singleton.mpr rfl))).wr W12 (Or.inl (List.mem_singleton.mpr rfl)), 1, b3, kb3, _, _, E1_12, F1_12, C1_12, V3_12, Or.inr ⟨rfl, rfl, rfl, hxx⟩⟩


def Qw12 (Z : State) (a1 a2 : Addr) (kc : ClassId) (c0 c1 : Int32) (h0 : Heap) (n0 : Nat) (v : Option Value) (h : Heap) (L : List Loc) : Prop := v = none ∧ Fr n0 L ∧ Keep h0 h [a1] ∧ ∃ cd, own_s Z h a1 [c0, c1] cd
set_option maxRecDepth 65536 in
set_option maxHeartbeats 40000000 in
theorem rmw12 (l : Launch) (Z : State) (a0 : Array Value) (hw : ∀ d ∈ tables_1, d.before a0 Z = true) (ws : List Jvm.Cond) (a1 a2 : Addr) (kc : ClassId) (c0 c1 : Int32) (h0 : Heap) (n0 : Nat) (Z0 : n0 ≤ h0.size) (F1 : Fld Z h0 a1 "java/lang/String" "value" "[B" .null) (C1 : Fld Z h0 a1 "java/lang/String" "coder" "B" (.int 0)) (E1 : Exa Z h0 a1 "java/lang/String") (g1 : n0 ≤ a1) (Ac : Arv Z h0 a2 kc .char (2 : Int32) ([c0, c1].map Value.int) (.int 0)) (EN : own_env Z h0) (hb0 : own_b c0) (hb1 : own_b c1) :
  own_M l Z own_z19 jdk_42_method_3_code 2 none ({ frames := 5, cells := 2, slots := 6, locals := 81 } : Room) ws #[(.ref a1), (.ref a2)] h0 (Qw12 Z a1 a2 kc c0 c1 h0 n0) := by
 refine MetFree.of_bodySF (plainFor_of_name pn_k2) hisR ?_
 intro p e s m args below meth c s₁ Bd hml0 hP hK
 obtain ⟨rfl, hZ, hh⟩ := hP
 have hx := Bd.exec
 have hby := Bd.bytes
 have hml : c.maxLocals = 2 := hml0
 have hown : s.vm.findClass "java/lang/String" = some m.cls := findClass_of_methodNamed Bd.named
 have hnm := (name_of_methodNamed Bd.named Bd.method).1
 have X0 : Stand p l e ({ frames := 5, cells := 2, slots := 6, locals := 81 } : Room) s m #[(.ref a1), (.ref a2)] below meth c s₁ [] 0 0 := Stand.of_body Bd
 have e0 : s₁.heap = h0 := by rw [← hh, Bd.state]; rfl
 have N0 := Fr.nil n0
 have pre0 : ∀ t, Steps p.tables e below (s₁.setTop (mkF m 0 #[.val (.ref a1), .val (.ref a2)] [])) t → Steps p.tables e below (s₁.setTop (entryFrame m #[(.ref a1), (.ref a2)] 2)) t := fun t k => castTop (ef_w11 m a1 a2) k
 have Vc1 := Ac
 obtain ⟨cl1, Ar1, qq1, sz1, nn1, Ha1, Gf1⟩ := Vc1
 obtain ⟨_, _, ⟨T2, L2, k2, n2⟩, -, X2, ⟨Lc2, hQ2, l2, y2, z2⟩, st2⟩ := X0.specialBack hx (y := own_z18) rfl hown (mvT hZ (wd13 hw)) (mvT hZ (wd14 hw)) (mvT hZ (wd16 hw)) (by decide) (backOf (W := 0) (rmw42 l Z a0 hw [] a1 a2 kc c0 c1 h0 n0 Z0 F1 C1 E1 g1 Ac EN hb0 hb1) hZ (wd16 hw) (wd8 hw) (by decide) (by decide)) (g := (mkF m 6 #[.val (.ref a1), .val (.ref a2)] [.null, (.int (2 : Int32)), (.int (0 : Int32)), (.ref a2), (.ref a1)])) rfl (by rw [hml]; rfl) (Steps.refl _) (a := a1) (argsL := [(.ref a2), (.int (0 : Int32)), (.int (2 : Int32)), .null]) (rest := []) (lenOf pd_w41 rfl) rfl (by show 2 * 0 + _ ≤ _; exact Nat.le_of_eq rfl) (hb hby d2_6) (fun _ _ => ⟨rfl, e0, (by decide : 0 + 2 ≤ _), (by decide : 0 + 6 ≤ _)⟩)
 dsimp only [Pt.U, Pt.locs, Pt.cells, Pt.slots] at X2 l2 y2 z2 st2 hQ2
 subst l2 y2 z2
 obtain ⟨rfl, N2q, Kp2, S2⟩ := hQ2
 have N2 := Fr.app N0 N2q
 have pre3 : ∀ t, Steps p.tables e below (T2.setTop (mkF m 9 #[.val (.ref a1), .val (.ref a2)] [])) t → Steps p.tables e below (s₁.setTop (entryFrame m #[(.ref a1), (.ref a2)] 2)) t := fun t k => pre0 t (by
  show Steps p.tables e below (s₁.setTop (mkF m 0 #[.val (.ref a1), .val (.ref a2)] [])) _
  refine XS.aloadN X0.here hx rfl (hb hby d2_0) rfl rfl ?_
  refine XS.aloadN X0.here hx rfl (hb hby d2_1) rfl rfl ?_
  refine XS.iconst X0.here hx rfl (hb hby d2_2) ?_
  refine XS.aloadN X0.here hx rfl (hb hby d2_3) rfl rfl ?_
  refine X0.arraylength hx (by rw [e0]; exact Ar1.1) (State.isArrayOf_alike hZ.alike Ar1.2.1) (g := (mkF m 4 #[.val (.ref a1), .val (.ref a2)] [(.ref a2), (.int (0 : Int32)), (.ref a2), (.ref a1)])) rfl rfl (hb hby d2_4) _ ?_
  rw [len_of sz1 nn1]
  refine XS.aconstNull X0.here hx rfl (hb hby d2_5) ?_
  refine st2.trans ?_
  exact k)
 obtain ⟨fs4, hr4, hrun4, hended4, hW4, hsame4⟩ := X2.leave (v := none) (fun _ => rfl)
 refine ⟨_, _, pre3 _ ?_, hrun4, hended4, _, _, rfl, ?_, ⟨_, rfl⟩, hW4, hsame4.mono (by decide) (by decide)⟩
 ·show Steps p.tables e below (T2.setTop (mkF m 9 #[.val (.ref a1), .val (.ref a2)] [])) _
  exact X2.returnOut hx Bd.returns (hb hby d2_9) hr4
 ·show Qw12 Z a1 a2 kc c0 c1 h0 n0 _ T2.heap _
  exact ⟨rfl, N2, Kp2, S2⟩


def Qw43 (Z : State) (a1 a2 : Addr) (kc : ClassId) (c0 c1 c2 : Int32) (h0 : Heap) (n0 : Nat) (v : Option Value) (h : Heap) (L : List Loc) : Prop := v = none ∧ Fr n0 L ∧ Keep h0 h [a1] ∧ ∃ cd, own_s Z h a1 [c0, c1, c2] cd
set_option maxRecDepth 65536 in
set_option maxHeartbeats 40000000 in
theorem rmw43 (l : Launch) (Z : State) (a0 : Array Value) (hw : ∀ d ∈ tables_1, d.before a0 Z = true) (ws : List Jvm.Cond) (a1 a2 : Addr) (kc : ClassId) (c0 c1 c2 : Int32) (h0 : Heap) (n0 : Nat) (Z0 : n0 ≤ h0.size) (F1 : Fld Z h0 a1 "java/lang/String" "value" "[B" .null) (C1 : Fld Z h0 a1 "java/lang/String" "coder" "B" (.int 0)) (E1 : Exa Z h0 a1 "java/lang/String") (g1 : n0 ≤ a1) (Ac : Arv Z h0 a2 kc .char (3 : Int32) ([c0, c1, c2].map Value.int) (.int 0)) (EN : own_env Z h0) (hb0 : own_b c0) (hb1 : own_b c1) (hb2 : own_b c2) :
  own_M l Z own_z18 jdk_42_method_149_code 6 none ({ frames := 4, cells := 2, slots := 9, locals := 64 } : Room) ws #[(.ref a1), (.ref a2), (.int (0 : Int32)), (.int (3 : Int32)), .null] h0 (Qw43 Z a1 a2 kc c0 c1 c2 h0 n0) := by
 refine MetFree.of_bodySF (plainFor_of_name pn_k2) hisR ?_
 intro p e s m args below meth c s₁ Bd hml0 hP hK
 obtain ⟨rfl, hZ, hh⟩ := hP
 have hx := Bd.exec
 have hby := Bd.bytes
 have hml : c.maxLocals = 6 := hml0
 have hown : s.vm.findClass "java/lang/String" = some m.cls := findClass_of_methodNamed Bd.named
 have hnm := (name_of_methodNamed Bd.named Bd.method).1
 have X0 : Stand p l e ({ frames := 4, cells := 2, slots := 9, locals := 64 } : Room) s m #[(.ref a1), (.ref a2), (.int (0 : Int32)), (.int (3 : Int32)), .null] below meth c s₁ [] 0 0 := Stand.of_body Bd
 have e0 : s₁.heap = h0 := by rw [← hh, Bd.state]; rfl
 have N0 := Fr.nil n0
 have pre0 : ∀ t, Steps p.tables e below (s₁.setTop (mkF m 0 #[.val (.ref a1), .val (.ref a2), .val (.int (0 : Int32)), .val (.int (3 : Int32)), .val .null, .unset] [])) t → Steps p.tables e below (s₁.setTop (entryFrame m #[(.ref a1), (.ref a2), (.int (0 : Int32)), (.int (3 : Int32)), .null] 6)) t := fun t k => castTop (ef_w41 m a1 a2 (0 : Int32) (3 : Int32)) k
 have EN9 := EN
 obtain ⟨z, fm, Sz, hz, -⟩ := EN9
 obtain ⟨T1, X1, e1, st1⟩ := initO X0 hx hZ hown (wd17 hw) (wd18 hw) (wd19 hw) e0 (g := (mkF m 1 #[.val (.ref a1), .val (.ref a2), .val (.int (0 : Int32)), .val (.int (3 : Int32)), .val .null, .unset] [(.ref a1)])) rfl (by rw [hml]; rfl) rfl (hb hby d3_1) (by decide) (W := 0) (by show 2 * 0 + _ ≤ _; exact Nat.le_of_eq rfl) (by decide)
 obtain ⟨T2, X2, e2, st2⟩ := getS2 X1 hx hZ hown (host := "") (Or.inl (wd47 hw)) Via.refl e1 Sz (g := (mkF m 27 #[.val (.ref a1), .val (.ref a2), .val (.int (0 : Int32)), .val (.int (3 : Int32)), .val .null, .unset] [])) rfl (hb hby d3_27)
 obtain ⟨_, _, ⟨T3, L3, k3, n3⟩, -, X3, ⟨Lc3, hQ3, l3, y3, z3⟩, st3⟩ := Jvm.LawKit.callS X2 hx (y := own_z16) hown (mvT hZ (wd72 hw)) (mvT hZ (wd73 hw)) (mvT hZ (wd74 hw)) (mvT hZ (wd75 hw)) (by decide) (backOf (W := 0) (rmcz3 l Z a0 hw [] a2 kc c0 c1 c2 h0 n0 Z0 Ac EN hb0 hb1 hb2) hZ (wd75 hw) (wd74 hw) (by decide) (by decide)) (g := (mkF m 36 #[.val (.ref a1), .val (.ref a2), .val (.int (0 : Int32)), .val (.int (3 : Int32)), .val .null, .unset] [(.int (3 : Int32)), (.int (0 : Int32)), (.ref a2)])) rfl (by rw [hml]; rfl) (argsL := [(.ref a2), (.int (0 : Int32)), (.int (3 : Int32))]) (rest := []) (lenOf pd_tb1 rfl) rfl (by show 2 * 0 + _ ≤ _; exact Nat.le_of_eq rfl) (hb hby d3_36) (fun _ _ => ⟨rfl, e2, (by decide : 0 + 2 ≤ _), (by decide : 0 + 9 ≤ _)⟩)
 dsimp only [Pt.U, Pt.locs, Pt.cells, Pt.slots] at X3 l3 y3 z3 st3 hQ3
 subst l3 y3 z3
 obtain ⟨b3, kb3, cd3, NN3, vs3, rfl, N3q, E3, V3, hcod3⟩ := hQ3
 have N3 := Fr.app N0 N3q
 have F1_3 := F1.ext E3
 have C1_3 := C1.ext E3
 have E1_3 := E1.ext E3
 have Ac_3 := Ac.ext E3
 have EN_3 := EN.ext E3
 have K3 := (Keep.refl h0 []).ext E3
 have pre4 : ∀ t, Steps p.tables e below (T3.setTop (mkF m 45 #[.val (.ref a1), .val (.ref a2), .val (.int (0 : Int32)), .val (.int (3 : Int32)), .val .null, .val (.ref b3)] [(.int (3 : Int32)), (.ref b3), (.ref a1)])) t → Steps p.tables e below (s₁.setTop (entryFrame m #[(.ref a1), (.ref a2), (.int (0 : Int32)), (.int (3 : Int32)), .null] 6)) t := fun t k => pre0 t (by
  show Steps p.tables e below (s₁.setTop (mkF m 0 #[.val (.ref a1), .val (.ref a2), .val (.int (0 : Int32)), .val (.int (3 : Int32)), .val .null, .unset] [])) _
  refine XS.aloadN X0.here hx rfl (hb hby d3_0) rfl rfl ?_
  refine st1 _ ?_
  refine XS.iloadN X1.here hx rfl (hb hby d3_4) rfl ?_
  refine XS.ifYes X1.here hx rfl (pc0 := 5) (pc' := 27) rfl (hb hby d3_5) rfl ((if0 _ _).trans (feq (by decide : ¬ ((3 : Int32) = (0 : Int32)))).2) (by decide) (by decide) ?_
  refine st2 _ ?_
  refine XS.ifNo X2.here hx rfl (hb hby d3_30) rfl ((if0 _ _).trans (feq hz).1) ?_
  refine XS.aloadN X2.here hx rfl (hb hby d3_33) rfl rfl ?_
  refine XS.iloadN X2.here hx rfl (hb hby d3_34) rfl ?_
  refine XS.iloadN X2.here hx rfl (hb hby d3_35) rfl ?_
  refine st3 _ ?_
  refine XS.astore X3.here hx rfl (hb hby d3_39) rfl rfl (l' := #[.val (.ref a1), .val (.ref a2), .val (.int (0 : Int32)), .val (.int (3 : Int32)), .val .null, .val (.ref b3)]) rfl ?_
  refine XS.aloadN X3.here hx rfl (hb hby d3_41) rfl rfl ?_
  refine XS.aload X3.here hx rfl (hb hby d3_42) rfl rfl ?_
  refine XS.iloadN X3.here hx rfl (hb hby d3_44) rfl ?_
  exact k)
 rcases hcod3 with ⟨rfl, rfl, rfl, hxx⟩ | ⟨rfl, rfl, rfl, hxx⟩
 ·obtain ⟨_, _, ⟨T5, L5, k5, n5⟩, -, X5, ⟨Lc5, hQ5, l5, y5, z5⟩, st5⟩ := Jvm.LawKit.callS X3 hx (y := own_z17) hown (mvT hZ (wd79 hw)) (mvT hZ (wd80 hw)) (mvT hZ (wd74 hw)) (mvT hZ (wd81 hw)) (by decide) (backOf (W := 1) (rmca3_0 l Z a0 hw [] b3 kb3 ([c0, c1, c2].map fun c => Value.int (StrChars.lo8 c)) T3.heap n0 (Nat.le_trans Z0 E3.1) V3) hZ (wd81 hw) (wd74 hw) (by decide) (by decide)) (g := (mkF m 45 #[.val (.ref a1), .val (.ref a2), .val (.int (0 : Int32)), .val (.int (3 : Int32)), .val .null, .val (.ref b3)] [(.int (3 : Int32)), (.ref b3), (.ref a1)])) rfl (by rw [hml]; rfl) (argsL := [(.ref b3), (.int (3 : Int32))]) (rest := [(.ref a1)]) (lenOf pd_ca1_1 rfl) rfl (by show 2 * 0 + _ ≤ _; exact Nat.le_of_eq rfl) (hb hby d3_45) (fun _ _ => ⟨rfl, rfl, (by decide : 2 + 0 ≤ _), (by decide : 9 + 0 ≤ _)⟩)
  dsimp only [Pt.U, Pt.locs, Pt.cells, Pt.slots] at X5 l5 y5 z5 st5 hQ5
  subst l5 y5 z5
  obtain ⟨rfl, N5q, q5⟩ := hQ5
  have N5 := Fr.app N3 N5q
  obtain ⟨T6, h6, X6, e6, W6, st6⟩ := putFN X5 hx hZ hown (wd27 hw) Via.refl q5 C1_3 E1_3 (Or.inr ⟨(wd23 hw), rfl, hnm⟩) (wd7 hw) (ty := .byte) (v' := (.int (0 : Int32))) (by decide) rfl rfl (g := (mkF m 48 #[.val (.ref a1), .val (.ref a2), .val (.int (0 : Int32)), .val (.int (3 : Int32)), .val .null, .val (.ref b3)] [(.int (0 : Int32)), (.ref a1)])) rfl rfl (hb hby d3_48)
  have N6 := Fr.snoc X6 N5 g1
  have F1_6 := F1_3.other W6 (Or.inr (slot_ne (Or.inr (wd22 hw)) (Or.inr (wd23 hw)) (by decide) (t := (.array .byte)) (t' := .byte) (by decide) (by decide)))
  have C1_6 := C1_3.same W6
  have E1_6 := E1_3.wr W6
  have Ac_6 := Ac_3.other W6 (Ne.symm (E1_3.neArv Ac_3 (wd7 hw)))
  have EN_6 := EN_3.wr W6 trivial
  have V3_6 := V3.other W6 (Ne.symm (E1_3.neArv V3 (wd7 hw)))
  obtain ⟨T7, h7, X7, e7, W7, st7⟩ := putF X6 hx hZ hown (host := "") (Or.inl (wd26 hw)) Via.refl e6 F1_6 E1_6 (Or.inr ⟨(wd22 hw), rfl, hnm⟩) (wd7 hw) (ty := (.array .byte)) (by decide) rfl rfl (g := (mkF m 54 #[.val (.ref a1), .val (.ref a2), .val (.int (0 : Int32)), .val (.int (3 : Int32)), .val .null, .val (.ref b3)] [(.ref b3), (.ref a1)])) rfl rfl (hb hby d3_54)
  have N7 := Fr.snoc X7 N6 g1
  have F1_7 := F1_6.same W7
  have C1_7 := C1_6.other W7 (Or.inr (slot_ne (Or.inr (wd23 hw)) (Or.inr (wd22 hw)) (by decide) (t := .byte) (t' := (.array .byte)) (by decide) (by decide)))
  have E1_7 := E1_6.wr W7
  have Ac_7 := Ac_6.other W7 (Ne.symm (E1_6.neArv Ac_6 (wd7 hw)))
  have EN_7 := EN_6.wr W7 trivial
  have V3_7 := V3_6.other W7 (Ne.symm (E1_6.neArv V3_6 (wd7 hw)))
  have pre8 : ∀ t, Steps p.tables e below (T7.setTop (mkF m 57 #[.val (.ref a1), .val (.ref a2), .val (.int (0 : Int32)), .val (.int (3 : Int32)), .val .null, .val (.ref b3)] [])) t → Steps p.tables e below (s₁.setTop (entryFrame m #[(.ref a1), (.ref a2), (.int (0 : Int32)), (.int (3 : Int32)), .null] 6)) t := fun t k => pre4 t (by
   show Steps p.tables e below (T3.setTop (mkF m 45 #[.val (.ref a1), .val (.ref a2), .val (.int (0 : Int32)), .val (.int (3 : Int32)), .val .null, .val (.ref b3)] [(.int (3 : Int32)), (.ref b3), (.ref a1)])) _
   refine st5 _ ?_
   refine st6 _ ?_
   refine XS.aloadN X6.here hx rfl (hb hby d3_51) rfl rfl ?_
   refine XS.aload X6.here hx rfl (hb hby d3_52) rfl rfl ?_
   refine st7 _ ?_
   exact k)
  obtain ⟨fs9, hr9, hrun9, hended9, hW9, hsame9⟩ := X7.leave (v := none) (fun _ => rfl)
  refine ⟨_, _, pre8 _ ?_, hrun9, hended9, _, _, rfl, ?_, ⟨_, rfl⟩, hW9, hsame9.mono (by decide) (by decide)⟩
  ·show Steps p.tables e below (T7.setTop (mkF m 57 #[.val (.ref a1), .val (.ref a2), .val (.int (0 : Int32)), .val (.int (3 : Int32)), .val .null, .val (.ref b3)] [])) _
   exact X7.returnOut hx Bd.returns (hb hby d3_57) hr9
  ·show Qw43 Z a1 a2 kc c0 c1 c2 h0 n0 _ T7.heap _
   rw [e7]
   exact ⟨rfl, N7, (((Keep.refl h0 [a1]).ext E3).wr W6 (Or.inl (List.mem_singleton.mpr rfl))).wr W7 (Or.inl (List.mem_singleton.mpr rfl)), 0, b3, kb3, _, _, E1_7, F1_7, C1_7, V3_7, Or.inl ⟨rfl, rfl, rfl, hxx⟩⟩
 ·obtain ⟨_, _, ⟨T10, L10, k10, n10⟩, -, X10, ⟨Lc10, hQ10, l10, y10, z10⟩, st10⟩ := Jvm.LawKit.callS X3 hx (y := own_z17) hown (mvT hZ (wd79 hw)) (mvT hZ (wd80 hw)) (mvT hZ (wd74 hw)) (mvT hZ (wd81 hw)) (by decide) (backOf (W := 1) (rmca3_1 l Z a0 hw [] b3 kb3 (StrChars.Road.wideBytes [c0, c1, c2]) T3.heap n0 (Nat.le_trans Z0 E3.1) V3) hZ (wd81 hw) (wd74 hw) (by decide) (by decide)) (g := (mkF m 45 #[.val (.ref a1), .val (.ref a2), .val (.int (0 : Int32)), .val (.int (3 : Int32)), .val .null, .val (.ref b3)] [(.int (3 : Int32)), (.ref b3), (.ref a1)])) rfl (by rw [hml]; rfl) (argsL := [(.ref b3), (.int (3 : Int32))]) (rest := [(.ref a1)]) (lenOf pd_ca1_1 rfl) rfl (by show 2 * 0 + _ ≤ _; exact Nat.le_of_eq rfl) (hb hby d3_45) (fun _ _ => ⟨rfl, rfl, (by decide : 2 + 0 ≤ _), (by decide : 9 + 0 ≤ _)⟩)
  dsimp only [Pt.U, Pt.locs, Pt.cells, Pt.slots] at X10 l10 y10 z10 st10 hQ10
  subst l10 y10 z10
  obtain ⟨rfl, N10q, q10⟩ := hQ10
  have N10 := Fr.app N3 N10q
  obtain ⟨T11, h11, X11, e11, W11, st11⟩ := putFN X10 hx hZ hown (wd27 hw) Via.refl q10 C1_3 E1_3 (Or.inr ⟨(wd23 hw), rfl, hnm⟩) (wd7 hw) (ty := .byte) (v' := (.int (1 : Int32))) (by decide) rfl rfl (g := (mkF m 48 #[.val (.ref a1), .val (.ref a2), .val (.int (0 : Int32)), .val (.int (3 : Int32)), .val .null, .val (.ref b3)] [(.int (1 : Int32)), (.ref a1)])) rfl rfl (hb hby d3_48)
  have N11 := Fr.snoc X11 N10 g1
  have F1_11 := F1_3.other W11 (Or.inr (slot_ne (Or.inr (wd22 hw)) (Or.inr (wd23 hw)) (by decide) (t := (.array .byte)) (t' := .byte) (by decide) (by decide)))
  have C1_11 := C1_3.same W11
  have E1_11 := E1_3.wr W11
  have Ac_11 := Ac_3.other W11 (Ne.symm (E1_3.neArv Ac_3 (wd7 hw)))
  have EN_11 := EN_3.wr W11 trivial
  have V3_11 := V3.other W11 (Ne.symm (E1_3.neArv V3 (wd7 hw)))
  obtain ⟨T12, h12, X12, e12, W12, st12⟩ := putF X11 hx hZ hown (host := "") (Or.inl (wd26 hw)) Via.refl e11 F1_11 E1_11 (Or.inr ⟨(wd22 hw), rfl, hnm⟩) (wd7 hw) (ty := (.array .byte)) (by decide) rfl rfl (g := (mkF m 54 #[.val (.ref a1), .val (.ref a2), .val (.int (0 : Int32)), .val (.int (3 : Int32)), .val .null, .val (.ref b3)] [(.ref b3), (.ref a1)])) rfl rfl (hb hby d3_54)
  have N12 := Fr.snoc X12 N11 g1
  have F1_12 := F1_11.same W12
  have C1_12 := C1_11.other W12 (Or.inr (slot_ne (Or.inr (wd23 hw)) (Or.inr (wd22 hw)) (by decide) (t := .byte) (t' := (.array .byte)) (by decide) (by decide)))
  have E1_12 := E1_11.wr W12
  have Ac_12 := Ac_11.other W12 (Ne.symm (E1_11.neArv Ac_11 (wd7 hw)))
  have EN_12 := EN_11.wr W12 trivial
  have V3_12 := V3_11.other W12 (Ne.symm (E1_11.neArv V3_11 (wd7 hw)))
  have pre13 : ∀ t, Steps p.tables e below (T12.setTop (mkF m 57 #[.val (.ref a1), .val (.ref a2), .val (.int (0 : Int32)), .val (.int (3 : Int32)), .val .null, .val (.ref b3)] [])) t → Steps p.tables e below (s₁.setTop (entryFrame m #[(.ref a1), (.ref a2), (.int (0 : Int32)), (.int (3 : Int32)), .null] 6)) t := fun t k => pre4 t (by
   show Steps p.tables e below (T3.setTop (mkF m 45 #[.val (.ref a1), .val (.ref a2), .val (.int (0 : Int32)), .val (.int (3 : Int32)), .val .null, .val (.ref b3)] [(.int (3 : Int32)), (.ref b3), (.ref a1)])) _
   refine st10 _ ?_
   refine st11 _ ?_
   refine XS.aloadN X11.here hx rfl (hb hby d3_51) rfl rfl ?_
   refine XS.aload X11.here hx rfl (hb hby d3_52) rfl rfl ?_
   refine st12 _ ?_
   exact k)
  obtain ⟨fs14, hr14, hrun14, hended14, hW14, hsame14⟩ := X12.leave (v := none) (fun _ => rfl)
  refine ⟨_, _, pre13 _ ?_, hrun14, hended14, _, _, rfl, ?_, ⟨_, rfl⟩, hW14, hsame14.mono (by decide) (by decide)⟩
  ·show Steps p.tables e below (T12.setTop (mkF m 57 #[.val (.ref a1), .val (.ref a2), .val (.int (0 : Int32)), .val (.int (3 : Int32)), .val .null, .val (.ref b3)] [])) _
   exact X12.returnOut hx Bd.returns (hb hby d3_57) hr14
  ·show Qw43 Z a1 a2 kc c0 c1 c2 h0 n0 _ T12.heap _
   rw [e12]
   exact ⟨rfl, N12, (((Keep.refl h0 [a1]).ext E3).wr W11 (Or.inl (List.mem_singleton.mpr rfl))).wr W12 (Or.inl (List.mem_singleton.mpr rfl)), 1, b3, kb3, _, _, E1_12, F1_12, C1_12, V3_12, Or.inr ⟨rfl, rfl, rfl, hxx⟩⟩


def Qw13 (Z : State) (a1 a2 : Addr) (kc : ClassId) (c0 c1 c2 : Int32) (h0 : Heap) (n0 : Nat) (v : Option Value) (h : Heap) (L : List Loc) : Prop := v = none ∧ Fr n0 L ∧ Keep h0 h [a1] ∧ ∃ cd, own_s Z h a1 [c0, c1, c2] cd
set_option maxRecDepth 65536 in
set_option maxHeartbeats 40000000 in
theorem rmw13 (l : Launch) (Z : State) (a0 : Array Value) (hw : ∀ d ∈ tables_1, d.before a0 Z = true) (ws : List Jvm.Cond) (a1 a2 : Addr) (kc : ClassId) (c0 c1 c2 : Int32) (h0 : Heap) (n0 : Nat) (Z0 : n0 ≤ h0.size) (F1 : Fld Z h0 a1 "java/lang/String" "value" "[B" .null) (C1 : Fld Z h0 a1 "java/lang/String" "coder" "B" (.int 0)) (E1 : Exa Z h0 a1 "java/lang/String") (g1 : n0 ≤ a1) (Ac : Arv Z h0 a2 kc .char (3 : Int32) ([c0, c1, c2].map Value.int) (.int 0)) (EN : own_env Z h0) (hb0 : own_b c0) (hb1 : own_b c1) (hb2 : own_b c2) :
  own_M l Z own_z19 jdk_42_method_3_code 2 none ({ frames := 5, cells := 2, slots := 9, locals := 81 } : Room) ws #[(.ref a1), (.ref a2)] h0 (Qw13 Z a1 a2 kc c0 c1 c2 h0 n0) := by
 refine MetFree.of_bodySF (plainFor_of_name pn_k2) hisR ?_
 intro p e s m args below meth c s₁ Bd hml0 hP hK
 obtain ⟨rfl, hZ, hh⟩ := hP
 have hx := Bd.exec
 have hby := Bd.bytes
 have hml : c.maxLocals = 2 := hml0
 have hown : s.vm.findClass "java/lang/String" = some m.cls := findClass_of_methodNamed Bd.named
 have hnm := (name_of_methodNamed Bd.named Bd.method).1
 have X0 : Stand p l e ({ frames := 5, cells := 2, slots := 9, locals := 81 } : Room) s m #[(.ref a1), (.ref a2)] below meth c s₁ [] 0 0 := Stand.of_body Bd
 have e0 : s₁.heap = h0 := by rw [← hh, Bd.state]; rfl
 have N0 := Fr.nil n0
 have pre0 : ∀ t, Steps p.tables e below (s₁.setTop (mkF m 0 #[.val (.ref a1), .val (.ref a2)] [])) t → Steps p.tables e below (s₁.setTop (entryFrame m #[(.ref a1), (.ref a2)] 2)) t := fun t k => castTop (ef_w11 m a1 a2) k
 have Vc1 := Ac
 obtain ⟨cl1, Ar1, qq1, sz1, nn1, Ha1, Gf1⟩ := Vc1
 obtain ⟨_, _, ⟨T2, L2, k2, n2⟩, -, X2, ⟨Lc2, hQ2, l2, y2, z2⟩, st2⟩ := X0.specialBack hx (y := own_z18) rfl hown (mvT hZ (wd13 hw)) (mvT hZ (wd14 hw)) (mvT hZ (wd16 hw)) (by decide) (backOf (W := 0) (rmw43 l Z a0 hw [] a1 a2 kc c0 c1 c2 h0 n0 Z0 F1 C1 E1 g1 Ac EN hb0 hb1 hb2) hZ (wd16 hw) (wd8 hw) (by decide) (by decide)) (g := (mkF m 6 #[.val (.ref a1), .val (.ref a2)] [.null, (.int (3 : Int32)), (.int (0 : Int32)), (.ref a2), (.ref a1)])) rfl (by rw [hml]; rfl) (Steps.refl _) (a := a1) (argsL := [(.ref a2), (.int (0 : Int32)), (.int (3 : Int32)), .null]) (rest := []) (lenOf pd_w41 rfl) rfl (by show 2 * 0 + _ ≤ _; exact Nat.le_of_eq rfl) (hb hby d2_6) (fun _ _ => ⟨rfl, e0, (by decide : 0 + 2 ≤ _), (by decide : 0 + 9 ≤ _)⟩)
 dsimp only [Pt.U, Pt.locs, Pt.cells, Pt.slots] at X2 l2 y2 z2 st2 hQ2
 subst l2 y2 z2
 obtain ⟨rfl, N2q, Kp2, S2⟩ := hQ2
 have N2 := Fr.app N0 N2q
 have pre3 : ∀ t, Steps p.tables e below (T2.setTop (mkF m 9 #[.val (.ref a1), .val (.ref a2)] [])) t → Steps p.tables e below (s₁.setTop (entryFrame m #[(.ref a1), (.ref a2)] 2)) t := fun t k => pre0 t (by
  show Steps p.tables e below (s₁.setTop (mkF m 0 #[.val (.ref a1), .val (.ref a2)] [])) _
  refine XS.aloadN X0.here hx rfl (hb hby d2_0) rfl rfl ?_
  refine XS.aloadN X0.here hx rfl (hb hby d2_1) rfl rfl ?_
  refine XS.iconst X0.here hx rfl (hb hby d2_2) ?_
  refine XS.aloadN X0.here hx rfl (hb hby d2_3) rfl rfl ?_
  refine X0.arraylength hx (by rw [e0]; exact Ar1.1) (State.isArrayOf_alike hZ.alike Ar1.2.1) (g := (mkF m 4 #[.val (.ref a1), .val (.ref a2)] [(.ref a2), (.int (0 : Int32)), (.ref a2), (.ref a1)])) rfl rfl (hb hby d2_4) _ ?_
  rw [len_of sz1 nn1]
  refine XS.aconstNull X0.here hx rfl (hb hby d2_5) ?_
  refine st2.trans ?_
  exact k)
 obtain ⟨fs4, hr4, hrun4, hended4, hW4, hsame4⟩ := X2.leave (v := none) (fun _ => rfl)
 refine ⟨_, _, pre3 _ ?_, hrun4, hended4, _, _, rfl, ?_, ⟨_, rfl⟩, hW4, hsame4.mono (by decide) (by decide)⟩
 ·show Steps p.tables e below (T2.setTop (mkF m 9 #[.val (.ref a1), .val (.ref a2)] [])) _
  exact X2.returnOut hx Bd.returns (hb hby d2_9) hr4
 ·show Qw13 Z a1 a2 kc c0 c1 c2 h0 n0 _ T2.heap _
  exact ⟨rfl, N2, Kp2, S2⟩


def Qw44 (Z : State) (a1 a2 : Addr) (kc : ClassId) (c0 c1 c2 c3 : Int32) (h0 : Heap) (n0 : Nat) (v : Option Value) (h : Heap) (L : List Loc) : Prop := v = none ∧ Fr n0 L ∧ Keep h0 h [a1] ∧ ∃ cd, own_s Z h a1 [c0, c1, c2, c3] cd
set_option maxRecDepth 65536 in
set_option maxHeartbeats 40000000 in
theorem rmw44 (l : Launch) (Z : State) (a0 : Array Value) (hw : ∀ d ∈ tables_1, d.before a0 Z = true) (ws : List Jvm.Cond) (a1 a2 : Addr) (kc : ClassId) (c0 c1 c2 c3 : Int32) (h0 : Heap) (n0 : Nat) (Z0 : n0 ≤ h0.size) (F1 : Fld Z h0 a1 "java/lang/String" "value" "[B" .null) (C1 : Fld Z h0 a1 "java/lang/String" "coder" "B" (.int 0)) (E1 : Exa Z h0 a1 "java/lang/String") (g1 : n0 ≤ a1) (Ac : Arv Z h0 a2 kc .char (4 : Int32) ([c0, c1, c2, c3].map Value.int) (.int 0)) (EN : own_env Z h0) (hb0 : own_b c0) (hb1 : own_b c1) (hb2 : own_b c2) (hb3 : own_b c3) :
  own_M l Z own_z18 jdk_42_method_149_code 6 none ({ frames := 4, cells := 2, slots := 12, locals := 64 } : Room) ws #[(.ref a1), (.ref a2), (.int (0 : Int32)), (.int (4 : Int32)), .null] h0 (Qw44 Z a1 a2 kc c0 c1 c2 c3 h0 n0) := by
 refine MetFree.of_bodySF (plainFor_of_name pn_k2) hisR ?_
 intro p e s m args below meth c s₁ Bd hml0 hP hK
 obtain ⟨rfl, hZ, hh⟩ := hP
 have hx := Bd.exec
 have hby := Bd.bytes
 have hml : c.maxLocals = 6 := hml0
 have hown : s.vm.findClass "java/lang/String" = some m.cls := findClass_of_methodNamed Bd.named
 have hnm := (name_of_methodNamed Bd.named Bd.method).1
 have X0 : Stand p l e ({ frames := 4, cells := 2, slots := 12, locals := 64 } : Room) s m #[(.ref a1), (.ref a2), (.int (0 : Int32)), (.int (4 : Int32)), .null] below meth c s₁ [] 0 0 := Stand.of_body Bd
 have e0 : s₁.heap = h0 := by rw [← hh, Bd.state]; rfl
 have N0 := Fr.nil n0
 have pre0 : ∀ t, Steps p.tables e below (s₁.setTop (mkF m 0 #[.val (.ref a1), .val (.ref a2), .val (.int (0 : Int32)), .val (.int (4 : Int32)), .val .null, .unset] [])) t → Steps p.tables e below (s₁.setTop (entryFrame m #[(.ref a1), (.ref a2), (.int (0 : Int32)), (.int (4 : Int32)), .null] 6)) t := fun t k => castTop (ef_w41 m a1 a2 (0 : Int32) (4 : Int32)) k
 have EN9 := EN
 obtain ⟨z, fm, Sz, hz, -⟩ := EN9
 obtain ⟨T1, X1, e1, st1⟩ := initO X0 hx hZ hown (wd17 hw) (wd18 hw) (wd19 hw) e0 (g := (mkF m 1 #[.val (.ref a1), .val (.ref a2), .val (.int (0 : Int32)), .val (.int (4 : Int32)), .val .null, .unset] [(.ref a1)])) rfl (by rw [hml]; rfl) rfl (hb hby d3_1) (by decide) (W := 0) (by show 2 * 0 + _ ≤ _; exact Nat.le_of_eq rfl) (by decide)
 obtain ⟨T2, X2, e2, st2⟩ := getS2 X1 hx hZ hown (host := "") (Or.inl (wd47 hw)) Via.refl e1 Sz (g := (mkF m 27 #[.val (.ref a1), .val (.ref a2), .val (.int (0 : Int32)), .val (.int (4 : Int32)), .val .null, .unset] [])) rfl (hb hby d3_27)
 obtain ⟨_, _, ⟨T3, L3, k3, n3⟩, -, X3, ⟨Lc3, hQ3, l3, y3, z3⟩, st3⟩ := Jvm.LawKit.callS X2 hx (y := own_z16) hown (mvT hZ (wd72 hw)) (mvT hZ (wd73 hw)) (mvT hZ (wd74 hw)) (mvT hZ (wd75 hw)) (by decide) (backOf (W := 0) (rmcz4 l Z a0 hw [] a2 kc c0 c1 c2 c3 h0 n0 Z0 Ac EN hb0 hb1 hb2 hb3) hZ (wd75 hw) (wd74 hw) (by decide) (by decide)) (g := (mkF m 36 #[.val (.ref a1), .val (.ref a2), .val (.int (0 : Int32)), .val (.int (4 : Int32)), .val .null, .unset] [(.int (4 : Int32)), (.int (0 : Int32)), (.ref a2)])) rfl (by rw [hml]; rfl) (argsL := [(.ref a2), (.int (0 : Int32)), (.int (4 : Int32))]) (rest := []) (lenOf pd_tb1 rfl) rfl (by show 2 * 0 + _ ≤ _; exact Nat.le_of_eq rfl) (hb hby d3_36) (fun _ _ => ⟨rfl, e2, (by decide : 0 + 2 ≤ _), (by decide : 0 + 12 ≤ _)⟩)
 dsimp only [Pt.U, Pt.locs, Pt.cells, Pt.slots] at X3 l3 y3 z3 st3 hQ3
 subst l3 y3 z3
 obtain ⟨b3, kb3, cd3, NN3, vs3, rfl, N3q, E3, V3, hcod3⟩ := hQ3
 have N3 := Fr.app N0 N3q
 have F1_3 := F1.ext E3
 have C1_3 := C1.ext E3
 have E1_3 := E1.ext E3
 have Ac_3 := Ac.ext E3
 have EN_3 := EN.ext E3
 have K3 := (Keep.refl h0 []).ext E3
 have pre4 : ∀ t, Steps p.tables e below (T3.setTop (mkF m 45 #[.val (.ref a1), .val (.ref a2), .val (.int (0 : Int32)), .val (.int (4 : Int32)), .val .null, .val (.ref b3)] [(.int (4 : Int32)), (.ref b3), (.ref a1)])) t → Steps p.tables e below (s₁.setTop (entryFrame m #[(.ref a1), (.ref a2), (.int (0 : Int32)), (.int (4 : Int32)), .null] 6)) t := fun t k => pre0 t (by
  show Steps p.tables e below (s₁.setTop (mkF m 0 #[.val (.ref a1), .val (.ref a2), .val (.int (0 : Int32)), .val (.int (4 : Int32)), .val .null, .unset] [])) _
  refine XS.aloadN X0.here hx rfl (hb hby d3_0) rfl rfl ?_
  refine st1 _ ?_
  refine XS.iloadN X1.here hx rfl (hb hby d3_4) rfl ?_
  refine XS.ifYes X1.here hx rfl (pc0 := 5) (pc' := 27) rfl (hb hby d3_5) rfl ((if0 _ _).trans (feq (by decide : ¬ ((4 : Int32) = (0 : Int32)))).2) (by decide) (by decide) ?_
  refine st2 _ ?_
  refine XS.ifNo X2.here hx rfl (hb hby d3_30) rfl ((if0 _ _).trans (feq hz).1) ?_
  refine XS.aloadN X2.here hx rfl (hb hby d3_33) rfl rfl ?_
  refine XS.iloadN X2.here hx rfl (hb hby d3_34) rfl ?_
  refine XS.iloadN X2.here hx rfl (hb hby d3_35) rfl ?_
  refine st3 _ ?_
  refine XS.astore X3.here hx rfl (hb hby d3_39) rfl rfl (l' := #[.val (.ref a1), .val (.ref a2), .val (.int (0 : Int32)), .val (.int (4 : Int32)), .val .null, .val (.ref b3)]) rfl ?_
  refine XS.aloadN X3.here hx rfl (hb hby d3_41) rfl rfl ?_
  refine XS.aload X3.here hx rfl (hb hby d3_42) rfl rfl ?_
  refine XS.iloadN X3.here hx rfl (hb hby d3_44) rfl ?_
  exact k)
 rcases hcod3 with ⟨rfl, rfl, rfl, hxx⟩ | ⟨rfl, rfl, rfl, hxx⟩
 ·obtain ⟨_, _, ⟨T5, L5, k5, n5⟩, -, X5, ⟨Lc5, hQ5, l5, y5, z5⟩, st5⟩ := Jvm.LawKit.callS X3 hx (y := own_z17) hown (mvT hZ (wd79 hw)) (mvT hZ (wd80 hw)) (mvT hZ (wd74 hw)) (mvT hZ (wd81 hw)) (by decide) (backOf (W := 1) (rmca4_0 l Z a0 hw [] b3 kb3 ([c0, c1, c2, c3].map fun c => Value.int (StrChars.lo8 c)) T3.heap n0 (Nat.le_trans Z0 E3.1) V3) hZ (wd81 hw) (wd74 hw) (by decide) (by decide)) (g := (mkF m 45 #[.val (.ref a1), .val (.ref a2), .val (.int (0 : Int32)), .val (.int (4 : Int32)), .val .null, .val (.ref b3)] [(.int (4 : Int32)), (.ref b3), (.ref a1)])) rfl (by rw [hml]; rfl) (argsL := [(.ref b3), (.int (4 : Int32))]) (rest := [(.ref a1)]) (lenOf pd_ca1_1 rfl) rfl (by show 2 * 0 + _ ≤ _; exact Nat.le_of_eq rfl) (hb hby d3_45) (fun _ _ => ⟨rfl, rfl, (by decide : 2 + 0 ≤ _), (by decide : 12 + 0 ≤ _)⟩)
  dsimp only [Pt.U, Pt.locs, Pt.cells, Pt.slots] at X5 l5 y5 z5 st5 hQ5
  subst l5 y5 z5
  obtain ⟨rfl, N5q, q5⟩ := hQ5
  have N5 := Fr.app N3 N5q
  obtain ⟨T6, h6, X6, e6, W6, st6⟩ := putFN X5 hx hZ hown (wd27 hw) Via.refl q5 C1_3 E1_3 (Or.inr ⟨(wd23 hw), rfl, hnm⟩) (wd7 hw) (ty := .byte) (v' := (.int (0 : Int32))) (by decide) rfl rfl (g := (mkF m 48 #[.val (.ref a1), .val (.ref a2), .val (.int (0 : Int32)), .val (.int (4 : Int32)), .val .null, .val (.ref b3)] [(.int (0 : Int32)), (.ref a1)])) rfl rfl (hb hby d3_48)
  have N6 := Fr.snoc X6 N5 g1
  have F1_6 := F1_3.other W6 (Or.inr (slot_ne (Or.inr (wd22 hw)) (Or.inr (wd23 hw)) (by decide) (t := (.array .byte)) (t' := .byte) (by decide) (by decide)))
  have C1_6 := C1_3.same W6
  have E1_6 := E1_3.wr W6
  have Ac_6 := Ac_3.other W6 (Ne.symm (E1_3.neArv Ac_3 (wd7 hw)))
  have EN_6 := EN_3.wr W6 trivial
  have V3_6 := V3.other W6 (Ne.symm (E1_3.neArv V3 (wd7 hw)))
  obtain ⟨T7, h7, X7, e7, W7, st7⟩ := putF X6 hx hZ hown (host := "") (Or.inl (wd26 hw)) Via.refl e6 F1_6 E1_6 (Or.inr ⟨(wd22 hw), rfl, hnm⟩) (wd7 hw) (ty := (.array .byte)) (by decide) rfl rfl (g := (mkF m 54 #[.val (.ref a1), .val (.ref a2), .val (.int (0 : Int32)), .val (.int (4 : Int32)), .val .null, .val (.ref b3)] [(.ref b3), (.ref a1)])) rfl rfl (hb hby d3_54)
  have N7 := Fr.snoc X7 N6 g1
  have F1_7 := F1_6.same W7
  have C1_7 := C1_6.other W7 (Or.inr (slot_ne (Or.inr (wd23 hw)) (Or.inr (wd22 hw)) (by decide) (t := .byte) (t' := (.array .byte)) (by decide) (by decide)))
  have E1_7 := E1_6.wr W7
  have Ac_7 := Ac_6.other W7 (Ne.symm (E1_6.neArv Ac_6 (wd7 hw)))
  have EN_7 := EN_6.wr W7 trivial
  have V3_7 := V3_6.other W7 (Ne.symm (E1_6.neArv V3_6 (wd7 hw)))
  have pre8 : ∀ t, Steps p.tables e below (T7.setTop (mkF m 57 #[.val (.ref a1), .val (.ref a2), .val (.int (0 : Int32)), .val (.int (4 : Int32)), .val .null, .val (.ref b3)] [])) t → Steps p.tables e below (s₁.setTop (entryFrame m #[(.ref a1), (.ref a2), (.int (0 : Int32)), (.int (4 : Int32)), .null] 6)) t := fun t k => pre4 t (by
   show Steps p.tables e below (T3.setTop (mkF m 45 #[.val (.ref a1), .val (.ref a2), .val (.int (0 : Int32)), .val (.int (4 : Int32)), .val .null, .val (.ref b3)] [(.int (4 : Int32)), (.ref b3), (.ref a1)])) _
   refine st5 _ ?_
   refine st6 _ ?_
   refine XS.aloadN X6.here hx rfl (hb hby d3_51) rfl rfl ?_
   refine XS.aload X6.here hx rfl (hb hby d3_52) rfl rfl ?_
   refine st7 _ ?_
   exact k)
  obtain ⟨fs9, hr9, hrun9, hended9, hW9, hsame9⟩ := X7.leave (v := none) (fun _ => rfl)
  refine ⟨_, _, pre8 _ ?_, hrun9, hended9, _, _, rfl, ?_, ⟨_, rfl⟩, hW9, hsame9.mono (by decide) (by decide)⟩
  ·show Steps p.tables e below (T7.setTop (mkF m 57 #[.val (.ref a1), .val (.ref a2), .val (.int (0 : Int32)), .val (.int (4 : Int32)), .val .null, .val (.ref b3)] [])) _
   exact X7.returnOut hx Bd.returns (hb hby d3_57) hr9
  ·show Qw44 Z a1 a2 kc c0 c1 c2 c3 h0 n0 _ T7.heap _
   rw [e7]
   exact ⟨rfl, N7, (((Keep.refl h0 [a1]).ext E3).wr W6 (Or.inl (List.mem_singleton.mpr rfl))).wr W7 (Or.inl (List.mem_singleton.mpr rfl)), 0, b3, kb3, _, _, E1_7, F1_7, C1_7, V3_7, Or.inl ⟨rfl, rfl, rfl, hxx⟩⟩
 ·obtain ⟨_, _, ⟨T10, L10, k10, n10⟩, -, X10, ⟨Lc10, hQ10, l10, y10, z10⟩, st10⟩ := Jvm.LawKit.callS X3 hx (y := own_z17) hown (mvT hZ (wd79 hw)) (mvT hZ (wd80 hw)) (mvT hZ (wd74 hw)) (mvT hZ (wd81 hw)) (by decide) (backOf (W := 1) (rmca4_1 l Z a0 hw [] b3 kb3 (StrChars.Road.wideBytes [c0, c1, c2, c3]) T3.heap n0 (Nat.le_trans Z0 E3.1) V3) hZ (wd81 hw) (wd74 hw) (by decide) (by decide)) (g := (mkF m 45 #[.val (.ref a1), .val (.ref a2), .val (.int (0 : Int32)), .val (.int (4 : Int32)), .val .null, .val (.ref b3)] [(.int (4 : Int32)), (.ref b3), (.ref a1)])) rfl (by rw [hml]; rfl) (argsL := [(.ref b3), (.int (4 : Int32))]) (rest := [(.ref a1)]) (lenOf pd_ca1_1 rfl) rfl (by show 2 * 0 + _ ≤ _; exact Nat.le_of_eq rfl) (hb hby d3_45) (fun _ _ => ⟨rfl, rfl, (by decide : 2 + 0 ≤ _), (by decide : 12 + 0 ≤ _)⟩)
  dsimp only [Pt.U, Pt.locs, Pt.cells, Pt.slots] at X10 l10 y10 z10 st10 hQ10
  subst l10 y10 z10
  obtain ⟨rfl, N10q, q10⟩ := hQ10
  have N10 := Fr.app N3 N10q
  obtain ⟨T11, h11, X11, e11, W11, st11⟩ := putFN X10 hx hZ hown (wd27 hw) Via.refl q10 C1_3 E1_3 (Or.inr ⟨(wd23 hw), rfl, hnm⟩) (wd7 hw) (ty := .byte) (v' := (.int (1 : Int32))) (by decide) rfl rfl (g := (mkF m 48 #[.val (.ref a1), .val (.ref a2), .val (.int (0 : Int32)), .val (.int (4 : Int32)), .val .null, .val (.ref b3)] [(.int (1 : Int32)), (.ref a1)])) rfl rfl (hb hby d3_48)
  have N11 := Fr.snoc X11 N10 g1
  have F1_11 := F1_3.other W11 (Or.inr (slot_ne (Or.inr (wd22 hw)) (Or.inr (wd23 hw)) (by decide) (t := (.array .byte)) (t' := .byte) (by decide) (by decide)))
  have C1_11 := C1_3.same W11
  have E1_11 := E1_3.wr W11
  have Ac_11 := Ac_3.other W11 (Ne.symm (E1_3.neArv Ac_3 (wd7 hw)))
  have EN_11 := EN_3.wr W11 trivial
  have V3_11 := V3.other W11 (Ne.symm (E1_3.neArv V3 (wd7 hw)))
  obtain ⟨T12, h12, X12, e12, W12, st12⟩ := putF X11 hx hZ hown (host := "") (Or.inl (wd26 hw)) Via.refl e11 F1_11 E1_11 (Or.inr ⟨(wd22 hw), rfl, hnm⟩) (wd7 hw) (ty := (.array .byte)) (by decide) rfl rfl (g := (mkF m 54 #[.val (.ref a1), .val (.ref a2), .val (.int (0 : Int32)), .val (.int (4 : Int32)), .val .null, .val (.ref b3)] [(.ref b3), (.ref a1)])) rfl rfl (hb hby d3_54)
  have N12 := Fr.snoc X12 N11 g1
  have F1_12 := F1_11.same W12
  have C1_12 := C1_11.other W12 (Or.inr (slot_ne (Or.inr (wd23 hw)) (Or.inr (wd22 hw)) (by decide) (t := .byte) (t' := (.array .byte)) (by decide) (by decide)))
  have E1_12 := E1_11.wr W12
  have Ac_12 := Ac_11.other W12 (Ne.symm (E1_11.neArv Ac_11 (wd7 hw)))
  have EN_12 := EN_11.wr W12 trivial
  have V3_12 := V3_11.other W12 (Ne.symm (E1_11.neArv V3_11 (wd7 hw)))
  have pre13 : ∀ t, Steps p.tables e below (T12.setTop (mkF m 57 #[.val (.ref a1), .val (.ref a2), .val (.int (0 : Int32)), .val (.int (4 : Int32)), .val .null, .val (.ref b3)] [])) t → Steps p.tables e below (s₁.setTop (entryFrame m #[(.ref a1), (.ref a2), (.int (0 : Int32)), (.int (4 : Int32)), .null] 6)) t := fun t k => pre4 t (by
   show Steps p.tables e below (T3.setTop (mkF m 45 #[.val (.ref a1), .val (.ref a2), .val (.int (0 : Int32)), .val (.int (4 : Int32)), .val .null, .val (.ref b3)] [(.int (4 : Int32)), (.ref b3), (.ref a1)])) _
   refine st10 _ ?_
   refine st11 _ ?_
   refine XS.aloadN X11.here hx rfl (hb hby d3_51) rfl rfl ?_
   refine XS.aload X11.here hx rfl (hb hby d3_52) rfl rfl ?_
   refine st12 _ ?_
   exact k)
  obtain ⟨fs14, hr14, hrun14, hended14, hW14, hsame14⟩ := X12.leave (v := none) (fun _ => rfl)
  refine ⟨_, _, pre13 _ ?_, hrun14, hended14, _, _, rfl, ?_, ⟨_, rfl⟩, hW14, hsame14.mono (by decide) (by decide)⟩
  ·show Steps p.tables e below (T12.setTop (mkF m 57 #[.val (.ref a1), .val (.ref a2), .val (.int (0 : Int32)), .val (.int (4 : Int32)), .val .null, .val (.ref b3)] [])) _
   exact X12.returnOut hx Bd.returns (hb hby d3_57) hr14
  ·show Qw44 Z a1 a2 kc c0 c1 c2 c3 h0 n0 _ T12.heap _
   rw [e12]
   exact ⟨rfl, N12, (((Keep.refl h0 [a1]).ext E3).wr W11 (Or.inl (List.mem_singleton.mpr rfl))).wr W12 (Or.inl (List.mem_singleton.mpr rfl)), 1, b3, kb3, _, _, E1_12, F1_12, C1_12, V3_12, Or.inr ⟨rfl, rfl, rfl, hxx⟩⟩


def Qw14 (Z : State) (a1 a2 : Addr) (kc : ClassId) (c0 c1 c2 c3 : Int32) (h0 : Heap) (n0 : Nat) (v : Option Value) (h : Heap) (L : List Loc) : Prop := v = none ∧ Fr n0 L ∧ Keep h0 h [a1] ∧ ∃ cd, own_s Z h a1 [c0, c1, c2, c3] cd
set_option maxRecDepth 65536 in
set_option maxHeartbeats 40000000 in
theorem rmw14 (l : Launch) (Z : State) (a0 : Array Value) (hw : ∀ d ∈ tables_1, d.before a0 Z = true) (ws : List Jvm.Cond) (a1 a2 : Addr) (kc : ClassId) (c0 c1 c2 c3 : Int32) (h0 : Heap) (n0 : Nat) (Z0 : n0 ≤ h0.size) (F1 : Fld Z h0 a1 "java/lang/String" "value" "[B" .null) (C1 : Fld Z h0 a1 "java/lang/String" "coder" "B" (.int 0)) (E1 : Exa Z h0 a1 "java/lang/String") (g1 : n0 ≤ a1) (Ac : Arv Z h0 a2 kc .char (4 : Int32) ([c0, c1, c2, c3].map Value.int) (.int 0)) (EN : own_env Z h0) (hb0 : own_b c0) (hb1 : own_b c1) (hb2 : own_b c2) (hb3 : own_b c3) :
  own_M l Z own_z19 jdk_42_method_3_code 2 none ({ frames := 5, cells := 2, slots := 12, locals := 81 } : Room) ws #[(.ref a1), (.ref a2)] h0 (Qw14 Z a1 a2 kc c0 c1 c2 c3 h0 n0) := by
 refine MetFree.of_bodySF (plainFor_of_name pn_k2) hisR ?_
 intro p e s m args below meth c s₁ Bd hml0 hP hK
 obtain ⟨rfl, hZ, hh⟩ := hP
 have hx := Bd.exec
 have hby := Bd.bytes
 have hml : c.maxLocals = 2 := hml0
 have hown : s.vm.findClass "java/lang/String" = some m.cls := findClass_of_methodNamed Bd.named
 have hnm := (name_of_methodNamed Bd.named Bd.method).1
 have X0 : Stand p l e ({ frames := 5, cells := 2, slots := 12, locals := 81 } : Room) s m #[(.ref a1), (.ref a2)] below meth c s₁ [] 0 0 := Stand.of_body Bd
 have e0 : s₁.heap = h0 := by rw [← hh, Bd.state]; rfl
 have N0 := Fr.nil n0
 have pre0 : ∀ t, Steps p.tables e below (s₁.setTop (mkF m 0 #[.val (.ref a1), .val (.ref a2)] [])) t → Steps p.tables e below (s₁.setTop (entryFrame m #[(.ref a1), (.ref a2)] 2)) t := fun t k => castTop (ef_w11 m a1 a2) k
 have Vc1 := Ac
 obtain ⟨cl1, Ar1, qq1, sz1, nn1, Ha1, Gf1⟩ := Vc1
 obtain ⟨_, _, ⟨T2, L2, k2, n2⟩, -, X2, ⟨Lc2, hQ2, l2, y2, z2⟩, st2⟩ := X0.specialBack hx (y := own_z18) rfl hown (mvT hZ (wd13 hw)) (mvT hZ (wd14 hw)) (mvT hZ (wd16 hw)) (by decide) (backOf (W := 0) (rmw44 l Z a0 hw [] a1 a2 kc c0 c1 c2 c3 h0 n0 Z0 F1 C1 E1 g1 Ac EN hb0 hb1 hb2 hb3) hZ (wd16 hw) (wd8 hw) (by decide) (by decide)) (g := (mkF m 6 #[.val (.ref a1), .val (.ref a2)] [.null, (.int (4 : Int32)), (.int (0 : Int32)), (.ref a2), (.ref a1)])) rfl (by rw [hml]; rfl) (Steps.refl _) (a := a1) (argsL := [(.ref a2), (.int (0 : Int32)), (.int (4 : Int32)), .null]) (rest := []) (lenOf pd_w41 rfl) rfl (by show 2 * 0 + _ ≤ _; exact Nat.le_of_eq rfl) (hb hby d2_6) (fun _ _ => ⟨rfl, e0, (by decide : 0 + 2 ≤ _), (by decide : 0 + 12 ≤ _)⟩)
 dsimp only [Pt.U, Pt.locs, Pt.cells, Pt.slots] at X2 l2 y2 z2 st2 hQ2
 subst l2 y2 z2
 obtain ⟨rfl, N2q, Kp2, S2⟩ := hQ2
 have N2 := Fr.app N0 N2q
 have pre3 : ∀ t, Steps p.tables e below (T2.setTop (mkF m 9 #[.val (.ref a1), .val (.ref a2)] [])) t → Steps p.tables e below (s₁.setTop (entryFrame m #[(.ref a1), (.ref a2)] 2)) t := fun t k => pre0 t (by
  show Steps p.tables e below (s₁.setTop (mkF m 0 #[.val (.ref a1), .val (.ref a2)] [])) _
  refine XS.aloadN X0.here hx rfl (hb hby d2_0) rfl rfl ?_
  refine XS.aloadN X0.here hx rfl (hb hby d2_1) rfl rfl ?_
  refine XS.iconst X0.here hx rfl (hb hby d2_2) ?_
  refine XS.aloadN X0.here hx rfl (hb hby d2_3) rfl rfl ?_
  refine X0.arraylength hx (by rw [e0]; exact Ar1.1) (State.isArrayOf_alike hZ.alike Ar1.2.1) (g := (mkF m 4 #[.val (.ref a1), .val (.ref a2)] [(.ref a2), (.int (0 : Int32)), (.ref a2), (.ref a1)])) rfl rfl (hb hby d2_4) _ ?_
  rw [len_of sz1 nn1]
  refine XS.aconstNull X0.here hx rfl (hb hby d2_5) ?_
  refine st2.trans ?_
  exact k)
 obtain ⟨fs4, hr4, hrun4, hended4, hW4, hsame4⟩ := X2.leave (v := none) (fun _ => rfl)
 refine ⟨_, _, pre3 _ ?_, hrun4, hended4, _, _, rfl, ?_, ⟨_, rfl⟩, hW4, hsame4.mono (by decide) (by decide)⟩
 ·show Steps p.tables e below (T2.setTop (mkF m 9 #[.val (.ref a1), .val (.ref a2)] [])) _
  exact X2.returnOut hx Bd.returns (hb hby d2_9) hr4
 ·show Qw14 Z a1 a2 kc c0 c1 c2 c3 h0 n0 _ T2.heap _
  exact ⟨rfl, N2, Kp2, S2⟩

theorem own_l8 {c p : Int32} (hc : ¬ c < 0 ∧ ¬ (255 : Int32) < c) (hp : ¬ p < 0 ∧ ¬ (255 : Int32) < p) : StrChars.lo8 c = p.toInt8.toInt32 ↔ c = p := by
 refine ⟨fun q => ?_, fun q => by rw [q]; rfl⟩
 apply Int32.toInt_inj.mp
 have q' : (c.toInt8.toInt32).toInt = (p.toInt8.toInt32).toInt := congrArg Int32.toInt q
 have a1 := c_i2b c
 have a2 := c_i2b p
 obtain ⟨h1, h2⟩ := hc
 obtain ⟨h3, h4⟩ := hp
 rw [Int32.lt_iff_toInt_lt] at h1 h2 h3 h4
 have e1 : (0 : Int32).toInt = 0 := rfl
 have e2 : (255 : Int32).toInt = 255 := rfl
 omega
def own_QI (h0 : Heap) (n0 : Nat) (P : Prop) (v : Option Value) (h : Heap) (L : List Loc) : Prop := ∃ r, v = some (.int r) ∧ Fr n0 L ∧ h = h0 ∧ (r < 0 ↔ ¬ P)
def own_QN (h0 : Heap) (n0 : Nat) (v : Option Value) (h : Heap) (L : List Loc) : Prop := v = none ∧ Fr n0 L ∧ h = h0
theorem own_minn (n : Int32) : own_min n n = n := by unfold own_min; split <;> rfl
theorem own_w {p : Int32} (h : ¬ p < 0 ∧ ¬ (255 : Int32) < p) : p < (65536 : Int32) := by
 obtain ⟨q1, q2⟩ := h
 rw [Int32.lt_iff_toInt_lt] at q2 ⊢
 have e1 : (255 : Int32).toInt = 255 := rfl
 have e2 : (65536 : Int32).toInt = 65536 := rfl
 omega

theorem d19_0 : decode jdk_43_method_23_code 0 = .ok (.iload_n 1, 1) := by decide +kernel
theorem d19_1 : decode jdk_43_method_23_code 1 = .ok (.i2b, 1) := by decide +kernel
theorem d19_2 : decode jdk_43_method_23_code 2 = .ok (.istore 4, 2) := by decide +kernel
theorem d19_4 : decode jdk_43_method_23_code 4 = .ok (.iload_n 2, 1) := by decide +kernel
theorem d19_5 : decode jdk_43_method_23_code 5 = .ok (.istore 5, 2) := by decide +kernel
theorem d19_7 : decode jdk_43_method_23_code 7 = .ok (.iload 5, 2) := by decide +kernel
theorem d19_9 : decode jdk_43_method_23_code 9 = .ok (.iload_n 3, 1) := by decide +kernel
theorem d19_10 : decode jdk_43_method_23_code 10 = .ok (.if_icmp .ge 21, 3) := by decide +kernel
theorem d19_13 : decode jdk_43_method_23_code 13 = .ok (.aload_n 0, 1) := by decide +kernel
theorem d19_14 : decode jdk_43_method_23_code 14 = .ok (.iload 5, 2) := by decide +kernel
theorem d19_16 : decode jdk_43_method_23_code 16 = .ok (.baload, 1) := by decide +kernel
theorem d19_17 : decode jdk_43_method_23_code 17 = .ok (.iload 4, 2) := by decide +kernel
theorem d19_19 : decode jdk_43_method_23_code 19 = .ok (.if_icmp .ne 6, 3) := by decide +kernel
theorem d19_22 : decode jdk_43_method_23_code 22 = .ok (.iload 5, 2) := by decide +kernel
theorem d19_24 : decode jdk_43_method_23_code 24 = .ok (.ireturn, 1) := by decide +kernel
theorem d19_25 : decode jdk_43_method_23_code 25 = .ok (.iinc 5 1, 3) := by decide +kernel
theorem d19_28 : decode jdk_43_method_23_code 28 = .ok (.goto (-21), 3) := by decide +kernel
theorem d19_31 : decode jdk_43_method_23_code 31 = .ok (.iconst (-1), 1) := by decide +kernel
theorem d19_32 : decode jdk_43_method_23_code 32 = .ok (.ireturn, 1) := by decide +kernel

theorem pd_lc : parseMethodDescriptor "([BIII)I" = some ⟨[(.array .byte), .int, .int, .int], some .int⟩ := by decide +kernel

theorem d11_0 : decode jdk_43_method_22_code 0 = .ok (.iload_n 1, 1) := by decide +kernel
theorem d11_1 : decode jdk_43_method_22_code 1 = .ok (.invokestatic 88, 3) := by decide +kernel
theorem d11_4 : decode jdk_43_method_22_code 4 = .ok (.ifCond .ne 5, 3) := by decide +kernel
theorem d11_9 : decode jdk_43_method_22_code 9 = .ok (.iload_n 2, 1) := by decide +kernel
theorem d11_10 : decode jdk_43_method_22_code 10 = .ok (.iconst 0, 1) := by decide +kernel
theorem d11_11 : decode jdk_43_method_22_code 11 = .ok (.invokestatic 92, 3) := by decide +kernel
theorem d11_14 : decode jdk_43_method_22_code 14 = .ok (.istore_n 2, 1) := by decide +kernel
theorem d11_15 : decode jdk_43_method_22_code 15 = .ok (.iload_n 3, 1) := by decide +kernel
theorem d11_16 : decode jdk_43_method_22_code 16 = .ok (.aload_n 0, 1) := by decide +kernel
theorem d11_17 : decode jdk_43_method_22_code 17 = .ok (.arraylength, 1) := by decide +kernel
theorem d11_18 : decode jdk_43_method_22_code 18 = .ok (.invokestatic 38, 3) := by decide +kernel
theorem d11_21 : decode jdk_43_method_22_code 21 = .ok (.istore_n 3, 1) := by decide +kernel
theorem d11_22 : decode jdk_43_method_22_code 22 = .ok (.iload_n 2, 1) := by decide +kernel
theorem d11_23 : decode jdk_43_method_22_code 23 = .ok (.iload_n 3, 1) := by decide +kernel
theorem d11_24 : decode jdk_43_method_22_code 24 = .ok (.if_icmp .lt 5, 3) := by decide +kernel
theorem d11_27 : decode jdk_43_method_22_code 27 = .ok (.iconst (-1), 1) := by decide +kernel
theorem d11_28 : decode jdk_43_method_22_code 28 = .ok (.ireturn, 1) := by decide +kernel
theorem d11_29 : decode jdk_43_method_22_code 29 = .ok (.aload_n 0, 1) := by decide +kernel
theorem d11_30 : decode jdk_43_method_22_code 30 = .ok (.iload_n 1, 1) := by decide +kernel
theorem d11_31 : decode jdk_43_method_22_code 31 = .ok (.iload_n 2, 1) := by decide +kernel
theorem d11_32 : decode jdk_43_method_22_code 32 = .ok (.iload_n 3, 1) := by decide +kernel
theorem d11_33 : decode jdk_43_method_22_code 33 = .ok (.invokestatic 95, 3) := by decide +kernel
theorem d11_36 : decode jdk_43_method_22_code 36 = .ok (.ireturn, 1) := by decide +kernel


theorem ef_li (m : MethodId) (x0 : Addr) (x1 : Int32) (x2 : Int32) (x3 : Int32)  : entryFrame m #[(.ref x0), (.int x1), (.int x2), (.int x3)] 4 = mkF m 0 #[.val (.ref x0), .val (.int x1), .val (.int x2), .val (.int x3)] [] := by first | (simp [entryFrame, mkF, argsToLocals, Value.category]; done) | rfl
def Qli (Z : State) (a1 : Addr) (k1 : ClassId) (vs : List Value) (n p1 : Int32) (P : Prop) (h0 : Heap) (n0 : Nat) (v : Option Value) (h : Heap) (L : List Loc) : Prop := own_QI h0 n0 P v h L
set_option maxRecDepth 65536 in
set_option maxHeartbeats 40000000 in
theorem rmli (l : Launch) (Z : State) (a0 : Array Value) (hw : ∀ d ∈ tables_1, d.before a0 Z = true) (ws : List Jvm.Cond) (a1 : Addr) (k1 : ClassId) (vs : List Value) (n p1 : Int32) (P : Prop) (h0 : Heap) (n0 : Nat) (Z0 : n0 ≤ h0.size) (As : Arv Z h0 a1 k1 .byte n vs (.int 0)) (hn : (0 : Int32) < n) (hp : ¬ p1 < 0 ∧ ¬ (255 : Int32) < p1) (HL : own_M l Z own_z20 jdk_43_method_23_code 6 (some .int) ({ frames := 0, cells := 0, slots := 0, locals := 0 } : Room) [] #[(.ref a1), (.int p1), (.int (0 : Int32)), (.int n)] h0 (own_QI h0 n0 (P))) :
  own_M l Z own_z21 jdk_43_method_22_code 4 (some .int) ({ frames := 1, cells := 0, slots := 0, locals := 18 } : Room) ws #[(.ref a1), (.int p1), (.int (0 : Int32)), (.int n)] h0 (Qli Z a1 k1 vs n p1 P h0 n0) := by
 refine MetFree.of_bodySF (plainFor_of_name pn_k4) hisR ?_
 intro p e s m args below meth c s₁ Bd hml0 hP hK
 obtain ⟨rfl, hZ, hh⟩ := hP
 have hx := Bd.exec
 have hby := Bd.bytes
 have hml : c.maxLocals = 4 := hml0
 have hown : s.vm.findClass "java/lang/StringLatin1" = some m.cls := findClass_of_methodNamed Bd.named
 have hnm := (name_of_methodNamed Bd.named Bd.method).1
 have X0 : Stand p l e ({ frames := 1, cells := 0, slots := 0, locals := 18 } : Room) s m #[(.ref a1), (.int p1), (.int (0 : Int32)), (.int n)] below meth c s₁ [] 0 0 := Stand.of_body Bd
 have e0 : s₁.heap = h0 := by rw [← hh, Bd.state]; rfl
 have N0 := Fr.nil n0
 have pre0 : ∀ t, Steps p.tables e below (s₁.setTop (mkF m 0 #[.val (.ref a1), .val (.int p1), .val (.int (0 : Int32)), .val (.int n)] [])) t → Steps p.tables e below (s₁.setTop (entryFrame m #[(.ref a1), (.int p1), (.int (0 : Int32)), (.int n)] 4)) t := fun t k => castTop (ef_li m a1 p1 (0 : Int32) n) k
 obtain ⟨_, _, ⟨T1, L1, k1, n1⟩, -, X1, ⟨Lc1, hQ1, l1, y1, z1⟩, st1⟩ := Jvm.LawKit.callS X0 hx (y := own_z4) hown (mvT hZ (wd62 hw)) (mvT hZ (wd63 hw)) (mvT hZ (wd60 hw)) (mvT hZ (wd64 hw)) (by decide) (backOf (W := 0) (rmce l Z a0 hw [] p1 h0 n0 Z0 hp.1 hp.2) hZ (wd64 hw) (wd60 hw) (by decide) (by decide)) (g := (mkF m 1 #[.val (.ref a1), .val (.int p1), .val (.int (0 : Int32)), .val (.int n)] [(.int p1)])) rfl (by rw [hml]; rfl) (argsL := [(.int p1)]) (rest := []) (lenOf pd_ce rfl) rfl (by show 2 * 0 + _ ≤ _; exact Nat.le_of_eq rfl) (hb hby d11_1) (fun _ _ => ⟨rfl, e0, (by decide : 0 + 0 ≤ _), (by decide : 0 + 0 ≤ _)⟩)
 dsimp only [Pt.U, Pt.locs, Pt.cells, Pt.slots] at X1 l1 y1 z1 st1 hQ1
 subst l1 y1 z1
 obtain ⟨rfl, N1q, q1⟩ := hQ1
 have N1 := Fr.app N0 N1q
 obtain ⟨_, _, ⟨T2, L2, k2, n2⟩, -, X2, ⟨Lc2, hQ2, l2, y2, z2⟩, st2⟩ := Jvm.LawKit.callS X1 hx (y := own_z2) hown (mvT hZ (wd65 hw)) (mvT hZ (wd66 hw)) (mvT hZ (wd67 hw)) (mvT hZ (wd68 hw)) (by decide) (backOf (W := 0) (rmmx l Z a0 hw [] (0 : Int32) (0 : Int32) (0 : Int32) h0 n0 Z0 (by decide)) hZ (wd68 hw) (wd67 hw) (by decide) (by decide)) (g := (mkF m 11 #[.val (.ref a1), .val (.int p1), .val (.int (0 : Int32)), .val (.int n)] [(.int (0 : Int32)), (.int (0 : Int32))])) rfl (by rw [hml]; rfl) (argsL := [(.int (0 : Int32)), (.int (0 : Int32))]) (rest := []) (lenOf pd_mx rfl) rfl (by show 2 * 0 + _ ≤ _; exact Nat.le_of_eq rfl) (hb hby d11_11) (fun _ _ => ⟨rfl, q1, (by decide : 0 + 0 ≤ _), (by decide : 0 + 0 ≤ _)⟩)
 dsimp only [Pt.U, Pt.locs, Pt.cells, Pt.slots] at X2 l2 y2 z2 st2 hQ2
 subst l2 y2 z2
 obtain ⟨rfl, N2q, q2⟩ := hQ2
 have N2 := Fr.app N1 N2q
 have Vc3 := As
 obtain ⟨cl3, Ar3, qq3, sz3, nn3, Ha3, Gf3⟩ := Vc3
 obtain ⟨_, _, ⟨T4, L4, k4, n4⟩, -, X4, ⟨Lc4, hQ4, l4, y4, z4⟩, st4⟩ := Jvm.LawKit.callS X2 hx (y := own_z3) hown (mvT hZ (wd69 hw)) (mvT hZ (wd70 hw)) (mvT hZ (wd67 hw)) (mvT hZ (wd71 hw)) (by decide) (backOf (W := 0) (rmmn l Z a0 hw [] n n n h0 n0 Z0 (own_minn _)) hZ (wd71 hw) (wd67 hw) (by decide) (by decide)) (g := (mkF m 18 #[.val (.ref a1), .val (.int p1), .val (.int (0 : Int32)), .val (.int n)] [(.int n), (.int n)])) rfl (by rw [hml]; rfl) (argsL := [(.int n), (.int n)]) (rest := []) (lenOf pd_mx rfl) rfl (by show 2 * 0 + _ ≤ _; exact Nat.le_of_eq rfl) (hb hby d11_18) (fun _ _ => ⟨rfl, q2, (by decide : 0 + 0 ≤ _), (by decide : 0 + 0 ≤ _)⟩)
 dsimp only [Pt.U, Pt.locs, Pt.cells, Pt.slots] at X4 l4 y4 z4 st4 hQ4
 subst l4 y4 z4
 obtain ⟨rfl, N4q, q4⟩ := hQ4
 have N4 := Fr.app N2 N4q
 obtain ⟨_, _, ⟨T5, L5, k5, n5⟩, -, X5, ⟨Lc5, hQ5, l5, y5, z5⟩, st5⟩ := Jvm.LawKit.callS X4 hx (y := own_z20) hown (mvT hZ (wd85 hw)) (mvT hZ (wd86 hw)) (mvT hZ (wd60 hw)) (mvT hZ (wd87 hw)) (by decide) (backOf (W := 0) HL hZ (wd87 hw) (wd60 hw) (by decide) (by decide)) (g := (mkF m 33 #[.val (.ref a1), .val (.int p1), .val (.int (0 : Int32)), .val (.int n)] [(.int n), (.int (0 : Int32)), (.int p1), (.ref a1)])) rfl (by rw [hml]; rfl) (argsL := [(.ref a1), (.int p1), (.int (0 : Int32)), (.int n)]) (rest := []) (lenOf pd_lc rfl) rfl (by show 2 * 0 + _ ≤ _; exact Nat.le_of_eq rfl) (hb hby d11_33) (fun _ _ => ⟨rfl, q4, (by decide : 0 + 0 ≤ _), (by decide : 0 + 0 ≤ _)⟩)
 dsimp only [Pt.U, Pt.locs, Pt.cells, Pt.slots] at X5 l5 y5 z5 st5 hQ5
 subst l5 y5 z5
 obtain ⟨r5, rfl, N5q, q5, hr5⟩ := hQ5
 have N5 := Fr.app N4 N5q
 have pre6 : ∀ t, Steps p.tables e below (T5.setTop (mkF m 36 #[.val (.ref a1), .val (.int p1), .val (.int (0 : Int32)), .val (.int n)] [(.int r5)])) t → Steps p.tables e below (s₁.setTop (entryFrame m #[(.ref a1), (.int p1), (.int (0 : Int32)), (.int n)] 4)) t := fun t k => pre0 t (by
  show Steps p.tables e below (s₁.setTop (mkF m 0 #[.val (.ref a1), .val (.int p1), .val (.int (0 : Int32)), .val (.int n)] [])) _
  refine XS.iloadN X0.here hx rfl (hb hby d11_0) rfl ?_
  refine st1 _ ?_
  refine XS.ifYes X1.here hx rfl (pc0 := 4) (pc' := 9) rfl (hb hby d11_4) rfl ((if0 _ _).trans (feq (by decide : ¬ ((1 : Int32) = (0 : Int32)))).2) (by decide) (by decide) ?_
  refine XS.iloadN X1.here hx rfl (hb hby d11_9) rfl ?_
  refine XS.iconst X1.here hx rfl (hb hby d11_10) ?_
  refine st2 _ ?_
  refine XS.istoreN X2.here hx rfl (hb hby d11_14) rfl (l' := #[.val (.ref a1), .val (.int p1), .val (.int (0 : Int32)), .val (.int n)]) rfl ?_
  refine XS.iloadN X2.here hx rfl (hb hby d11_15) rfl ?_
  refine XS.aloadN X2.here hx rfl (hb hby d11_16) rfl rfl ?_
  refine X2.arraylength hx (by rw [q2]; exact Ar3.1) (State.isArrayOf_alike hZ.alike Ar3.2.1) (g := (mkF m 17 #[.val (.ref a1), .val (.int p1), .val (.int (0 : Int32)), .val (.int n)] [(.ref a1), (.int n)])) rfl rfl (hb hby d11_17) _ ?_
  rw [len_of sz3 nn3]
  refine st4 _ ?_
  refine XS.istoreN X4.here hx rfl (hb hby d11_21) rfl (l' := #[.val (.ref a1), .val (.int p1), .val (.int (0 : Int32)), .val (.int n)]) rfl ?_
  refine XS.iloadN X4.here hx rfl (hb hby d11_22) rfl ?_
  refine XS.iloadN X4.here hx rfl (hb hby d11_23) rfl ?_
  refine XS.icmpYes X4.here hx rfl (pc0 := 24) (pc' := 29) rfl (hb hby d11_24) rfl (tlt hn).1 (by decide) (by decide) ?_
  refine XS.aloadN X4.here hx rfl (hb hby d11_29) rfl rfl ?_
  refine XS.iloadN X4.here hx rfl (hb hby d11_30) rfl ?_
  refine XS.iloadN X4.here hx rfl (hb hby d11_31) rfl ?_
  refine XS.iloadN X4.here hx rfl (hb hby d11_32) rfl ?_
  refine st5 _ ?_
  exact k)
 obtain ⟨fs7, hr7, hrun7, hended7, hW7, hsame7⟩ := X5.leave (v := some (.int r5)) (fun h => by rw [Bd.returns] at h; cases h)
 refine ⟨_, _, pre6 _ ?_, hrun7, hended7, _, _, rfl, ?_, ⟨_, rfl⟩, hW7, hsame7.mono (by decide) (by decide)⟩
 ·show Steps p.tables e below (T5.setTop (mkF m 36 #[.val (.ref a1), .val (.int p1), .val (.int (0 : Int32)), .val (.int n)] [(.int r5)])) _
  exact retOut X5 hx (t := .int) Bd.returns rfl (Or.inl ⟨rfl, Or.inl rfl, _, rfl⟩) (hb hby d11_36) hr7
 ·show Qli Z a1 k1 vs n p1 P h0 n0 _ T5.heap _
  rw [q5]
  exact ⟨_, rfl, N5, rfl, hr5⟩


def Qli0 (Z : State) (a1 : Addr) (k1 : ClassId) (vs : List Value) (p1 : Int32) (h0 : Heap) (n0 : Nat) (v : Option Value) (h : Heap) (L : List Loc) : Prop := own_QI h0 n0 False v h L
set_option maxRecDepth 65536 in
set_option maxHeartbeats 40000000 in
theorem rmli0 (l : Launch) (Z : State) (a0 : Array Value) (hw : ∀ d ∈ tables_1, d.before a0 Z = true) (ws : List Jvm.Cond) (a1 : Addr) (k1 : ClassId) (vs : List Value) (p1 : Int32) (h0 : Heap) (n0 : Nat) (Z0 : n0 ≤ h0.size) (As : Arv Z h0 a1 k1 .byte (0 : Int32) vs (.int 0)) (hp : ¬ p1 < 0 ∧ ¬ (255 : Int32) < p1) :
  own_M l Z own_z21 jdk_43_method_22_code 4 (some .int) ({ frames := 1, cells := 0, slots := 0, locals := 18 } : Room) ws #[(.ref a1), (.int p1), (.int (0 : Int32)), (.int (0 : Int32))] h0 (Qli0 Z a1 k1 vs p1 h0 n0) := by
 refine MetFree.of_bodySF (plainFor_of_name pn_k4) hisR ?_
 intro p e s m args below meth c s₁ Bd hml0 hP hK
 obtain ⟨rfl, hZ, hh⟩ := hP
 have hx := Bd.exec
 have hby := Bd.bytes
 have hml : c.maxLocals = 4 := hml0
 have hown : s.vm.findClass "java/lang/StringLatin1" = some m.cls := findClass_of_methodNamed Bd.named
 have hnm := (name_of_methodNamed Bd.named Bd.method).1
 have X0 : Stand p l e ({ frames := 1, cells := 0, slots := 0, locals := 18 } : Room) s m #[(.ref a1), (.int p1), (.int (0 : Int32)), (.int (0 : Int32))] below meth c s₁ [] 0 0 := Stand.of_body Bd
 have e0 : s₁.heap = h0 := by rw [← hh, Bd.state]; rfl
 have N0 := Fr.nil n0
 have pre0 : ∀ t, Steps p.tables e below (s₁.setTop (mkF m 0 #[.val (.ref a1), .val (.int p1), .val (.int (0 : Int32)), .val (.int (0 : Int32))] [])) t → Steps p.tables e below (s₁.setTop (entryFrame m #[(.ref a1), (.int p1), (.int (0 : Int32)), (.int (0 : Int32))] 4)) t := fun t k => castTop (ef_li m a1 p1 (0 : Int32) (0 : Int32)) k
 obtain ⟨_, _, ⟨T1, L1, k1, n1⟩, -, X1, ⟨Lc1, hQ1, l1, y1, z1⟩, st1⟩ := Jvm.LawKit.callS X0 hx (y := own_z4) hown (mvT hZ (wd62 hw)) (mvT hZ (wd63 hw)) (mvT hZ (wd60 hw)) (mvT hZ (wd64 hw)) (by decide) (backOf (W := 0) (rmce l Z a0 hw [] p1 h0 n0 Z0 hp.1 hp.2) hZ (wd64 hw) (wd60 hw) (by decide) (by decide)) (g := (mkF m 1 #[.val (.ref a1), .val (.int p1), .val (.int (0 : Int32)), .val (.int (0 : Int32))] [(.int p1)])) rfl (by rw [hml]; rfl) (argsL := [(.int p1)]) (rest := []) (lenOf pd_ce rfl) rfl (by show 2 * 0 + _ ≤ _; exact Nat.le_of_eq rfl) (hb hby d11_1) (fun _ _ => ⟨rfl, e0, (by decide : 0 + 0 ≤ _), (by decide : 0 + 0 ≤ _)⟩)
 dsimp only [Pt.U, Pt.locs, Pt.cells, Pt.slots] at X1 l1 y1 z1 st1 hQ1
 subst l1 y1 z1
 obtain ⟨rfl, N1q, q1⟩ := hQ1
 have N1 := Fr.app N0 N1q
 obtain ⟨_, _, ⟨T2, L2, k2, n2⟩, -, X2, ⟨Lc2, hQ2, l2, y2, z2⟩, st2⟩ := Jvm.LawKit.callS X1 hx (y := own_z2) hown (mvT hZ (wd65 hw)) (mvT hZ (wd66 hw)) (mvT hZ (wd67 hw)) (mvT hZ (wd68 hw)) (by decide) (backOf (W := 0) (rmmx l Z a0 hw [] (0 : Int32) (0 : Int32) (0 : Int32) h0 n0 Z0 (by decide)) hZ (wd68 hw) (wd67 hw) (by decide) (by decide)) (g := (mkF m 11 #[.val (.ref a1), .val (.int p1), .val (.int (0 : Int32)), .val (.int (0 : Int32))] [(.int (0 : Int32)), (.int (0 : Int32))])) rfl (by rw [hml]; rfl) (argsL := [(.int (0 : Int32)), (.int (0 : Int32))]) (rest := []) (lenOf pd_mx rfl) rfl (by show 2 * 0 + _ ≤ _; exact Nat.le_of_eq rfl) (hb hby d11_11) (fun _ _ => ⟨rfl, q1, (by decide : 0 + 0 ≤ _), (by decide : 0 + 0 ≤ _)⟩)
 dsimp only [Pt.U, Pt.locs, Pt.cells, Pt.slots] at X2 l2 y2 z2 st2 hQ2
 subst l2 y2 z2
 obtain ⟨rfl, N2q, q2⟩ := hQ2
 have N2 := Fr.app N1 N2q
 have Vc3 := As
 obtain ⟨cl3, Ar3, qq3, sz3, nn3, Ha3, Gf3⟩ := Vc3
 obtain ⟨_, _, ⟨T4, L4, k4, n4⟩, -, X4, ⟨Lc4, hQ4, l4, y4, z4⟩, st4⟩ := Jvm.LawKit.callS X2 hx (y := own_z3) hown (mvT hZ (wd69 hw)) (mvT hZ (wd70 hw)) (mvT hZ (wd67 hw)) (mvT hZ (wd71 hw)) (by decide) (backOf (W := 0) (rmmn l Z a0 hw [] (0 : Int32) (0 : Int32) (0 : Int32) h0 n0 Z0 (own_minn _)) hZ (wd71 hw) (wd67 hw) (by decide) (by decide)) (g := (mkF m 18 #[.val (.ref a1), .val (.int p1), .val (.int (0 : Int32)), .val (.int (0 : Int32))] [(.int (0 : Int32)), (.int (0 : Int32))])) rfl (by rw [hml]; rfl) (argsL := [(.int (0 : Int32)), (.int (0 : Int32))]) (rest := []) (lenOf pd_mx rfl) rfl (by show 2 * 0 + _ ≤ _; exact Nat.le_of_eq rfl) (hb hby d11_18) (fun _ _ => ⟨rfl, q2, (by decide : 0 + 0 ≤ _), (by decide : 0 + 0 ≤ _)⟩)
 dsimp only [Pt.U, Pt.locs, Pt.cells, Pt.slots] at X4 l4 y4 z4 st4 hQ4
 subst l4 y4 z4
 obtain ⟨rfl, N4q, q4⟩ := hQ4
 have N4 := Fr.app N2 N4q
 have pre5 : ∀ t, Steps p.tables e below (T4.setTop (mkF m 28 #[.val (.ref a1), .val (.int p1), .val (.int (0 : Int32)), .val (.int (0 : Int32))] [(.int (-1 : Int32))])) t → Steps p.tables e below (s₁.setTop (entryFrame m #[(.ref a1), (.int p1), (.int (0 : Int32)), (.int (0 : Int32))] 4)) t := fun t k => pre0 t (by
  show Steps p.tables e below (s₁.setTop (mkF m 0 #[.val (.ref a1), .val (.int p1), .val (.int (0 : Int32)), .val (.int (0 : Int32))] [])) _
  refine XS.iloadN X0.here hx rfl (hb hby d11_0) rfl ?_
  refine st1 _ ?_
  refine XS.ifYes X1.here hx rfl (pc0 := 4) (pc' := 9) rfl (hb hby d11_4) rfl ((if0 _ _).trans (feq (by decide : ¬ ((1 : Int32) = (0 : Int32)))).2) (by decide) (by decide) ?_
  refine XS.iloadN X1.here hx rfl (hb hby d11_9) rfl ?_
  refine XS.iconst X1.here hx rfl (hb hby d11_10) ?_
  refine st2 _ ?_
  refine XS.istoreN X2.here hx rfl (hb hby d11_14) rfl (l' := #[.val (.ref a1), .val (.int p1), .val (.int (0 : Int32)), .val (.int (0 : Int32))]) rfl ?_
  refine XS.iloadN X2.here hx rfl (hb hby d11_15) rfl ?_
  refine XS.aloadN X2.here hx rfl (hb hby d11_16) rfl rfl ?_
  refine X2.arraylength hx (by rw [q2]; exact Ar3.1) (State.isArrayOf_alike hZ.alike Ar3.2.1) (g := (mkF m 17 #[.val (.ref a1), .val (.int p1), .val (.int (0 : Int32)), .val (.int (0 : Int32))] [(.ref a1), (.int (0 : Int32))])) rfl rfl (hb hby d11_17) _ ?_
  rw [len_of sz3 nn3]
  refine st4 _ ?_
  refine XS.istoreN X4.here hx rfl (hb hby d11_21) rfl (l' := #[.val (.ref a1), .val (.int p1), .val (.int (0 : Int32)), .val (.int (0 : Int32))]) rfl ?_
  refine XS.iloadN X4.here hx rfl (hb hby d11_22) rfl ?_
  refine XS.iloadN X4.here hx rfl (hb hby d11_23) rfl ?_
  refine XS.icmpNo X4.here hx rfl (hb hby d11_24) rfl (flt (by decide : ¬ ((0 : Int32) < (0 : Int32)))).1 ?_
  refine XS.iconst X4.here hx rfl (hb hby d11_27) ?_
  exact k)
 obtain ⟨fs6, hr6, hrun6, hended6, hW6, hsame6⟩ := X4.leave (v := some (.int (-1 : Int32))) (fun h => by rw [Bd.returns] at h; cases h)
 refine ⟨_, _, pre5 _ ?_, hrun6, hended6, _, _, rfl, ?_, ⟨_, rfl⟩, hW6, hsame6.mono (by decide) (by decide)⟩
 ·show Steps p.tables e below (T4.setTop (mkF m 28 #[.val (.ref a1), .val (.int p1), .val (.int (0 : Int32)), .val (.int (0 : Int32))] [(.int (-1 : Int32))])) _
  exact retOut X4 hx (t := .int) Bd.returns rfl (Or.inl ⟨rfl, Or.inl rfl, _, rfl⟩) (hb hby d11_28) hr6
 ·show Qli0 Z a1 k1 vs p1 h0 n0 _ T4.heap _
  rw [q4]
  exact ⟨_, rfl, N4, rfl, fun _ q => q, fun _ => by decide⟩


theorem ef_lc1 (m : MethodId) (x0 : Addr) (x1 : Int32) (x2 : Int32) (x3 : Int32)  : entryFrame m #[(.ref x0), (.int x1), (.int x2), (.int x3)] 6 = mkF m 0 #[.val (.ref x0), .val (.int x1), .val (.int x2), .val (.int x3), .unset, .unset] [] := by first | (simp [entryFrame, mkF, argsToLocals, Value.category]; done) | rfl
def Qlc1 (Z : State) (a1 : Addr) (k1 : ClassId) (c0 : Int32) (p1 : Int32) (h0 : Heap) (n0 : Nat) (v : Option Value) (h : Heap) (L : List Loc) : Prop := own_QI h0 n0 (c0 = p1) v h L
set_option maxRecDepth 65536 in
set_option maxHeartbeats 40000000 in
theorem rmlc1 (l : Launch) (Z : State) (a0 : Array Value) (hw : ∀ d ∈ tables_1, d.before a0 Z = true) (ws : List Jvm.Cond) (a1 : Addr) (k1 : ClassId) (c0 : Int32) (p1 : Int32) (h0 : Heap) (n0 : Nat) (Z0 : n0 ≤ h0.size) (As : Arv Z h0 a1 k1 .byte (1 : Int32) ([c0].map fun c => Value.int (StrChars.lo8 c)) (.int 0)) (hb0 : own_b c0) (hl0 : ¬ (255 : Int32) < c0) (hp : ¬ p1 < 0 ∧ ¬ (255 : Int32) < p1) :
  own_M l Z own_z20 jdk_43_method_23_code 6 (some .int) ({ frames := 0, cells := 0, slots := 0, locals := 0 } : Room) ws #[(.ref a1), (.int p1), (.int (0 : Int32)), (.int (1 : Int32))] h0 (Qlc1 Z a1 k1 c0 p1 h0 n0) := by
 refine MetFree.of_bodySF (plainFor_of_name pn_k4) hisR ?_
 intro p e s m args below meth c s₁ Bd hml0 hP hK
 obtain ⟨rfl, hZ, hh⟩ := hP
 have hx := Bd.exec
 have hby := Bd.bytes
 have hml : c.maxLocals = 6 := hml0
 have hown : s.vm.findClass "java/lang/StringLatin1" = some m.cls := findClass_of_methodNamed Bd.named
 have hnm := (name_of_methodNamed Bd.named Bd.method).1
 have X0 : Stand p l e ({ frames := 0, cells := 0, slots := 0, locals := 0 } : Room) s m #[(.ref a1), (.int p1), (.int (0 : Int32)), (.int (1 : Int32))] below meth c s₁ [] 0 0 := Stand.of_body Bd
 have e0 : s₁.heap = h0 := by rw [← hh, Bd.state]; rfl
 have N0 := Fr.nil n0
 have pre0 : ∀ t, Steps p.tables e below (s₁.setTop (mkF m 0 #[.val (.ref a1), .val (.int p1), .val (.int (0 : Int32)), .val (.int (1 : Int32)), .unset, .unset] [])) t → Steps p.tables e below (s₁.setTop (entryFrame m #[(.ref a1), (.int p1), (.int (0 : Int32)), (.int (1 : Int32))] 6)) t := fun t k => castTop (ef_lc1 m a1 p1 (0 : Int32) (1 : Int32)) k
 have Vc1 := As
 obtain ⟨cl1, Ar1, qq1, sz1, nn1, Ha1, Gf1⟩ := Vc1
 have hin1 : ¬ ((0 : Int32) < 0 ∨ cl1.slots.size ≤ ((0 : Int32)).toNatClampNeg) := inb_of sz1 ⟨by decide, by decide⟩
 have pre2 : ∀ t, Steps p.tables e below (s₁.setTop (mkF m 19 #[.val (.ref a1), .val (.int p1), .val (.int (0 : Int32)), .val (.int (1 : Int32)), .val (.int (p1.toInt8.toInt32)), .val (.int (0 : Int32))] [(.int (p1.toInt8.toInt32)), (.int (StrChars.lo8 c0))])) t → Steps p.tables e below (s₁.setTop (entryFrame m #[(.ref a1), (.int p1), (.int (0 : Int32)), (.int (1 : Int32))] 6)) t := fun t k => pre0 t (by
  show Steps p.tables e below (s₁.setTop (mkF m 0 #[.val (.ref a1), .val (.int p1), .val (.int (0 : Int32)), .val (.int (1 : Int32)), .unset, .unset] [])) _
  refine XS.iloadN X0.here hx rfl (hb hby d19_0) rfl ?_
  refine XS.i2b X0.here hx rfl (hb hby d19_1) rfl ?_
  refine XS.istore X0.here hx rfl (hb hby d19_2) rfl (l' := #[.val (.ref a1), .val (.int p1), .val (.int (0 : Int32)), .val (.int (1 : Int32)), .val (.int (p1.toInt8.toInt32)), .unset]) rfl ?_
  refine XS.iloadN X0.here hx rfl (hb hby d19_4) rfl ?_
  refine XS.istore X0.here hx rfl (hb hby d19_5) rfl (l' := #[.val (.ref a1), .val (.int p1), .val (.int (0 : Int32)), .val (.int (1 : Int32)), .val (.int (p1.toInt8.toInt32)), .val (.int (0 : Int32))]) rfl ?_
  refine XS.iload X0.here hx rfl (hb hby d19_7) rfl ?_
  refine XS.iloadN X0.here hx rfl (hb hby d19_9) rfl ?_
  refine XS.icmpNo X0.here hx rfl (hb hby d19_10) rfl (tlt (by decide : (0 : Int32) < (1 : Int32))).2.1 ?_
  refine XS.aloadN X0.here hx rfl (hb hby d19_13) rfl rfl ?_
  refine XS.iload X0.here hx rfl (hb hby d19_14) rfl ?_
  refine X0.baloadBytes hx (j := (0 : Int32)) (v := (.int (StrChars.lo8 c0))) (by rw [e0]; exact Ar1.1) (State.isArrayOf_alike hZ.alike Ar1.2.1) Ar1.2.2 hin1 (Has.at Ha1 hin1 rfl) (g := (mkF m 16 #[.val (.ref a1), .val (.int p1), .val (.int (0 : Int32)), .val (.int (1 : Int32)), .val (.int (p1.toInt8.toInt32)), .val (.int (0 : Int32))] [(.int (0 : Int32)), (.ref a1)])) rfl rfl (hb hby d19_16) _ ?_
  refine XS.iload X0.here hx rfl (hb hby d19_17) rfl ?_
  exact k)
 by_cases hc19 : (StrChars.lo8 c0) = (p1.toInt8.toInt32)
 ·have pre3 : ∀ t, Steps p.tables e below (s₁.setTop (mkF m 24 #[.val (.ref a1), .val (.int p1), .val (.int (0 : Int32)), .val (.int (1 : Int32)), .val (.int (p1.toInt8.toInt32)), .val (.int (0 : Int32))] [(.int (0 : Int32))])) t → Steps p.tables e below (s₁.setTop (entryFrame m #[(.ref a1), (.int p1), (.int (0 : Int32)), (.int (1 : Int32))] 6)) t := fun t k => pre2 t (by
   show Steps p.tables e below (s₁.setTop (mkF m 19 #[.val (.ref a1), .val (.int p1), .val (.int (0 : Int32)), .val (.int (1 : Int32)), .val (.int (p1.toInt8.toInt32)), .val (.int (0 : Int32))] [(.int (p1.toInt8.toInt32)), (.int (StrChars.lo8 c0))])) _
   refine XS.icmpNo X0.here hx rfl (hb hby d19_19) rfl (teq hc19).2 ?_
   refine XS.iload X0.here hx rfl (hb hby d19_22) rfl ?_
   exact k)
  obtain ⟨fs4, hr4, hrun4, hended4, hW4, hsame4⟩ := X0.leave (v := some (.int (0 : Int32))) (fun h => by rw [Bd.returns] at h; cases h)
  refine ⟨_, _, pre3 _ ?_, hrun4, hended4, _, _, rfl, ?_, ⟨_, rfl⟩, hW4, hsame4.mono (by decide) (by decide)⟩
  ·show Steps p.tables e below (s₁.setTop (mkF m 24 #[.val (.ref a1), .val (.int p1), .val (.int (0 : Int32)), .val (.int (1 : Int32)), .val (.int (p1.toInt8.toInt32)), .val (.int (0 : Int32))] [(.int (0 : Int32))])) _
   exact retOut X0 hx (t := .int) Bd.returns rfl (Or.inl ⟨rfl, Or.inl rfl, _, rfl⟩) (hb hby d19_24) hr4
  ·show Qlc1 Z a1 k1 c0 p1 h0 n0 _ s₁.heap _
   rw [e0]
   exact ⟨_, rfl, N0, rfl, fun q => absurd q (by decide), fun q => absurd (((own_l8 ⟨hb0.1, hl0⟩ hp).mp hc19)) q⟩
 have pre5 : ∀ t, Steps p.tables e below (s₁.setTop (mkF m 32 #[.val (.ref a1), .val (.int p1), .val (.int (0 : Int32)), .val (.int (1 : Int32)), .val (.int (p1.toInt8.toInt32)), .val (.int (1 : Int32))] [(.int (-1 : Int32))])) t → Steps p.tables e below (s₁.setTop (entryFrame m #[(.ref a1), (.int p1), (.int (0 : Int32)), (.int (1 : Int32))] 6)) t := fun t k => pre2 t (by
  show Steps p.tables e below (s₁.setTop (mkF m 19 #[.val (.ref a1), .val (.int p1), .val (.int (0 : Int32)), .val (.int (1 : Int32)), .val (.int (p1.toInt8.toInt32)), .val (.int (0 : Int32))] [(.int (p1.toInt8.toInt32)), (.int (StrChars.lo8 c0))])) _
  refine XS.icmpYes X0.here hx rfl (pc0 := 19) (pc' := 25) rfl (hb hby d19_19) rfl (feq hc19).2 (by decide) (by decide) ?_
  refine XS.iinc X0.here hx rfl (hb hby d19_25) rfl (l' := #[.val (.ref a1), .val (.int p1), .val (.int (0 : Int32)), .val (.int (1 : Int32)), .val (.int (p1.toInt8.toInt32)), .val (.int ((0 : Int32) + (1 : Int32)))]) rfl ?_
  show Steps p.tables e below (s₁.setTop (mkF m 28 #[.val (.ref a1), .val (.int p1), .val (.int (0 : Int32)), .val (.int (1 : Int32)), .val (.int (p1.toInt8.toInt32)), .val (.int ((0 : Int32) + (1 : Int32)))] [])) _
  rw [show ((0 : Int32) + (1 : Int32)) = (1 : Int32) from by decide]
  refine XS.goto X0.here hx rfl (pc0 := 28) (pc' := 7) rfl (hb hby d19_28) (by decide) (by decide) ?_
  refine XS.iload X0.here hx rfl (hb hby d19_7) rfl ?_
  refine XS.iloadN X0.here hx rfl (hb hby d19_9) rfl ?_
  refine XS.icmpYes X0.here hx rfl (pc0 := 10) (pc' := 31) rfl (hb hby d19_10) rfl (flt (by decide : ¬ ((1 : Int32) < (1 : Int32)))).2.1 (by decide) (by decide) ?_
  refine XS.iconst X0.here hx rfl (hb hby d19_31) ?_
  exact k)
 obtain ⟨fs6, hr6, hrun6, hended6, hW6, hsame6⟩ := X0.leave (v := some (.int (-1 : Int32))) (fun h => by rw [Bd.returns] at h; cases h)
 refine ⟨_, _, pre5 _ ?_, hrun6, hended6, _, _, rfl, ?_, ⟨_, rfl⟩, hW6, hsame6.mono (by decide) (by decide)⟩
 ·show Steps p.tables e below (s₁.setTop (mkF m 32 #[.val (.ref a1), .val (.int p1), .val (.int (0 : Int32)), .val (.int (1 : Int32)), .val (.int (p1.toInt8.toInt32)), .val (.int (1 : Int32))] [(.int (-1 : Int32))])) _
  exact retOut X0 hx (t := .int) Bd.returns rfl (Or.inl ⟨rfl, Or.inl rfl, _, rfl⟩) (hb hby d19_32) hr6
 ·show Qlc1 Z a1 k1 c0 p1 h0 n0 _ s₁.heap _
  rw [e0]
  exact ⟨_, rfl, N0, rfl, fun _ q => by
   exact hc19 ((own_l8 ⟨hb0.1, hl0⟩ hp).mpr q), fun _ => by decide⟩

theorem d31_0 : decode jdk_52_method_48_code 0 = .ok (.iload_n 2, 1) := by decide +kernel
theorem d31_1 : decode jdk_52_method_48_code 1 = .ok (.istore 4, 2) := by decide +kernel
theorem d31_3 : decode jdk_52_method_48_code 3 = .ok (.iload 4, 2) := by decide +kernel
theorem d31_5 : decode jdk_52_method_48_code 5 = .ok (.iload_n 3, 1) := by decide +kernel
theorem d31_6 : decode jdk_52_method_48_code 6 = .ok (.if_icmp .ge 22, 3) := by decide +kernel
theorem d31_9 : decode jdk_52_method_48_code 9 = .ok (.aload_n 0, 1) := by decide +kernel
theorem d31_10 : decode jdk_52_method_48_code 10 = .ok (.iload 4, 2) := by decide +kernel
theorem d31_12 : decode jdk_52_method_48_code 12 = .ok (.invokestatic 71, 3) := by decide +kernel
theorem d31_15 : decode jdk_52_method_48_code 15 = .ok (.iload_n 1, 1) := by decide +kernel
theorem d31_16 : decode jdk_52_method_48_code 16 = .ok (.if_icmp .ne 6, 3) := by decide +kernel
theorem d31_19 : decode jdk_52_method_48_code 19 = .ok (.iload 4, 2) := by decide +kernel
theorem d31_21 : decode jdk_52_method_48_code 21 = .ok (.ireturn, 1) := by decide +kernel
theorem d31_22 : decode jdk_52_method_48_code 22 = .ok (.iinc 4 1, 3) := by decide +kernel
theorem d31_25 : decode jdk_52_method_48_code 25 = .ok (.goto (-22), 3) := by decide +kernel
theorem d31_28 : decode jdk_52_method_48_code 28 = .ok (.iconst (-1), 1) := by decide +kernel
theorem d31_29 : decode jdk_52_method_48_code 29 = .ok (.ireturn, 1) := by decide +kernel


theorem ef_uu1 (m : MethodId) (x0 : Addr) (x1 : Int32) (x2 : Int32) (x3 : Int32)  : entryFrame m #[(.ref x0), (.int x1), (.int x2), (.int x3)] 5 = mkF m 0 #[.val (.ref x0), .val (.int x1), .val (.int x2), .val (.int x3), .unset] [] := by first | (simp [entryFrame, mkF, argsToLocals, Value.category]; done) | rfl
def Quu1 (Z : State) (a1 : Addr) (k1 : ClassId) (c0 : Int32) (p1 : Int32) (h0 : Heap) (n0 : Nat) (v : Option Value) (h : Heap) (L : List Loc) : Prop := own_QI h0 n0 (c0 = p1) v h L
set_option maxRecDepth 65536 in
set_option maxHeartbeats 40000000 in
theorem rmuu1 (l : Launch) (Z : State) (a0 : Array Value) (hw : ∀ d ∈ tables_1, d.before a0 Z = true) (ws : List Jvm.Cond) (a1 : Addr) (k1 : ClassId) (c0 : Int32) (p1 : Int32) (h0 : Heap) (n0 : Nat) (Z0 : n0 ≤ h0.size) (As : Arv Z h0 a1 k1 .byte (2 : Int32) (StrChars.Road.wideBytes [c0]) (.int 0)) (EN : own_env Z h0) (hb0 : own_b c0) :
  own_M l Z own_z22 jdk_52_method_48_code 5 (some .int) ({ frames := 1, cells := 0, slots := 0, locals := 13 } : Room) ws #[(.ref a1), (.int p1), (.int (0 : Int32)), (.int (1 : Int32))] h0 (Quu1 Z a1 k1 c0 p1 h0 n0) := by
 refine MetFree.of_bodySF (plainFor_of_name pn_k5) hisR ?_
 intro p e s m args below meth c s₁ Bd hml0 hP hK
 obtain ⟨rfl, hZ, hh⟩ := hP
 have hx := Bd.exec
 have hby := Bd.bytes
 have hml : c.maxLocals = 5 := hml0
 have hown : s.vm.findClass "java/lang/StringUTF16" = some m.cls := findClass_of_methodNamed Bd.named
 have hnm := (name_of_methodNamed Bd.named Bd.method).1
 have X0 : Stand p l e ({ frames := 1, cells := 0, slots := 0, locals := 13 } : Room) s m #[(.ref a1), (.int p1), (.int (0 : Int32)), (.int (1 : Int32))] below meth c s₁ [] 0 0 := Stand.of_body Bd
 have e0 : s₁.heap = h0 := by rw [← hh, Bd.state]; rfl
 have N0 := Fr.nil n0
 have pre0 : ∀ t, Steps p.tables e below (s₁.setTop (mkF m 0 #[.val (.ref a1), .val (.int p1), .val (.int (0 : Int32)), .val (.int (1 : Int32)), .unset] [])) t → Steps p.tables e below (s₁.setTop (entryFrame m #[(.ref a1), (.int p1), (.int (0 : Int32)), (.int (1 : Int32))] 5)) t := fun t k => castTop (ef_uu1 m a1 p1 (0 : Int32) (1 : Int32)) k
 have Vc1 := As
 obtain ⟨cl1, Ar1, qq1, sz1, nn1, Ha1, Gf1⟩ := Vc1
 have r0_1 : own_rd cl1 ((0 : Int32) <<< ((1 : Int32) &&& 31)) (StrChars.lo8 c0) := own_rdOf sz1 Ha1 ⟨by decide, by decide⟩ (by rw [show (((0 : Int32) <<< ((1 : Int32) &&& 31))).toNatClampNeg = 0 from by decide]; rfl)
 have r1_1 : own_rd cl1 (((0 : Int32) <<< ((1 : Int32) &&& 31)) + (1 : Int32)) (StrChars.hi8 c0) := own_rdOf sz1 Ha1 ⟨by decide, by decide⟩ (by rw [show ((((0 : Int32) <<< ((1 : Int32) &&& 31)) + (1 : Int32))).toNatClampNeg = 1 from by decide]; rfl)
 obtain ⟨_, _, ⟨T2, L2, k2, n2⟩, -, X2, ⟨Lc2, hQ2, l2, y2, z2⟩, st2⟩ := Jvm.LawKit.callS X0 hx (y := own_z10) hown (mvT hZ (wd104 hw)) (mvT hZ (wd105 hw)) (mvT hZ (wd74 hw)) (mvT hZ (wd106 hw)) (by decide) (backOf (W := 0) (rmgc l Z a0 hw [] a1 cl1 (0 : Int32) (StrChars.lo8 c0) (StrChars.hi8 c0) c0 h0 n0 Z0 EN (own_gcv hb0) Ar1 r0_1 r1_1) hZ (wd106 hw) (wd74 hw) (by decide) (by decide)) (g := (mkF m 12 #[.val (.ref a1), .val (.int p1), .val (.int (0 : Int32)), .val (.int (1 : Int32)), .val (.int (0 : Int32))] [(.int (0 : Int32)), (.ref a1)])) rfl (by rw [hml]; rfl) (argsL := [(.ref a1), (.int (0 : Int32))]) (rest := []) (lenOf pd_gc rfl) rfl (by show 2 * 0 + _ ≤ _; exact Nat.le_of_eq rfl) (hb hby d31_12) (fun _ _ => ⟨rfl, e0, (by decide : 0 + 0 ≤ _), (by decide : 0 + 0 ≤ _)⟩)
 dsimp only [Pt.U, Pt.locs, Pt.cells, Pt.slots] at X2 l2 y2 z2 st2 hQ2
 subst l2 y2 z2
 obtain ⟨rfl, N2q, q2⟩ := hQ2
 have N2 := Fr.app N0 N2q
 have pre3 : ∀ t, Steps p.tables e below (T2.setTop (mkF m 16 #[.val (.ref a1), .val (.int p1), .val (.int (0 : Int32)), .val (.int (1 : Int32)), .val (.int (0 : Int32))] [(.int p1), (.int c0)])) t → Steps p.tables e below (s₁.setTop (entryFrame m #[(.ref a1), (.int p1), (.int (0 : Int32)), (.int (1 : Int32))] 5)) t := fun t k => pre0 t (by
  show Steps p.tables e below (s₁.setTop (mkF m 0 #[.val (.ref a1), .val (.int p1), .val (.int (0 : Int32)), .val (.int (1 : Int32)), .unset] [])) _
  refine XS.iloadN X0.here hx rfl (hb hby d31_0) rfl ?_
  refine XS.istore X0.here hx rfl (hb hby d31_1) rfl (l' := #[.val (.ref a1), .val (.int p1), .val (.int (0 : Int32)), .val (.int (1 : Int32)), .val (.int (0 : Int32))]) rfl ?_
  refine XS.iload X0.here hx rfl (hb hby d31_3) rfl ?_
  refine XS.iloadN X0.here hx rfl (hb hby d31_5) rfl ?_
  refine XS.icmpNo X0.here hx rfl (hb hby d31_6) rfl (tlt (by decide : (0 : Int32) < (1 : Int32))).2.1 ?_
  refine XS.aloadN X0.here hx rfl (hb hby d31_9) rfl rfl ?_
  refine XS.iload X0.here hx rfl (hb hby d31_10) rfl ?_
  refine st2 _ ?_
  refine XS.iloadN X2.here hx rfl (hb hby d31_15) rfl ?_
  exact k)
 by_cases hc16 : c0 = p1
 ·have pre4 : ∀ t, Steps p.tables e below (T2.setTop (mkF m 21 #[.val (.ref a1), .val (.int p1), .val (.int (0 : Int32)), .val (.int (1 : Int32)), .val (.int (0 : Int32))] [(.int (0 : Int32))])) t → Steps p.tables e below (s₁.setTop (entryFrame m #[(.ref a1), (.int p1), (.int (0 : Int32)), (.int (1 : Int32))] 5)) t := fun t k => pre3 t (by
   show Steps p.tables e below (T2.setTop (mkF m 16 #[.val (.ref a1), .val (.int p1), .val (.int (0 : Int32)), .val (.int (1 : Int32)), .val (.int (0 : Int32))] [(.int p1), (.int c0)])) _
   refine XS.icmpNo X2.here hx rfl (hb hby d31_16) rfl (teq hc16).2 ?_
   refine XS.iload X2.here hx rfl (hb hby d31_19) rfl ?_
   exact k)
  obtain ⟨fs5, hr5, hrun5, hended5, hW5, hsame5⟩ := X2.leave (v := some (.int (0 : Int32))) (fun h => by rw [Bd.returns] at h; cases h)
  refine ⟨_, _, pre4 _ ?_, hrun5, hended5, _, _, rfl, ?_, ⟨_, rfl⟩, hW5, hsame5.mono (by decide) (by decide)⟩
  ·show Steps p.tables e below (T2.setTop (mkF m 21 #[.val (.ref a1), .val (.int p1), .val (.int (0 : Int32)), .val (.int (1 : Int32)), .val (.int (0 : Int32))] [(.int (0 : Int32))])) _
   exact retOut X2 hx (t := .int) Bd.returns rfl (Or.inl ⟨rfl, Or.inl rfl, _, rfl⟩) (hb hby d31_21) hr5
  ·show Quu1 Z a1 k1 c0 p1 h0 n0 _ T2.heap _
   rw [q2]
   exact ⟨_, rfl, N2, rfl, fun q => absurd q (by decide), fun q => absurd (hc16) q⟩
 have pre6 : ∀ t, Steps p.tables e below (T2.setTop (mkF m 29 #[.val (.ref a1), .val (.int p1), .val (.int (0 : Int32)), .val (.int (1 : Int32)), .val (.int (1 : Int32))] [(.int (-1 : Int32))])) t → Steps p.tables e below (s₁.setTop (entryFrame m #[(.ref a1), (.int p1), (.int (0 : Int32)), (.int (1 : Int32))] 5)) t := fun t k => pre3 t (by
  show Steps p.tables e below (T2.setTop (mkF m 16 #[.val (.ref a1), .val (.int p1), .val (.int (0 : Int32)), .val (.int (1 : Int32)), .val (.int (0 : Int32))] [(.int p1), (.int c0)])) _
  refine XS.icmpYes X2.here hx rfl (pc0 := 16) (pc' := 22) rfl (hb hby d31_16) rfl (feq hc16).2 (by decide) (by decide) ?_
  refine XS.iinc X2.here hx rfl (hb hby d31_22) rfl (l' := #[.val (.ref a1), .val (.int p1), .val (.int (0 : Int32)), .val (.int (1 : Int32)), .val (.int ((0 : Int32) + (1 : Int32)))]) rfl ?_
  show Steps p.tables e below (T2.setTop (mkF m 25 #[.val (.ref a1), .val (.int p1), .val (.int (0 : Int32)), .val (.int (1 : Int32)), .val (.int ((0 : Int32) + (1 : Int32)))] [])) _
  rw [show ((0 : Int32) + (1 : Int32)) = (1 : Int32) from by decide]
  refine XS.goto X2.here hx rfl (pc0 := 25) (pc' := 3) rfl (hb hby d31_25) (by decide) (by decide) ?_
  refine XS.iload X2.here hx rfl (hb hby d31_3) rfl ?_
  refine XS.iloadN X2.here hx rfl (hb hby d31_5) rfl ?_
  refine XS.icmpYes X2.here hx rfl (pc0 := 6) (pc' := 28) rfl (hb hby d31_6) rfl (flt (by decide : ¬ ((1 : Int32) < (1 : Int32)))).2.1 (by decide) (by decide) ?_
  refine XS.iconst X2.here hx rfl (hb hby d31_28) ?_
  exact k)
 obtain ⟨fs7, hr7, hrun7, hended7, hW7, hsame7⟩ := X2.leave (v := some (.int (-1 : Int32))) (fun h => by rw [Bd.returns] at h; cases h)
 refine ⟨_, _, pre6 _ ?_, hrun7, hended7, _, _, rfl, ?_, ⟨_, rfl⟩, hW7, hsame7.mono (by decide) (by decide)⟩
 ·show Steps p.tables e below (T2.setTop (mkF m 29 #[.val (.ref a1), .val (.int p1), .val (.int (0 : Int32)), .val (.int (1 : Int32)), .val (.int (1 : Int32))] [(.int (-1 : Int32))])) _
  exact retOut X2 hx (t := .int) Bd.returns rfl (Or.inl ⟨rfl, Or.inl rfl, _, rfl⟩) (hb hby d31_29) hr7
 ·show Quu1 Z a1 k1 c0 p1 h0 n0 _ T2.heap _
  rw [q2]
  exact ⟨_, rfl, N2, rfl, fun _ q => by
   exact hc16 q, fun _ => by decide⟩


def Qlc2 (Z : State) (a1 : Addr) (k1 : ClassId) (c0 c1 : Int32) (p1 : Int32) (h0 : Heap) (n0 : Nat) (v : Option Value) (h : Heap) (L : List Loc) : Prop := own_QI h0 n0 (c0 = p1 ∨ c1 = p1) v h L
set_option maxRecDepth 65536 in
set_option maxHeartbeats 40000000 in
theorem rmlc2 (l : Launch) (Z : State) (a0 : Array Value) (hw : ∀ d ∈ tables_1, d.before a0 Z = true) (ws : List Jvm.Cond) (a1 : Addr) (k1 : ClassId) (c0 c1 : Int32) (p1 : Int32) (h0 : Heap) (n0 : Nat) (Z0 : n0 ≤ h0.size) (As : Arv Z h0 a1 k1 .byte (2 : Int32) ([c0, c1].map fun c => Value.int (StrChars.lo8 c)) (.int 0)) (hb0 : own_b c0) (hb1 : own_b c1) (hl0 : ¬ (255 : Int32) < c0) (hl1 : ¬ (255 : Int32) < c1) (hp : ¬ p1 < 0 ∧ ¬ (255 : Int32) < p1) :
  own_M l Z own_z20 jdk_43_method_23_code 6 (some .int) ({ frames := 0, cells := 0, slots := 0, locals := 0 } : Room) ws #[(.ref a1), (.int p1), (.int (0 : Int32)), (.int (2 : Int32))] h0 (Qlc2 Z a1 k1 c0 c1 p1 h0 n0) := by
 refine MetFree.of_bodySF (plainFor_of_name pn_k4) hisR ?_
 intro p e s m args below meth c s₁ Bd hml0 hP hK
 obtain ⟨rfl, hZ, hh⟩ := hP
 have hx := Bd.exec
 have hby := Bd.bytes
 have hml : c.maxLocals = 6 := hml0
 have hown : s.vm.findClass "java/lang/StringLatin1" = some m.cls := findClass_of_methodNamed Bd.named
 have hnm := (name_of_methodNamed Bd.named Bd.method).1
 have X0 : Stand p l e ({ frames := 0, cells := 0, slots := 0, locals := 0 } : Room) s m #[(.ref a1), (.int p1), (.int (0 : Int32)), (.int (2 : Int32))] below meth c s₁ [] 0 0 := Stand.of_body Bd
 have e0 : s₁.heap = h0 := by rw [← hh, Bd.state]; rfl
 have N0 := Fr.nil n0
 have pre0 : ∀ t, Steps p.tables e below (s₁.setTop (mkF m 0 #[.val (.ref a1), .val (.int p1), .val (.int (0 : Int32)), .val (.int (2 : Int32)), .unset, .unset] [])) t → Steps p.tables e below (s₁.setTop (entryFrame m #[(.ref a1), (.int p1), (.int (0 : Int32)), (.int (2 : Int32))] 6)) t := fun t k => castTop (ef_lc1 m a1 p1 (0 : Int32) (2 : Int32)) k
 have Vc1 := As
 obtain ⟨cl1, Ar1, qq1, sz1, nn1, Ha1, Gf1⟩ := Vc1
 have hin1 : ¬ ((0 : Int32) < 0 ∨ cl1.slots.size ≤ ((0 : Int32)).toNatClampNeg) := inb_of sz1 ⟨by decide, by decide⟩
 have pre2 : ∀ t, Steps p.tables e below (s₁.setTop (mkF m 19 #[.val (.ref a1), .val (.int p1), .val (.int (0 : Int32)), .val (.int (2 : Int32)), .val (.int (p1.toInt8.toInt32)), .val (.int (0 : Int32))] [(.int (p1.toInt8.toInt32)), (.int (StrChars.lo8 c0))])) t → Steps p.tables e below (s₁.setTop (entryFrame m #[(.ref a1), (.int p1), (.int (0 : Int32)), (.int (2 : Int32))] 6)) t := fun t k => pre0 t (by
  show Steps p.tables e below (s₁.setTop (mkF m 0 #[.val (.ref a1), .val (.int p1), .val (.int (0 : Int32)), .val (.int (2 : Int32)), .unset, .unset] [])) _
  refine XS.iloadN X0.here hx rfl (hb hby d19_0) rfl ?_
  refine XS.i2b X0.here hx rfl (hb hby d19_1) rfl ?_
  refine XS.istore X0.here hx rfl (hb hby d19_2) rfl (l' := #[.val (.ref a1), .val (.int p1), .val (.int (0 : Int32)), .val (.int (2 : Int32)), .val (.int (p1.toInt8.toInt32)), .unset]) rfl ?_
  refine XS.iloadN X0.here hx rfl (hb hby d19_4) rfl ?_
  refine XS.istore X0.here hx rfl (hb hby d19_5) rfl (l' := #[.val (.ref a1), .val (.int p1), .val (.int (0 : Int32)), .val (.int (2 : Int32)), .val (.int (p1.toInt8.toInt32)), .val (.int (0 : Int32))]) rfl ?_
  refine XS.iload X0.here hx rfl (hb hby d19_7) rfl ?_
  refine XS.iloadN X0.here hx rfl (hb hby d19_9) rfl ?_
  refine XS.icmpNo X0.here hx rfl (hb hby d19_10) rfl (tlt (by decide : (0 : Int32) < (2 : Int32))).2.1 ?_
  refine XS.aloadN X0.here hx rfl (hb hby d19_13) rfl rfl ?_
  refine XS.iload X0.here hx rfl (hb hby d19_14) rfl ?_
  refine X0.baloadBytes hx (j := (0 : Int32)) (v := (.int (StrChars.lo8 c0))) (by rw [e0]; exact Ar1.1) (State.isArrayOf_alike hZ.alike Ar1.2.1) Ar1.2.2 hin1 (Has.at Ha1 hin1 rfl) (g := (mkF m 16 #[.val (.ref a1), .val (.int p1), .val (.int (0 : Int32)), .val (.int (2 : Int32)), .val (.int (p1.toInt8.toInt32)), .val (.int (0 : Int32))] [(.int (0 : Int32)), (.ref a1)])) rfl rfl (hb hby d19_16) _ ?_
  refine XS.iload X0.here hx rfl (hb hby d19_17) rfl ?_
  exact k)
 by_cases hc19 : (StrChars.lo8 c0) = (p1.toInt8.toInt32)
 ·have pre3 : ∀ t, Steps p.tables e below (s₁.setTop (mkF m 24 #[.val (.ref a1), .val (.int p1), .val (.int (0 : Int32)), .val (.int (2 : Int32)), .val (.int (p1.toInt8.toInt32)), .val (.int (0 : Int32))] [(.int (0 : Int32))])) t → Steps p.tables e below (s₁.setTop (entryFrame m #[(.ref a1), (.int p1), (.int (0 : Int32)), (.int (2 : Int32))] 6)) t := fun t k => pre2 t (by
   show Steps p.tables e below (s₁.setTop (mkF m 19 #[.val (.ref a1), .val (.int p1), .val (.int (0 : Int32)), .val (.int (2 : Int32)), .val (.int (p1.toInt8.toInt32)), .val (.int (0 : Int32))] [(.int (p1.toInt8.toInt32)), (.int (StrChars.lo8 c0))])) _
   refine XS.icmpNo X0.here hx rfl (hb hby d19_19) rfl (teq hc19).2 ?_
   refine XS.iload X0.here hx rfl (hb hby d19_22) rfl ?_
   exact k)
  obtain ⟨fs4, hr4, hrun4, hended4, hW4, hsame4⟩ := X0.leave (v := some (.int (0 : Int32))) (fun h => by rw [Bd.returns] at h; cases h)
  refine ⟨_, _, pre3 _ ?_, hrun4, hended4, _, _, rfl, ?_, ⟨_, rfl⟩, hW4, hsame4.mono (by decide) (by decide)⟩
  ·show Steps p.tables e below (s₁.setTop (mkF m 24 #[.val (.ref a1), .val (.int p1), .val (.int (0 : Int32)), .val (.int (2 : Int32)), .val (.int (p1.toInt8.toInt32)), .val (.int (0 : Int32))] [(.int (0 : Int32))])) _
   exact retOut X0 hx (t := .int) Bd.returns rfl (Or.inl ⟨rfl, Or.inl rfl, _, rfl⟩) (hb hby d19_24) hr4
  ·show Qlc2 Z a1 k1 c0 c1 p1 h0 n0 _ s₁.heap _
   rw [e0]
   exact ⟨_, rfl, N0, rfl, fun q => absurd q (by decide), fun q => absurd (Or.inl ((own_l8 ⟨hb0.1, hl0⟩ hp).mp hc19)) q⟩
 have Vc5 := As
 obtain ⟨cl5, Ar5, qq5, sz5, nn5, Ha5, Gf5⟩ := Vc5
 have hin5 : ¬ ((1 : Int32) < 0 ∨ cl5.slots.size ≤ ((1 : Int32)).toNatClampNeg) := inb_of sz5 ⟨by decide, by decide⟩
 have pre6 : ∀ t, Steps p.tables e below (s₁.setTop (mkF m 19 #[.val (.ref a1), .val (.int p1), .val (.int (0 : Int32)), .val (.int (2 : Int32)), .val (.int (p1.toInt8.toInt32)), .val (.int (1 : Int32))] [(.int (p1.toInt8.toInt32)), (.int (StrChars.lo8 c1))])) t → Steps p.tables e below (s₁.setTop (entryFrame m #[(.ref a1), (.int p1), (.int (0 : Int32)), (.int (2 : Int32))] 6)) t := fun t k => pre2 t (by
  show Steps p.tables e below (s₁.setTop (mkF m 19 #[.val (.ref a1), .val (.int p1), .val (.int (0 : Int32)), .val (.int (2 : Int32)), .val (.int (p1.toInt8.toInt32)), .val (.int (0 : Int32))] [(.int (p1.toInt8.toInt32)), (.int (StrChars.lo8 c0))])) _
  refine XS.icmpYes X0.here hx rfl (pc0 := 19) (pc' := 25) rfl (hb hby d19_19) rfl (feq hc19).2 (by decide) (by decide) ?_
  refine XS.iinc X0.here hx rfl (hb hby d19_25) rfl (l' := #[.val (.ref a1), .val (.int p1), .val (.int (0 : Int32)), .val (.int (2 : Int32)), .val (.int (p1.toInt8.toInt32)), .val (.int ((0 : Int32) + (1 : Int32)))]) rfl ?_
  show Steps p.tables e below (s₁.setTop (mkF m 28 #[.val (.ref a1), .val (.int p1), .val (.int (0 : Int32)), .val (.int (2 : Int32)), .val (.int (p1.toInt8.toInt32)), .val (.int ((0 : Int32) + (1 : Int32)))] [])) _
  rw [show ((0 : Int32) + (1 : Int32)) = (1 : Int32) from by decide]
  refine XS.goto X0.here hx rfl (pc0 := 28) (pc' := 7) rfl (hb hby d19_28) (by decide) (by decide) ?_
  refine XS.iload X0.here hx rfl (hb hby d19_7) rfl ?_
  refine XS.iloadN X0.here hx rfl (hb hby d19_9) rfl ?_
  refine XS.icmpNo X0.here hx rfl (hb hby d19_10) rfl (tlt (by decide : (1 : Int32) < (2 : Int32))).2.1 ?_
  refine XS.aloadN X0.here hx rfl (hb hby d19_13) rfl rfl ?_
  refine XS.iload X0.here hx rfl (hb hby d19_14) rfl ?_
  refine X0.baloadBytes hx (j := (1 : Int32)) (v := (.int (StrChars.lo8 c1))) (by rw [e0]; exact Ar5.1) (State.isArrayOf_alike hZ.alike Ar5.2.1) Ar5.2.2 hin5 (Has.at Ha5 hin5 rfl) (g := (mkF m 16 #[.val (.ref a1), .val (.int p1), .val (.int (0 : Int32)), .val (.int (2 : Int32)), .val (.int (p1.toInt8.toInt32)), .val (.int (1 : Int32))] [(.int (1 : Int32)), (.ref a1)])) rfl rfl (hb hby d19_16) _ ?_
  refine XS.iload X0.here hx rfl (hb hby d19_17) rfl ?_
  exact k)
 by_cases hc19_7 : (StrChars.lo8 c1) = (p1.toInt8.toInt32)
 ·have pre8 : ∀ t, Steps p.tables e below (s₁.setTop (mkF m 24 #[.val (.ref a1), .val (.int p1), .val (.int (0 : Int32)), .val (.int (2 : Int32)), .val (.int (p1.toInt8.toInt32)), .val (.int (1 : Int32))] [(.int (1 : Int32))])) t → Steps p.tables e below (s₁.setTop (entryFrame m #[(.ref a1), (.int p1), (.int (0 : Int32)), (.int (2 : Int32))] 6)) t := fun t k => pre6 t (by
   show Steps p.tables e below (s₁.setTop (mkF m 19 #[.val (.ref a1), .val (.int p1), .val (.int (0 : Int32)), .val (.int (2 : Int32)), .val (.int (p1.toInt8.toInt32)), .val (.int (1 : Int32))] [(.int (p1.toInt8.toInt32)), (.int (StrChars.lo8 c1))])) _
   refine XS.icmpNo X0.here hx rfl (hb hby d19_19) rfl (teq hc19_7).2 ?_
   refine XS.iload X0.here hx rfl (hb hby d19_22) rfl ?_
   exact k)
  obtain ⟨fs9, hr9, hrun9, hended9, hW9, hsame9⟩ := X0.leave (v := some (.int (1 : Int32))) (fun h => by rw [Bd.returns] at h; cases h)
  refine ⟨_, _, pre8 _ ?_, hrun9, hended9, _, _, rfl, ?_, ⟨_, rfl⟩, hW9, hsame9.mono (by decide) (by decide)⟩
  ·show Steps p.tables e below (s₁.setTop (mkF m 24 #[.val (.ref a1), .val (.int p1), .val (.int (0 : Int32)), .val (.int (2 : Int32)), .val (.int (p1.toInt8.toInt32)), .val (.int (1 : Int32))] [(.int (1 : Int32))])) _
   exact retOut X0 hx (t := .int) Bd.returns rfl (Or.inl ⟨rfl, Or.inl rfl, _, rfl⟩) (hb hby d19_24) hr9
  ·show Qlc2 Z a1 k1 c0 c1 p1 h0 n0 _ s₁.heap _
   rw [e0]
   exact ⟨_, rfl, N0, rfl, fun q => absurd q (by decide), fun q => absurd (Or.inr (((own_l8 ⟨hb1.1, hl1⟩ hp).mp hc19_7))) q⟩
 have pre10 : ∀ t, Steps p.tables e below (s₁.setTop (mkF m 32 #[.val (.ref a1), .val (.int p1), .val (.int (0 : Int32)), .val (.int (2 : Int32)), .val (.int (p1.toInt8.toInt32)), .val (.int (2 : Int32))] [(.int (-1 : Int32))])) t → Steps p.tables e below (s₁.setTop (entryFrame m #[(.ref a1), (.int p1), (.int (0 : Int32)), (.int (2 : Int32))] 6)) t := fun t k => pre6 t (by
  show Steps p.tables e below (s₁.setTop (mkF m 19 #[.val (.ref a1), .val (.int p1), .val (.int (0 : Int32)), .val (.int (2 : Int32)), .val (.int (p1.toInt8.toInt32)), .val (.int (1 : Int32))] [(.int (p1.toInt8.toInt32)), (.int (StrChars.lo8 c1))])) _
  refine XS.icmpYes X0.here hx rfl (pc0 := 19) (pc' := 25) rfl (hb hby d19_19) rfl (feq hc19_7).2 (by decide) (by decide) ?_
  refine XS.iinc X0.here hx rfl (hb hby d19_25) rfl (l' := #[.val (.ref a1), .val (.int p1), .val (.int (0 : Int32)), .val (.int (2 : Int32)), .val (.int (p1.toInt8.toInt32)), .val (.int ((1 : Int32) + (1 : Int32)))]) rfl ?_
  show Steps p.tables e below (s₁.setTop (mkF m 28 #[.val (.ref a1), .val (.int p1), .val (.int (0 : Int32)), .val (.int (2 : Int32)), .val (.int (p1.toInt8.toInt32)), .val (.int ((1 : Int32) + (1 : Int32)))] [])) _
  rw [show ((1 : Int32) + (1 : Int32)) = (2 : Int32) from by decide]
  refine XS.goto X0.here hx rfl (pc0 := 28) (pc' := 7) rfl (hb hby d19_28) (by decide) (by decide) ?_
  refine XS.iload X0.here hx rfl (hb hby d19_7) rfl ?_
  refine XS.iloadN X0.here hx rfl (hb hby d19_9) rfl ?_
  refine XS.icmpYes X0.here hx rfl (pc0 := 10) (pc' := 31) rfl (hb hby d19_10) rfl (flt (by decide : ¬ ((2 : Int32) < (2 : Int32)))).2.1 (by decide) (by decide) ?_
  refine XS.iconst X0.here hx rfl (hb hby d19_31) ?_
  exact k)
 obtain ⟨fs11, hr11, hrun11, hended11, hW11, hsame11⟩ := X0.leave (v := some (.int (-1 : Int32))) (fun h => by rw [Bd.returns] at h; cases h)
 refine ⟨_, _, pre10 _ ?_, hrun11, hended11, _, _, rfl, ?_, ⟨_, rfl⟩, hW11, hsame11.mono (by decide) (by decide)⟩
 ·show Steps p.tables e below (s₁.setTop (mkF m 32 #[.val (.ref a1), .val (.int p1), .val (.int (0 : Int32)), .val (.int (2 : Int32)), .val (.int (p1.toInt8.toInt32)), .val (.int (2 : Int32))] [(.int (-1 : Int32))])) _
  exact retOut X0 hx (t := .int) Bd.returns rfl (Or.inl ⟨rfl, Or.inl rfl, _, rfl⟩) (hb hby d19_32) hr11
 ·show Qlc2 Z a1 k1 c0 c1 p1 h0 n0 _ s₁.heap _
  rw [e0]
  exact ⟨_, rfl, N0, rfl, fun _ q => by
   rcases q with q | q
   ·exact hc19 ((own_l8 ⟨hb0.1, hl0⟩ hp).mpr q)
   ·exact hc19_7 ((own_l8 ⟨hb1.1, hl1⟩ hp).mpr q), fun _ => by decide⟩


def Quu2 (Z : State) (a1 : Addr) (k1 : ClassId) (c0 c1 : Int32) (p1 : Int32) (h0 : Heap) (n0 : Nat) (v : Option Value) (h : Heap) (L : List Loc) : Prop := own_QI h0 n0 (c0 = p1 ∨ c1 = p1) v h L
set_option maxRecDepth 65536 in
set_option maxHeartbeats 40000000 in
theorem rmuu2 (l : Launch) (Z : State) (a0 : Array Value) (hw : ∀ d ∈ tables_1, d.before a0 Z = true) (ws : List Jvm.Cond) (a1 : Addr) (k1 : ClassId) (c0 c1 : Int32) (p1 : Int32) (h0 : Heap) (n0 : Nat) (Z0 : n0 ≤ h0.size) (As : Arv Z h0 a1 k1 .byte (4 : Int32) (StrChars.Road.wideBytes [c0, c1]) (.int 0)) (EN : own_env Z h0) (hb0 : own_b c0) (hb1 : own_b c1) :
  own_M l Z own_z22 jdk_52_method_48_code 5 (some .int) ({ frames := 1, cells := 0, slots := 0, locals := 13 } : Room) ws #[(.ref a1), (.int p1), (.int (0 : Int32)), (.int (2 : Int32))] h0 (Quu2 Z a1 k1 c0 c1 p1 h0 n0) := by
 refine MetFree.of_bodySF (plainFor_of_name pn_k5) hisR ?_
 intro p e s m args below meth c s₁ Bd hml0 hP hK
 obtain ⟨rfl, hZ, hh⟩ := hP
 have hx := Bd.exec
 have hby := Bd.bytes
 have hml : c.maxLocals = 5 := hml0
 have hown : s.vm.findClass "java/lang/StringUTF16" = some m.cls := findClass_of_methodNamed Bd.named
 have hnm := (name_of_methodNamed Bd.named Bd.method).1
 have X0 : Stand p l e ({ frames := 1, cells := 0, slots := 0, locals := 13 } : Room) s m #[(.ref a1), (.int p1), (.int (0 : Int32)), (.int (2 : Int32))] below meth c s₁ [] 0 0 := Stand.of_body Bd
 have e0 : s₁.heap = h0 := by rw [← hh, Bd.state]; rfl
 have N0 := Fr.nil n0
 have pre0 : ∀ t, Steps p.tables e below (s₁.setTop (mkF m 0 #[.val (.ref a1), .val (.int p1), .val (.int (0 : Int32)), .val (.int (2 : Int32)), .unset] [])) t → Steps p.tables e below (s₁.setTop (entryFrame m #[(.ref a1), (.int p1), (.int (0 : Int32)), (.int (2 : Int32))] 5)) t := fun t k => castTop (ef_uu1 m a1 p1 (0 : Int32) (2 : Int32)) k
 have Vc1 := As
 obtain ⟨cl1, Ar1, qq1, sz1, nn1, Ha1, Gf1⟩ := Vc1
 have r0_1 : own_rd cl1 ((0 : Int32) <<< ((1 : Int32) &&& 31)) (StrChars.lo8 c0) := own_rdOf sz1 Ha1 ⟨by decide, by decide⟩ (by rw [show (((0 : Int32) <<< ((1 : Int32) &&& 31))).toNatClampNeg = 0 from by decide]; rfl)
 have r1_1 : own_rd cl1 (((0 : Int32) <<< ((1 : Int32) &&& 31)) + (1 : Int32)) (StrChars.hi8 c0) := own_rdOf sz1 Ha1 ⟨by decide, by decide⟩ (by rw [show ((((0 : Int32) <<< ((1 : Int32) &&& 31)) + (1 : Int32))).toNatClampNeg = 1 from by decide]; rfl)
 obtain ⟨_, _, ⟨T2, L2, k2, n2⟩, -, X2, ⟨Lc2, hQ2, l2, y2, z2⟩, st2⟩ := Jvm.LawKit.callS X0 hx (y := own_z10) hown (mvT hZ (wd104 hw)) (mvT hZ (wd105 hw)) (mvT hZ (wd74 hw)) (mvT hZ (wd106 hw)) (by decide) (backOf (W := 0) (rmgc l Z a0 hw [] a1 cl1 (0 : Int32) (StrChars.lo8 c0) (StrChars.hi8 c0) c0 h0 n0 Z0 EN (own_gcv hb0) Ar1 r0_1 r1_1) hZ (wd106 hw) (wd74 hw) (by decide) (by decide)) (g := (mkF m 12 #[.val (.ref a1), .val (.int p1), .val (.int (0 : Int32)), .val (.int (2 : Int32)), .val (.int (0 : Int32))] [(.int (0 : Int32)), (.ref a1)])) rfl (by rw [hml]; rfl) (argsL := [(.ref a1), (.int (0 : Int32))]) (rest := []) (lenOf pd_gc rfl) rfl (by show 2 * 0 + _ ≤ _; exact Nat.le_of_eq rfl) (hb hby d31_12) (fun _ _ => ⟨rfl, e0, (by decide : 0 + 0 ≤ _), (by decide : 0 + 0 ≤ _)⟩)
 dsimp only [Pt.U, Pt.locs, Pt.cells, Pt.slots] at X2 l2 y2 z2 st2 hQ2
 subst l2 y2 z2
 obtain ⟨rfl, N2q, q2⟩ := hQ2
 have N2 := Fr.app N0 N2q
 have pre3 : ∀ t, Steps p.tables e below (T2.setTop (mkF m 16 #[.val (.ref a1), .val (.int p1), .val (.int (0 : Int32)), .val (.int (2 : Int32)), .val (.int (0 : Int32))] [(.int p1), (.int c0)])) t → Steps p.tables e below (s₁.setTop (entryFrame m #[(.ref a1), (.int p1), (.int (0 : Int32)), (.int (2 : Int32))] 5)) t := fun t k => pre0 t (by
  show Steps p.tables e below (s₁.setTop (mkF m 0 #[.val (.ref a1), .val (.int p1), .val (.int (0 : Int32)), .val (.int (2 : Int32)), .unset] [])) _
  refine XS.iloadN X0.here hx rfl (hb hby d31_0) rfl ?_
  refine XS.istore X0.here hx rfl (hb hby d31_1) rfl (l' := #[.val (.ref a1), .val (.int p1), .val (.int (0 : Int32)), .val (.int (2 : Int32)), .val (.int (0 : Int32))]) rfl ?_
  refine XS.iload X0.here hx rfl (hb hby d31_3) rfl ?_
  refine XS.iloadN X0.here hx rfl (hb hby d31_5) rfl ?_
  refine XS.icmpNo X0.here hx rfl (hb hby d31_6) rfl (tlt (by decide : (0 : Int32) < (2 : Int32))).2.1 ?_
  refine XS.aloadN X0.here hx rfl (hb hby d31_9) rfl rfl ?_
  refine XS.iload X0.here hx rfl (hb hby d31_10) rfl ?_
  refine st2 _ ?_
  refine XS.iloadN X2.here hx rfl (hb hby d31_15) rfl ?_
  exact k)
 by_cases hc16 : c0 = p1
 ·have pre4 : ∀ t, Steps p.tables e below (T2.setTop (mkF m 21 #[.val (.ref a1), .val (.int p1), .val (.int (0 : Int32)), .val (.int (2 : Int32)), .val (.int (0 : Int32))] [(.int (0 : Int32))])) t → Steps p.tables e below (s₁.setTop (entryFrame m #[(.ref a1), (.int p1), (.int (0 : Int32)), (.int (2 : Int32))] 5)) t := fun t k => pre3 t (by
   show Steps p.tables e below (T2.setTop (mkF m 16 #[.val (.ref a1), .val (.int p1), .val (.int (0 : Int32)), .val (.int (2 : Int32)), .val (.int (0 : Int32))] [(.int p1), (.int c0)])) _
   refine XS.icmpNo X2.here hx rfl (hb hby d31_16) rfl (teq hc16).2 ?_
   refine XS.iload X2.here hx rfl (hb hby d31_19) rfl ?_
   exact k)
  obtain ⟨fs5, hr5, hrun5, hended5, hW5, hsame5⟩ := X2.leave (v := some (.int (0 : Int32))) (fun h => by rw [Bd.returns] at h; cases h)
  refine ⟨_, _, pre4 _ ?_, hrun5, hended5, _, _, rfl, ?_, ⟨_, rfl⟩, hW5, hsame5.mono (by decide) (by decide)⟩
  ·show Steps p.tables e below (T2.setTop (mkF m 21 #[.val (.ref a1), .val (.int p1), .val (.int (0 : Int32)), .val (.int (2 : Int32)), .val (.int (0 : Int32))] [(.int (0 : Int32))])) _
   exact retOut X2 hx (t := .int) Bd.returns rfl (Or.inl ⟨rfl, Or.inl rfl, _, rfl⟩) (hb hby d31_21) hr5
  ·show Quu2 Z a1 k1 c0 c1 p1 h0 n0 _ T2.heap _
   rw [q2]
   exact ⟨_, rfl, N2, rfl, fun q => absurd q (by decide), fun q => absurd (Or.inl hc16) q⟩
 have Vc6 := As
 obtain ⟨cl6, Ar6, qq6, sz6, nn6, Ha6, Gf6⟩ := Vc6
 have r0_6 : own_rd cl6 ((1 : Int32) <<< ((1 : Int32) &&& 31)) (StrChars.lo8 c1) := own_rdOf sz6 Ha6 ⟨by decide, by decide⟩ (by rw [show (((1 : Int32) <<< ((1 : Int32) &&& 31))).toNatClampNeg = 2 from by decide]; rfl)
 have r1_6 : own_rd cl6 (((1 : Int32) <<< ((1 : Int32) &&& 31)) + (1 : Int32)) (StrChars.hi8 c1) := own_rdOf sz6 Ha6 ⟨by decide, by decide⟩ (by rw [show ((((1 : Int32) <<< ((1 : Int32) &&& 31)) + (1 : Int32))).toNatClampNeg = 3 from by decide]; rfl)
 obtain ⟨_, _, ⟨T7, L7, k7, n7⟩, -, X7, ⟨Lc7, hQ7, l7, y7, z7⟩, st7⟩ := Jvm.LawKit.callS X2 hx (y := own_z10) hown (mvT hZ (wd104 hw)) (mvT hZ (wd105 hw)) (mvT hZ (wd74 hw)) (mvT hZ (wd106 hw)) (by decide) (backOf (W := 0) (rmgc l Z a0 hw [] a1 cl6 (1 : Int32) (StrChars.lo8 c1) (StrChars.hi8 c1) c1 h0 n0 Z0 EN (own_gcv hb1) Ar6 r0_6 r1_6) hZ (wd106 hw) (wd74 hw) (by decide) (by decide)) (g := (mkF m 12 #[.val (.ref a1), .val (.int p1), .val (.int (0 : Int32)), .val (.int (2 : Int32)), .val (.int (1 : Int32))] [(.int (1 : Int32)), (.ref a1)])) rfl (by rw [hml]; rfl) (argsL := [(.ref a1), (.int (1 : Int32))]) (rest := []) (lenOf pd_gc rfl) rfl (by show 2 * 0 + _ ≤ _; exact Nat.le_of_eq rfl) (hb hby d31_12) (fun _ _ => ⟨rfl, q2, (by decide : 0 + 0 ≤ _), (by decide : 0 + 0 ≤ _)⟩)
 dsimp only [Pt.U, Pt.locs, Pt.cells, Pt.slots] at X7 l7 y7 z7 st7 hQ7
 subst l7 y7 z7
 obtain ⟨rfl, N7q, q7⟩ := hQ7
 have N7 := Fr.app N2 N7q
 have pre8 : ∀ t, Steps p.tables e below (T7.setTop (mkF m 16 #[.val (.ref a1), .val (.int p1), .val (.int (0 : Int32)), .val (.int (2 : Int32)), .val (.int (1 : Int32))] [(.int p1), (.int c1)])) t → Steps p.tables e below (s₁.setTop (entryFrame m #[(.ref a1), (.int p1), (.int (0 : Int32)), (.int (2 : Int32))] 5)) t := fun t k => pre3 t (by
  show Steps p.tables e below (T2.setTop (mkF m 16 #[.val (.ref a1), .val (.int p1), .val (.int (0 : Int32)), .val (.int (2 : Int32)), .val (.int (0 : Int32))] [(.int p1), (.int c0)])) _
  refine XS.icmpYes X2.here hx rfl (pc0 := 16) (pc' := 22) rfl (hb hby d31_16) rfl (feq hc16).2 (by decide) (by decide) ?_
  refine XS.iinc X2.here hx rfl (hb hby d31_22) rfl (l' := #[.val (.ref a1), .val (.int p1), .val (.int (0 : Int32)), .val (.int (2 : Int32)), .val (.int ((0 : Int32) + (1 : Int32)))]) rfl ?_
  show Steps p.tables e below (T2.setTop (mkF m 25 #[.val (.ref a1), .val (.int p1), .val (.int (0 : Int32)), .val (.int (2 : Int32)), .val (.int ((0 : Int32) + (1 : Int32)))] [])) _
  rw [show ((0 : Int32) + (1 : Int32)) = (1 : Int32) from by decide]
  refine XS.goto X2.here hx rfl (pc0 := 25) (pc' := 3) rfl (hb hby d31_25) (by decide) (by decide) ?_
  refine XS.iload X2.here hx rfl (hb hby d31_3) rfl ?_
  refine XS.iloadN X2.here hx rfl (hb hby d31_5) rfl ?_
  refine XS.icmpNo X2.here hx rfl (hb hby d31_6) rfl (tlt (by decide : (1 : Int32) < (2 : Int32))).2.1 ?_
  refine XS.aloadN X2.here hx rfl (hb hby d31_9) rfl rfl ?_
  refine XS.iload X2.here hx rfl (hb hby d31_10) rfl ?_
  refine st7 _ ?_
  refine XS.iloadN X7.here hx rfl (hb hby d31_15) rfl ?_
  exact k)
 by_cases hc16_9 : c1 = p1
 ·have pre10 : ∀ t, Steps p.tables e below (T7.setTop (mkF m 21 #[.val (.ref a1), .val (.int p1), .val (.int (0 : Int32)), .val (.int (2 : Int32)), .val (.int (1 : Int32))] [(.int (1 : Int32))])) t → Steps p.tables e below (s₁.setTop (entryFrame m #[(.ref a1), (.int p1), (.int (0 : Int32)), (.int (2 : Int32))] 5)) t := fun t k => pre8 t (by
   show Steps p.tables e below (T7.setTop (mkF m 16 #[.val (.ref a1), .val (.int p1), .val (.int (0 : Int32)), .val (.int (2 : Int32)), .val (.int (1 : Int32))] [(.int p1), (.int c1)])) _
   refine XS.icmpNo X7.here hx rfl (hb hby d31_16) rfl (teq hc16_9).2 ?_
   refine XS.iload X7.here hx rfl (hb hby d31_19) rfl ?_
   exact k)
  obtain ⟨fs11, hr11, hrun11, hended11, hW11, hsame11⟩ := X7.leave (v := some (.int (1 : Int32))) (fun h => by rw [Bd.returns] at h; cases h)
  refine ⟨_, _, pre10 _ ?_, hrun11, hended11, _, _, rfl, ?_, ⟨_, rfl⟩, hW11, hsame11.mono (by decide) (by decide)⟩
  ·show Steps p.tables e below (T7.setTop (mkF m 21 #[.val (.ref a1), .val (.int p1), .val (.int (0 : Int32)), .val (.int (2 : Int32)), .val (.int (1 : Int32))] [(.int (1 : Int32))])) _
   exact retOut X7 hx (t := .int) Bd.returns rfl (Or.inl ⟨rfl, Or.inl rfl, _, rfl⟩) (hb hby d31_21) hr11
  ·show Quu2 Z a1 k1 c0 c1 p1 h0 n0 _ T7.heap _
   rw [q7]
   exact ⟨_, rfl, N7, rfl, fun q => absurd q (by decide), fun q => absurd (Or.inr (hc16_9)) q⟩
 have pre12 : ∀ t, Steps p.tables e below (T7.setTop (mkF m 29 #[.val (.ref a1), .val (.int p1), .val (.int (0 : Int32)), .val (.int (2 : Int32)), .val (.int (2 : Int32))] [(.int (-1 : Int32))])) t → Steps p.tables e below (s₁.setTop (entryFrame m #[(.ref a1), (.int p1), (.int (0 : Int32)), (.int (2 : Int32))] 5)) t := fun t k => pre8 t (by
  show Steps p.tables e below (T7.setTop (mkF m 16 #[.val (.ref a1), .val (.int p1), .val (.int (0 : Int32)), .val (.int (2 : Int32)), .val (.int (1 : Int32))] [(.int p1), (.int c1)])) _
  refine XS.icmpYes X7.here hx rfl (pc0 := 16) (pc' := 22) rfl (hb hby d31_16) rfl (feq hc16_9).2 (by decide) (by decide) ?_
  refine XS.iinc X7.here hx rfl (hb hby d31_22) rfl (l' := #[.val (.ref a1), .val (.int p1), .val (.int (0 : Int32)), .val (.int (2 : Int32)), .val (.int ((1 : Int32) + (1 : Int32)))]) rfl ?_
  show Steps p.tables e below (T7.setTop (mkF m 25 #[.val (.ref a1), .val (.int p1), .val (.int (0 : Int32)), .val (.int (2 : Int32)), .val (.int ((1 : Int32) + (1 : Int32)))] [])) _
  rw [show ((1 : Int32) + (1 : Int32)) = (2 : Int32) from by decide]
  refine XS.goto X7.here hx rfl (pc0 := 25) (pc' := 3) rfl (hb hby d31_25) (by decide) (by decide) ?_
  refine XS.iload X7.here hx rfl (hb hby d31_3) rfl ?_
  refine XS.iloadN X7.here hx rfl (hb hby d31_5) rfl ?_
  refine XS.icmpYes X7.here hx rfl (pc0 := 6) (pc' := 28) rfl (hb hby d31_6) rfl (flt (by decide : ¬ ((2 : Int32) < (2 : Int32)))).2.1 (by decide) (by decide) ?_
  refine XS.iconst X7.here hx rfl (hb hby d31_28) ?_
  exact k)
 obtain ⟨fs13, hr13, hrun13, hended13, hW13, hsame13⟩ := X7.leave (v := some (.int (-1 : Int32))) (fun h => by rw [Bd.returns] at h; cases h)
 refine ⟨_, _, pre12 _ ?_, hrun13, hended13, _, _, rfl, ?_, ⟨_, rfl⟩, hW13, hsame13.mono (by decide) (by decide)⟩
 ·show Steps p.tables e below (T7.setTop (mkF m 29 #[.val (.ref a1), .val (.int p1), .val (.int (0 : Int32)), .val (.int (2 : Int32)), .val (.int (2 : Int32))] [(.int (-1 : Int32))])) _
  exact retOut X7 hx (t := .int) Bd.returns rfl (Or.inl ⟨rfl, Or.inl rfl, _, rfl⟩) (hb hby d31_29) hr13
 ·show Quu2 Z a1 k1 c0 c1 p1 h0 n0 _ T7.heap _
  rw [q7]
  exact ⟨_, rfl, N7, rfl, fun _ q => by
   rcases q with q | q
   ·exact hc16 q
   ·exact hc16_9 q, fun _ => by decide⟩


def Qlc3 (Z : State) (a1 : Addr) (k1 : ClassId) (c0 c1 c2 : Int32) (p1 : Int32) (h0 : Heap) (n0 : Nat) (v : Option Value) (h : Heap) (L : List Loc) : Prop := own_QI h0 n0 (c0 = p1 ∨ c1 = p1 ∨ c2 = p1) v h L
set_option maxRecDepth 65536 in
set_option maxHeartbeats 40000000 in
theorem rmlc3 (l : Launch) (Z : State) (a0 : Array Value) (hw : ∀ d ∈ tables_1, d.before a0 Z = true) (ws : List Jvm.Cond) (a1 : Addr) (k1 : ClassId) (c0 c1 c2 : Int32) (p1 : Int32) (h0 : Heap) (n0 : Nat) (Z0 : n0 ≤ h0.size) (As : Arv Z h0 a1 k1 .byte (3 : Int32) ([c0, c1, c2].map fun c => Value.int (StrChars.lo8 c)) (.int 0)) (hb0 : own_b c0) (hb1 : own_b c1) (hb2 : own_b c2) (hl0 : ¬ (255 : Int32) < c0) (hl1 : ¬ (255 : Int32) < c1) (hl2 : ¬ (255 : Int32) < c2) (hp : ¬ p1 < 0 ∧ ¬ (255 : Int32) < p1) :
  own_M l Z own_z20 jdk_43_method_23_code 6 (some .int) ({ frames := 0, cells := 0, slots := 0, locals := 0 } : Room) ws #[(.ref a1), (.int p1), (.int (0 : Int32)), (.int (3 : Int32))] h0 (Qlc3 Z a1 k1 c0 c1 c2 p1 h0 n0) := by
 refine MetFree.of_bodySF (plainFor_of_name pn_k4) hisR ?_
 intro p e s m args below meth c s₁ Bd hml0 hP hK
 obtain ⟨rfl, hZ, hh⟩ := hP
 have hx := Bd.exec
 have hby := Bd.bytes
 have hml : c.maxLocals = 6 := hml0
 have hown : s.vm.findClass "java/lang/StringLatin1" = some m.cls := findClass_of_methodNamed Bd.named
 have hnm := (name_of_methodNamed Bd.named Bd.method).1
 have X0 : Stand p l e ({ frames := 0, cells := 0, slots := 0, locals := 0 } : Room) s m #[(.ref a1), (.int p1), (.int (0 : Int32)), (.int (3 : Int32))] below meth c s₁ [] 0 0 := Stand.of_body Bd
 have e0 : s₁.heap = h0 := by rw [← hh, Bd.state]; rfl
 have N0 := Fr.nil n0
 have pre0 : ∀ t, Steps p.tables e below (s₁.setTop (mkF m 0 #[.val (.ref a1), .val (.int p1), .val (.int (0 : Int32)), .val (.int (3 : Int32)), .unset, .unset] [])) t → Steps p.tables e below (s₁.setTop (entryFrame m #[(.ref a1), (.int p1), (.int (0 : Int32)), (.int (3 : Int32))] 6)) t := fun t k => castTop (ef_lc1 m a1 p1 (0 : Int32) (3 : Int32)) k
 have Vc1 := As
 obtain ⟨cl1, Ar1, qq1, sz1, nn1, Ha1, Gf1⟩ := Vc1
 have hin1 : ¬ ((0 : Int32) < 0 ∨ cl1.slots.size ≤ ((0 : Int32)).toNatClampNeg) := inb_of sz1 ⟨by decide, by decide⟩
 have pre2 : ∀ t, Steps p.tables e below (s₁.setTop (mkF m 19 #[.val (.ref a1), .val (.int p1), .val (.int (0 : Int32)), .val (.int (3 : Int32)), .val (.int (p1.toInt8.toInt32)), .val (.int (0 : Int32))] [(.int (p1.toInt8.toInt32)), (.int (StrChars.lo8 c0))])) t → Steps p.tables e below (s₁.setTop (entryFrame m #[(.ref a1), (.int p1), (.int (0 : Int32)), (.int (3 : Int32))] 6)) t := fun t k => pre0 t (by
  show Steps p.tables e below (s₁.setTop (mkF m 0 #[.val (.ref a1), .val (.int p1), .val (.int (0 : Int32)), .val (.int (3 : Int32)), .unset, .unset] [])) _
  refine XS.iloadN X0.here hx rfl (hb hby d19_0) rfl ?_
  refine XS.i2b X0.here hx rfl (hb hby d19_1) rfl ?_
  refine XS.istore X0.here hx rfl (hb hby d19_2) rfl (l' := #[.val (.ref a1), .val (.int p1), .val (.int (0 : Int32)), .val (.int (3 : Int32)), .val (.int (p1.toInt8.toInt32)), .unset]) rfl ?_
  refine XS.iloadN X0.here hx rfl (hb hby d19_4) rfl ?_
  refine XS.istore X0.here hx rfl (hb hby d19_5) rfl (l' := #[.val (.ref a1), .val (.int p1), .val (.int (0 : Int32)), .val (.int (3 : Int32)), .val (.int (p1.toInt8.toInt32)), .val (.int (0 : Int32))]) rfl ?_
  refine XS.iload X0.here hx rfl (hb hby d19_7) rfl ?_
  refine XS.iloadN X0.here hx rfl (hb hby d19_9) rfl ?_
  refine XS.icmpNo X0.here hx rfl (hb hby d19_10) rfl (tlt (by decide : (0 : Int32) < (3 : Int32))).2.1 ?_
  refine XS.aloadN X0.here hx rfl (hb hby d19_13) rfl rfl ?_
  refine XS.iload X0.here hx rfl (hb hby d19_14) rfl ?_
  refine X0.baloadBytes hx (j := (0 : Int32)) (v := (.int (StrChars.lo8 c0))) (by rw [e0]; exact Ar1.1) (State.isArrayOf_alike hZ.alike Ar1.2.1) Ar1.2.2 hin1 (Has.at Ha1 hin1 rfl) (g := (mkF m 16 #[.val (.ref a1), .val (.int p1), .val (.int (0 : Int32)), .val (.int (3 : Int32)), .val (.int (p1.toInt8.toInt32)), .val (.int (0 : Int32))] [(.int (0 : Int32)), (.ref a1)])) rfl rfl (hb hby d19_16) _ ?_
  refine XS.iload X0.here hx rfl (hb hby d19_17) rfl ?_
  exact k)
 by_cases hc19 : (StrChars.lo8 c0) = (p1.toInt8.toInt32)
 ·have pre3 : ∀ t, Steps p.tables e below (s₁.setTop (mkF m 24 #[.val (.ref a1), .val (.int p1), .val (.int (0 : Int32)), .val (.int (3 : Int32)), .val (.int (p1.toInt8.toInt32)), .val (.int (0 : Int32))] [(.int (0 : Int32))])) t → Steps p.tables e below (s₁.setTop (entryFrame m #[(.ref a1), (.int p1), (.int (0 : Int32)), (.int (3 : Int32))] 6)) t := fun t k => pre2 t (by
   show Steps p.tables e below (s₁.setTop (mkF m 19 #[.val (.ref a1), .val (.int p1), .val (.int (0 : Int32)), .val (.int (3 : Int32)), .val (.int (p1.toInt8.toInt32)), .val (.int (0 : Int32))] [(.int (p1.toInt8.toInt32)), (.int (StrChars.lo8 c0))])) _
   refine XS.icmpNo X0.here hx rfl (hb hby d19_19) rfl (teq hc19).2 ?_
   refine XS.iload X0.here hx rfl (hb hby d19_22) rfl ?_
   exact k)
  obtain ⟨fs4, hr4, hrun4, hended4, hW4, hsame4⟩ := X0.leave (v := some (.int (0 : Int32))) (fun h => by rw [Bd.returns] at h; cases h)
  refine ⟨_, _, pre3 _ ?_, hrun4, hended4, _, _, rfl, ?_, ⟨_, rfl⟩, hW4, hsame4.mono (by decide) (by decide)⟩
  ·show Steps p.tables e below (s₁.setTop (mkF m 24 #[.val (.ref a1), .val (.int p1), .val (.int (0 : Int32)), .val (.int (3 : Int32)), .val (.int (p1.toInt8.toInt32)), .val (.int (0 : Int32))] [(.int (0 : Int32))])) _
   exact retOut X0 hx (t := .int) Bd.returns rfl (Or.inl ⟨rfl, Or.inl rfl, _, rfl⟩) (hb hby d19_24) hr4
  ·show Qlc3 Z a1 k1 c0 c1 c2 p1 h0 n0 _ s₁.heap _
   rw [e0]
   exact ⟨_, rfl, N0, rfl, fun q => absurd q (by decide), fun q => absurd (Or.inl ((own_l8 ⟨hb0.1, hl0⟩ hp).mp hc19)) q⟩
 have Vc5 := As
 obtain ⟨cl5, Ar5, qq5, sz5, nn5, Ha5, Gf5⟩ := Vc5
 have hin5 : ¬ ((1 : Int32) < 0 ∨ cl5.slots.size ≤ ((1 : Int32)).toNatClampNeg) := inb_of sz5 ⟨by decide, by decide⟩
 have pre6 : ∀ t, Steps p.tables e below (s₁.setTop (mkF m 19 #[.val (.ref a1), .val (.int p1), .val (.int (0 : Int32)), .val (.int (3 : Int32)), .val (.int (p1.toInt8.toInt32)), .val (.int (1 : Int32))] [(.int (p1.toInt8.toInt32)), (.int (StrChars.lo8 c1))])) t → Steps p.tables e below (s₁.setTop (entryFrame m #[(.ref a1), (.int p1), (.int (0 : Int32)), (.int (3 : Int32))] 6)) t := fun t k => pre2 t (by
  show Steps p.tables e below (s₁.setTop (mkF m 19 #[.val (.ref a1), .val (.int p1), .val (.int (0 : Int32)), .val (.int (3 : Int32)), .val (.int (p1.toInt8.toInt32)), .val (.int (0 : Int32))] [(.int (p1.toInt8.toInt32)), (.int (StrChars.lo8 c0))])) _
  refine XS.icmpYes X0.here hx rfl (pc0 := 19) (pc' := 25) rfl (hb hby d19_19) rfl (feq hc19).2 (by decide) (by decide) ?_
  refine XS.iinc X0.here hx rfl (hb hby d19_25) rfl (l' := #[.val (.ref a1), .val (.int p1), .val (.int (0 : Int32)), .val (.int (3 : Int32)), .val (.int (p1.toInt8.toInt32)), .val (.int ((0 : Int32) + (1 : Int32)))]) rfl ?_
  show Steps p.tables e below (s₁.setTop (mkF m 28 #[.val (.ref a1), .val (.int p1), .val (.int (0 : Int32)), .val (.int (3 : Int32)), .val (.int (p1.toInt8.toInt32)), .val (.int ((0 : Int32) + (1 : Int32)))] [])) _
  rw [show ((0 : Int32) + (1 : Int32)) = (1 : Int32) from by decide]
  refine XS.goto X0.here hx rfl (pc0 := 28) (pc' := 7) rfl (hb hby d19_28) (by decide) (by decide) ?_
  refine XS.iload X0.here hx rfl (hb hby d19_7) rfl ?_
  refine XS.iloadN X0.here hx rfl (hb hby d19_9) rfl ?_
  refine XS.icmpNo X0.here hx rfl (hb hby d19_10) rfl (tlt (by decide : (1 : Int32) < (3 : Int32))).2.1 ?_
  refine XS.aloadN X0.here hx rfl (hb hby d19_13) rfl rfl ?_
  refine XS.iload X0.here hx rfl (hb hby d19_14) rfl ?_
  refine X0.baloadBytes hx (j := (1 : Int32)) (v := (.int (StrChars.lo8 c1))) (by rw [e0]; exact Ar5.1) (State.isArrayOf_alike hZ.alike Ar5.2.1) Ar5.2.2 hin5 (Has.at Ha5 hin5 rfl) (g := (mkF m 16 #[.val (.ref a1), .val (.int p1), .val (.int (0 : Int32)), .val (.int (3 : Int32)), .val (.int (p1.toInt8.toInt32)), .val (.int (1 : Int32))] [(.int (1 : Int32)), (.ref a1)])) rfl rfl (hb hby d19_16) _ ?_
  refine XS.iload X0.here hx rfl (hb hby d19_17) rfl ?_
  exact k)
 by_cases hc19_7 : (StrChars.lo8 c1) = (p1.toInt8.toInt32)
 ·have pre8 : ∀ t, Steps p.tables e below (s₁.setTop (mkF m 24 #[.val (.ref a1), .val (.int p1), .val (.int (0 : Int32)), .val (.int (3 : Int32)), .val (.int (p1.toInt8.toInt32)), .val (.int (1 : Int32))] [(.int (1 : Int32))])) t → Steps p.tables e below (s₁.setTop (entryFrame m #[(.ref a1), (.int p1), (.int (0 : Int32)), (.int (3 : Int32))] 6)) t := fun t k => pre6 t (by
   show Steps p.tables e below (s₁.setTop (mkF m 19 #[.val (.ref a1), .val (.int p1), .val (.int (0 : Int32)), .val (.int (3 : Int32)), .val (.int (p1.toInt8.toInt32)), .val (.int (1 : Int32))] [(.int (p1.toInt8.toInt32)), (.int (StrChars.lo8 c1))])) _
   refine XS.icmpNo X0.here hx rfl (hb hby d19_19) rfl (teq hc19_7).2 ?_
   refine XS.iload X0.here hx rfl (hb hby d19_22) rfl ?_
   exact k)
  obtain ⟨fs9, hr9, hrun9, hended9, hW9, hsame9⟩ := X0.leave (v := some (.int (1 : Int32))) (fun h => by rw [Bd.returns] at h; cases h)
  refine ⟨_, _, pre8 _ ?_, hrun9, hended9, _, _, rfl, ?_, ⟨_, rfl⟩, hW9, hsame9.mono (by decide) (by decide)⟩
  ·show Steps p.tables e below (s₁.setTop (mkF m 24 #[.val (.ref a1), .val (.int p1), .val (.int (0 : Int32)), .val (.int (3 : Int32)), .val (.int (p1.toInt8.toInt32)), .val (.int (1 : Int32))] [(.int (1 : Int32))])) _
   exact retOut X0 hx (t := .int) Bd.returns rfl (Or.inl ⟨rfl, Or.inl rfl, _, rfl⟩) (hb hby d19_24) hr9
  ·show Qlc3 Z a1 k1 c0 c1 c2 p1 h0 n0 _ s₁.heap _
   rw [e0]
   exact ⟨_, rfl, N0, rfl, fun q => absurd q (by decide), fun q => absurd (Or.inr (Or.inl ((own_l8 ⟨hb1.1, hl1⟩ hp).mp hc19_7))) q⟩
 have Vc10 := As
 obtain ⟨cl10, Ar10, qq10, sz10, nn10, Ha10, Gf10⟩ := Vc10
 have hin10 : ¬ ((2 : Int32) < 0 ∨ cl10.slots.size ≤ ((2 : Int32)).toNatClampNeg) := inb_of sz10 ⟨by decide, by decide⟩
 have pre11 : ∀ t, Steps p.tables e below (s₁.setTop (mkF m 19 #[.val (.ref a1), .val (.int p1), .val (.int (0 : Int32)), .val (.int (3 : Int32)), .val (.int (p1.toInt8.toInt32)), .val (.int (2 : Int32))] [(.int (p1.toInt8.toInt32)), (.int (StrChars.lo8 c2))])) t → Steps p.tables e below (s₁.setTop (entryFrame m #[(.ref a1), (.int p1), (.int (0 : Int32)), (.int (3 : Int32))] 6)) t := fun t k => pre6 t (by
  show Steps p.tables e below (s₁.setTop (mkF m 19 #[.val (.ref a1), .val (.int p1), .val (.int (0 : Int32)), .val (.int (3 : Int32)), .val (.int (p1.toInt8.toInt32)), .val (.int (1 : Int32))] [(.int (p1.toInt8.toInt32)), (.int (StrChars.lo8 c1))])) _
  refine XS.icmpYes X0.here hx rfl (pc0 := 19) (pc' := 25) rfl (hb hby d19_19) rfl (feq hc19_7).2 (by decide) (by decide) ?_
  refine XS.iinc X0.here hx rfl (hb hby d19_25) rfl (l' := #[.val (.ref a1), .val (.int p1), .val (.int (0 : Int32)), .val (.int (3 : Int32)), .val (.int (p1.toInt8.toInt32)), .val (.int ((1 : Int32) + (1 : Int32)))]) rfl ?_
  show Steps p.tables e below (s₁.setTop (mkF m 28 #[.val (.ref a1), .val (.int p1), .val (.int (0 : Int32)), .val (.int (3 : Int32)), .val (.int (p1.toInt8.toInt32)), .val (.int ((1 : Int32) + (1 : Int32)))] [])) _
  rw [show ((1 : Int32) + (1 : Int32)) = (2 : Int32) from by decide]
  refine XS.goto X0.here hx rfl (pc0 := 28) (pc' := 7) rfl (hb hby d19_28) (by decide) (by decide) ?_
  refine XS.iload X0.here hx rfl (hb hby d19_7) rfl ?_
  refine XS.iloadN X0.here hx rfl (hb hby d19_9) rfl ?_
  refine XS.icmpNo X0.here hx rfl (hb hby d19_10) rfl (tlt (by decide : (2 : Int32) < (3 : Int32))).2.1 ?_
  refine XS.aloadN X0.here hx rfl (hb hby d19_13) rfl rfl ?_
  refine XS.iload X0.here hx rfl (hb hby d19_14) rfl ?_
  refine X0.baloadBytes hx (j := (2 : Int32)) (v := (.int (StrChars.lo8 c2))) (by rw [e0]; exact Ar10.1) (State.isArrayOf_alike hZ.alike Ar10.2.1) Ar10.2.2 hin10 (Has.at Ha10 hin10 rfl) (g := (mkF m 16 #[.val (.ref a1), .val (.int p1), .val (.int (0 : Int32)), .val (.int (3 : Int32)), .val (.int (p1.toInt8.toInt32)), .val (.int (2 : Int32))] [(.int (2 : Int32)), (.ref a1)])) rfl rfl (hb hby d19_16) _ ?_
  refine XS.iload X0.here hx rfl (hb hby d19_17) rfl ?_
  exact k)
 by_cases hc19_12 : (StrChars.lo8 c2) = (p1.toInt8.toInt32)
 ·have pre13 : ∀ t, Steps p.tables e below (s₁.setTop (mkF m 24 #[.val (.ref a1), .val (.int p1), .val (.int (0 : Int32)), .val (.int (3 : Int32)), .val (.int (p1.toInt8.toInt32)), .val (.int (2 : Int32))] [(.int (2 : Int32))])) t → Steps p.tables e below (s₁.setTop (entryFrame m #[(.ref a1), (.int p1), (.int (0 : Int32)), (.int (3 : Int32))] 6)) t := fun t k => pre11 t (by
   show Steps p.tables e below (s₁.setTop (mkF m 19 #[.val (.ref a1), .val (.int p1), .val (.int (0 : Int32)), .val (.int (3 : Int32)), .val (.int (p1.toInt8.toInt32)), .val (.int (2 : Int32))] [(.int (p1.toInt8.toInt32)), (.int (StrChars.lo8 c2))])) _
   refine XS.icmpNo X0.here hx rfl (hb hby d19_19) rfl (teq hc19_12).2 ?_
   refine XS.iload X0.here hx rfl (hb hby d19_22) rfl ?_
   exact k)
  obtain ⟨fs14, hr14, hrun14, hended14, hW14, hsame14⟩ := X0.leave (v := some (.int (2 : Int32))) (fun h => by rw [Bd.returns] at h; cases h)
  refine ⟨_, _, pre13 _ ?_, hrun14, hended14, _, _, rfl, ?_, ⟨_, rfl⟩, hW14, hsame14.mono (by decide) (by decide)⟩
  ·show Steps p.tables e below (s₁.setTop (mkF m 24 #[.val (.ref a1), .val (.int p1), .val (.int (0 : Int32)), .val (.int (3 : Int32)), .val (.int (p1.toInt8.toInt32)), .val (.int (2 : Int32))] [(.int (2 : Int32))])) _
   exact retOut X0 hx (t := .int) Bd.returns rfl (Or.inl ⟨rfl, Or.inl rfl, _, rfl⟩) (hb hby d19_24) hr14
  ·show Qlc3 Z a1 k1 c0 c1 c2 p1 h0 n0 _ s₁.heap _
   rw [e0]
   exact ⟨_, rfl, N0, rfl, fun q => absurd q (by decide), fun q => absurd (Or.inr (Or.inr (((own_l8 ⟨hb2.1, hl2⟩ hp).mp hc19_12)))) q⟩
 have pre15 : ∀ t, Steps p.tables e below (s₁.setTop (mkF m 32 #[.val (.ref a1), .val (.int p1), .val (.int (0 : Int32)), .val (.int (3 : Int32)), .val (.int (p1.toInt8.toInt32)), .val (.int (3 : Int32))] [(.int (-1 : Int32))])) t → Steps p.tables e below (s₁.setTop (entryFrame m #[(.ref a1), (.int p1), (.int (0 : Int32)), (.int (3 : Int32))] 6)) t := fun t k => pre11 t (by
  show Steps p.tables e below (s₁.setTop (mkF m 19 #[.val (.ref a1), .val (.int p1), .val (.int (0 : Int32)), .val (.int (3 : Int32)), .val (.int (p1.toInt8.toInt32)), .val (.int (2 : Int32))] [(.int (p1.toInt8.toInt32)), (.int (StrChars.lo8 c2))])) _
  refine XS.icmpYes X0.here hx rfl (pc0 := 19) (pc' := 25) rfl (hb hby d19_19) rfl (feq hc19_12).2 (by decide) (by decide) ?_
  refine XS.iinc X0.here hx rfl (hb hby d19_25) rfl (l' := #[.val (.ref a1), .val (.int p1), .val (.int (0 : Int32)), .val (.int (3 : Int32)), .val (.int (p1.toInt8.toInt32)), .val (.int ((2 : Int32) + (1 : Int32)))]) rfl ?_
  show Steps p.tables e below (s₁.setTop (mkF m 28 #[.val (.ref a1), .val (.int p1), .val (.int (0 : Int32)), .val (.int (3 : Int32)), .val (.int (p1.toInt8.toInt32)), .val (.int ((2 : Int32) + (1 : Int32)))] [])) _
  rw [show ((2 : Int32) + (1 : Int32)) = (3 : Int32) from by decide]
  refine XS.goto X0.here hx rfl (pc0 := 28) (pc' := 7) rfl (hb hby d19_28) (by decide) (by decide) ?_
  refine XS.iload X0.here hx rfl (hb hby d19_7) rfl ?_
  refine XS.iloadN X0.here hx rfl (hb hby d19_9) rfl ?_
  refine XS.icmpYes X0.here hx rfl (pc0 := 10) (pc' := 31) rfl (hb hby d19_10) rfl (flt (by decide : ¬ ((3 : Int32) < (3 : Int32)))).2.1 (by decide) (by decide) ?_
  refine XS.iconst X0.here hx rfl (hb hby d19_31) ?_
  exact k)
 obtain ⟨fs16, hr16, hrun16, hended16, hW16, hsame16⟩ := X0.leave (v := some (.int (-1 : Int32))) (fun h => by rw [Bd.returns] at h; cases h)
 refine ⟨_, _, pre15 _ ?_, hrun16, hended16, _, _, rfl, ?_, ⟨_, rfl⟩, hW16, hsame16.mono (by decide) (by decide)⟩
 ·show Steps p.tables e below (s₁.setTop (mkF m 32 #[.val (.ref a1), .val (.int p1), .val (.int (0 : Int32)), .val (.int (3 : Int32)), .val (.int (p1.toInt8.toInt32)), .val (.int (3 : Int32))] [(.int (-1 : Int32))])) _
  exact retOut X0 hx (t := .int) Bd.returns rfl (Or.inl ⟨rfl, Or.inl rfl, _, rfl⟩) (hb hby d19_32) hr16
 ·show Qlc3 Z a1 k1 c0 c1 c2 p1 h0 n0 _ s₁.heap _
  rw [e0]
  exact ⟨_, rfl, N0, rfl, fun _ q => by
   rcases q with q | q | q
   ·exact hc19 ((own_l8 ⟨hb0.1, hl0⟩ hp).mpr q)
   ·exact hc19_7 ((own_l8 ⟨hb1.1, hl1⟩ hp).mpr q)
   ·exact hc19_12 ((own_l8 ⟨hb2.1, hl2⟩ hp).mpr q), fun _ => by decide⟩


def Quu3 (Z : State) (a1 : Addr) (k1 : ClassId) (c0 c1 c2 : Int32) (p1 : Int32) (h0 : Heap) (n0 : Nat) (v : Option Value) (h : Heap) (L : List Loc) : Prop := own_QI h0 n0 (c0 = p1 ∨ c1 = p1 ∨ c2 = p1) v h L
set_option maxRecDepth 65536 in
set_option maxHeartbeats 40000000 in
theorem rmuu3 (l : Launch) (Z : State) (a0 : Array Value) (hw : ∀ d ∈ tables_1, d.before a0 Z = true) (ws : List Jvm.Cond) (a1 : Addr) (k1 : ClassId) (c0 c1 c2 : Int32) (p1 : Int32) (h0 : Heap) (n0 : Nat) (Z0 : n0 ≤ h0.size) (As : Arv Z h0 a1 k1 .byte (6 : Int32) (StrChars.Road.wideBytes [c0, c1, c2]) (.int 0)) (EN : own_env Z h0) (hb0 : own_b c0) (hb1 : own_b c1) (hb2 : own_b c2) :
  own_M l Z own_z22 jdk_52_method_48_code 5 (some .int) ({ frames := 1, cells := 0, slots := 0, locals := 13 } : Room) ws #[(.ref a1), (.int p1), (.int (0 : Int32)), (.int (3 : Int32))] h0 (Quu3 Z a1 k1 c0 c1 c2 p1 h0 n0) := by
 refine MetFree.of_bodySF (plainFor_of_name pn_k5) hisR ?_
 intro p e s m args below meth c s₁ Bd hml0 hP hK
 obtain ⟨rfl, hZ, hh⟩ := hP
 have hx := Bd.exec
 have hby := Bd.bytes
 have hml : c.maxLocals = 5 := hml0
 have hown : s.vm.findClass "java/lang/StringUTF16" = some m.cls := findClass_of_methodNamed Bd.named
 have hnm := (name_of_methodNamed Bd.named Bd.method).1
 have X0 : Stand p l e ({ frames := 1, cells := 0, slots := 0, locals := 13 } : Room) s m #[(.ref a1), (.int p1), (.int (0 : Int32)), (.int (3 : Int32))] below meth c s₁ [] 0 0 := Stand.of_body Bd
 have e0 : s₁.heap = h0 := by rw [← hh, Bd.state]; rfl
 have N0 := Fr.nil n0
 have pre0 : ∀ t, Steps p.tables e below (s₁.setTop (mkF m 0 #[.val (.ref a1), .val (.int p1), .val (.int (0 : Int32)), .val (.int (3 : Int32)), .unset] [])) t → Steps p.tables e below (s₁.setTop (entryFrame m #[(.ref a1), (.int p1), (.int (0 : Int32)), (.int (3 : Int32))] 5)) t := fun t k => castTop (ef_uu1 m a1 p1 (0 : Int32) (3 : Int32)) k
 have Vc1 := As
 obtain ⟨cl1, Ar1, qq1, sz1, nn1, Ha1, Gf1⟩ := Vc1
 have r0_1 : own_rd cl1 ((0 : Int32) <<< ((1 : Int32) &&& 31)) (StrChars.lo8 c0) := own_rdOf sz1 Ha1 ⟨by decide, by decide⟩ (by rw [show (((0 : Int32) <<< ((1 : Int32) &&& 31))).toNatClampNeg = 0 from by decide]; rfl)
 have r1_1 : own_rd cl1 (((0 : Int32) <<< ((1 : Int32) &&& 31)) + (1 : Int32)) (StrChars.hi8 c0) := own_rdOf sz1 Ha1 ⟨by decide, by decide⟩ (by rw [show ((((0 : Int32) <<< ((1 : Int32) &&& 31)) + (1 : Int32))).toNatClampNeg = 1 from by decide]; rfl)
 obtain ⟨_, _, ⟨T2, L2, k2, n2⟩, -, X2, ⟨Lc2, hQ2, l2, y2, z2⟩, st2⟩ := Jvm.LawKit.callS X0 hx (y := own_z10) hown (mvT hZ (wd104 hw)) (mvT hZ (wd105 hw)) (mvT hZ (wd74 hw)) (mvT hZ (wd106 hw)) (by decide) (backOf (W := 0) (rmgc l Z a0 hw [] a1 cl1 (0 : Int32) (StrChars.lo8 c0) (StrChars.hi8 c0) c0 h0 n0 Z0 EN (own_gcv hb0) Ar1 r0_1 r1_1) hZ (wd106 hw) (wd74 hw) (by decide) (by decide)) (g := (mkF m 12 #[.val (.ref a1), .val (.int p1), .val (.int (0 : Int32)), .val (.int (3 : Int32)), .val (.int (0 : Int32))] [(.int (0 : Int32)), (.ref a1)])) rfl (by rw [hml]; rfl) (argsL := [(.ref a1), (.int (0 : Int32))]) (rest := []) (lenOf pd_gc rfl) rfl (by show 2 * 0 + _ ≤ _; exact Nat.le_of_eq rfl) (hb hby d31_12) (fun _ _ => ⟨rfl, e0, (by decide : 0 + 0 ≤ _), (by decide : 0 + 0 ≤ _)⟩)
 dsimp only [Pt.U, Pt.locs, Pt.cells, Pt.slots] at X2 l2 y2 z2 st2 hQ2
 subst l2 y2 z2
 obtain ⟨rfl, N2q, q2⟩ := hQ2
 have N2 := Fr.app N0 N2q
 have pre3 : ∀ t, Steps p.tables e below (T2.setTop (mkF m 16 #[.val (.ref a1), .val (.int p1), .val (.int (0 : Int32)), .val (.int (3 : Int32)), .val (.int (0 : Int32))] [(.int p1), (.int c0)])) t → Steps p.tables e below (s₁.setTop (entryFrame m #[(.ref a1), (.int p1), (.int (0 : Int32)), (.int (3 : Int32))] 5)) t := fun t k => pre0 t (by
  show Steps p.tables e below (s₁.setTop (mkF m 0 #[.val (.ref a1), .val (.int p1), .val (.int (0 : Int32)), .val (.int (3 : Int32)), .unset] [])) _
  refine XS.iloadN X0.here hx rfl (hb hby d31_0) rfl ?_
  refine XS.istore X0.here hx rfl (hb hby d31_1) rfl (l' := #[.val (.ref a1), .val (.int p1), .val (.int (0 : Int32)), .val (.int (3 : Int32)), .val (.int (0 : Int32))]) rfl ?_
  refine XS.iload X0.here hx rfl (hb hby d31_3) rfl ?_
  refine XS.iloadN X0.here hx rfl (hb hby d31_5) rfl ?_
  refine XS.icmpNo X0.here hx rfl (hb hby d31_6) rfl (tlt (by decide : (0 : Int32) < (3 : Int32))).2.1 ?_
  refine XS.aloadN X0.here hx rfl (hb hby d31_9) rfl rfl ?_
  refine XS.iload X0.here hx rfl (hb hby d31_10) rfl ?_
  refine st2 _ ?_
  refine XS.iloadN X2.here hx rfl (hb hby d31_15) rfl ?_
  exact k)
 by_cases hc16 : c0 = p1
 ·have pre4 : ∀ t, Steps p.tables e below (T2.setTop (mkF m 21 #[.val (.ref a1), .val (.int p1), .val (.int (0 : Int32)), .val (.int (3 : Int32)), .val (.int (0 : Int32))] [(.int (0 : Int32))])) t → Steps p.tables e below (s₁.setTop (entryFrame m #[(.ref a1), (.int p1), (.int (0 : Int32)), (.int (3 : Int32))] 5)) t := fun t k => pre3 t (by
   show Steps p.tables e below (T2.setTop (mkF m 16 #[.val (.ref a1), .val (.int p1), .val (.int (0 : Int32)), .val (.int (3 : Int32)), .val (.int (0 : Int32))] [(.int p1), (.int c0)])) _
   refine XS.icmpNo X2.here hx rfl (hb hby d31_16) rfl (teq hc16).2 ?_
   refine XS.iload X2.here hx rfl (hb hby d31_19) rfl ?_
   exact k)
  obtain ⟨fs5, hr5, hrun5, hended5, hW5, hsame5⟩ := X2.leave (v := some (.int (0 : Int32))) (fun h => by rw [Bd.returns] at h; cases h)
  refine ⟨_, _, pre4 _ ?_, hrun5, hended5, _, _, rfl, ?_, ⟨_, rfl⟩, hW5, hsame5.mono (by decide) (by decide)⟩
  ·show Steps p.tables e below (T2.setTop (mkF m 21 #[.val (.ref a1), .val (.int p1), .val (.int (0 : Int32)), .val (.int (3 : Int32)), .val (.int (0 : Int32))] [(.int (0 : Int32))])) _
   exact retOut X2 hx (t := .int) Bd.returns rfl (Or.inl ⟨rfl, Or.inl rfl, _, rfl⟩) (hb hby d31_21) hr5
  ·show Quu3 Z a1 k1 c0 c1 c2 p1 h0 n0 _ T2.heap _
   rw [q2]
   exact ⟨_, rfl, N2, rfl, fun q => absurd q (by decide), fun q => absurd (Or.inl hc16) q⟩
 have Vc6 := As
 obtain ⟨cl6, Ar6, qq6, sz6, nn6, Ha6, Gf6⟩ := Vc6
 have r0_6 : own_rd cl6 ((1 : Int32) <<< ((1 : Int32) &&& 31)) (StrChars.lo8 c1) := own_rdOf sz6 Ha6 ⟨by decide, by decide⟩ (by rw [show (((1 : Int32) <<< ((1 : Int32) &&& 31))).toNatClampNeg = 2 from by decide]; rfl)
 have r1_6 : own_rd cl6 (((1 : Int32) <<< ((1 : Int32) &&& 31)) + (1 : Int32)) (StrChars.hi8 c1) := own_rdOf sz6 Ha6 ⟨by decide, by decide⟩ (by rw [show ((((1 : Int32) <<< ((1 : Int32) &&& 31)) + (1 : Int32))).toNatClampNeg = 3 from by decide]; rfl)
 obtain ⟨_, _, ⟨T7, L7, k7, n7⟩, -, X7, ⟨Lc7, hQ7, l7, y7, z7⟩, st7⟩ := Jvm.LawKit.callS X2 hx (y := own_z10) hown (mvT hZ (wd104 hw)) (mvT hZ (wd105 hw)) (mvT hZ (wd74 hw)) (mvT hZ (wd106 hw)) (by decide) (backOf (W := 0) (rmgc l Z a0 hw [] a1 cl6 (1 : Int32) (StrChars.lo8 c1) (StrChars.hi8 c1) c1 h0 n0 Z0 EN (own_gcv hb1) Ar6 r0_6 r1_6) hZ (wd106 hw) (wd74 hw) (by decide) (by decide)) (g := (mkF m 12 #[.val (.ref a1), .val (.int p1), .val (.int (0 : Int32)), .val (.int (3 : Int32)), .val (.int (1 : Int32))] [(.int (1 : Int32)), (.ref a1)])) rfl (by rw [hml]; rfl) (argsL := [(.ref a1), (.int (1 : Int32))]) (rest := []) (lenOf pd_gc rfl) rfl (by show 2 * 0 + _ ≤ _; exact Nat.le_of_eq rfl) (hb hby d31_12) (fun _ _ => ⟨rfl, q2, (by decide : 0 + 0 ≤ _), (by decide : 0 + 0 ≤ _)⟩)
 dsimp only [Pt.U, Pt.locs, Pt.cells, Pt.slots] at X7 l7 y7 z7 st7 hQ7
 subst l7 y7 z7
 obtain ⟨rfl, N7q, q7⟩ := hQ7
 have N7 := Fr.app N2 N7q
 have pre8 : ∀ t, Steps p.tables e below (T7.setTop (mkF m 16 #[.val (.ref a1), .val (.int p1), .val (.int (0 : Int32)), .val (.int (3 : Int32)), .val (.int (1 : Int32))] [(.int p1), (.int c1)])) t → Steps p.tables e below (s₁.setTop (entryFrame m #[(.ref a1), (.int p1), (.int (0 : Int32)), (.int (3 : Int32))] 5)) t := fun t k => pre3 t (by
  show Steps p.tables e below (T2.setTop (mkF m 16 #[.val (.ref a1), .val (.int p1), .val (.int (0 : Int32)), .val (.int (3 : Int32)), .val (.int (0 : Int32))] [(.int p1), (.int c0)])) _
  refine XS.icmpYes X2.here hx rfl (pc0 := 16) (pc' := 22) rfl (hb hby d31_16) rfl (feq hc16).2 (by decide) (by decide) ?_
  refine XS.iinc X2.here hx rfl (hb hby d31_22) rfl (l' := #[.val (.ref a1), .val (.int p1), .val (.int (0 : Int32)), .val (.int (3 : Int32)), .val (.int ((0 : Int32) + (1 : Int32)))]) rfl ?_
  show Steps p.tables e below (T2.setTop (mkF m 25 #[.val (.ref a1), .val (.int p1), .val (.int (0 : Int32)), .val (.int (3 : Int32)), .val (.int ((0 : Int32) + (1 : Int32)))] [])) _
  rw [show ((0 : Int32) + (1 : Int32)) = (1 : Int32) from by decide]
  refine XS.goto X2.here hx rfl (pc0 := 25) (pc' := 3) rfl (hb hby d31_25) (by decide) (by decide) ?_
  refine XS.iload X2.here hx rfl (hb hby d31_3) rfl ?_
  refine XS.iloadN X2.here hx rfl (hb hby d31_5) rfl ?_
  refine XS.icmpNo X2.here hx rfl (hb hby d31_6) rfl (tlt (by decide : (1 : Int32) < (3 : Int32))).2.1 ?_
  refine XS.aloadN X2.here hx rfl (hb hby d31_9) rfl rfl ?_
  refine XS.iload X2.here hx rfl (hb hby d31_10) rfl ?_
  refine st7 _ ?_
  refine XS.iloadN X7.here hx rfl (hb hby d31_15) rfl ?_
  exact k)
 by_cases hc16_9 : c1 = p1
 ·have pre10 : ∀ t, Steps p.tables e below (T7.setTop (mkF m 21 #[.val (.ref a1), .val (.int p1), .val (.int (0 : Int32)), .val (.int (3 : Int32)), .val (.int (1 : Int32))] [(.int (1 : Int32))])) t → Steps p.tables e below (s₁.setTop (entryFrame m #[(.ref a1), (.int p1), (.int (0 : Int32)), (.int (3 : Int32))] 5)) t := fun t k => pre8 t (by
   show Steps p.tables e below (T7.setTop (mkF m 16 #[.val (.ref a1), .val (.int p1), .val (.int (0 : Int32)), .val (.int (3 : Int32)), .val (.int (1 : Int32))] [(.int p1), (.int c1)])) _
   refine XS.icmpNo X7.here hx rfl (hb hby d31_16) rfl (teq hc16_9).2 ?_
   refine XS.iload X7.here hx rfl (hb hby d31_19) rfl ?_
   exact k)
  obtain ⟨fs11, hr11, hrun11, hended11, hW11, hsame11⟩ := X7.leave (v := some (.int (1 : Int32))) (fun h => by rw [Bd.returns] at h; cases h)
  refine ⟨_, _, pre10 _ ?_, hrun11, hended11, _, _, rfl, ?_, ⟨_, rfl⟩, hW11, hsame11.mono (by decide) (by decide)⟩
  ·show Steps p.tables e below (T7.setTop (mkF m 21 #[.val (.ref a1), .val (.int p1), .val (.int (0 : Int32)), .val (.int (3 : Int32)), .val (.int (1 : Int32))] [(.int (1 : Int32))])) _
   exact retOut X7 hx (t := .int) Bd.returns rfl (Or.inl ⟨rfl, Or.inl rfl, _, rfl⟩) (hb hby d31_21) hr11
  ·show Quu3 Z a1 k1 c0 c1 c2 p1 h0 n0 _ T7.heap _
   rw [q7]
   exact ⟨_, rfl, N7, rfl, fun q => absurd q (by decide), fun q => absurd (Or.inr (Or.inl hc16_9)) q⟩
 have Vc12 := As
 obtain ⟨cl12, Ar12, qq12, sz12, nn12, Ha12, Gf12⟩ := Vc12
 have r0_12 : own_rd cl12 ((2 : Int32) <<< ((1 : Int32) &&& 31)) (StrChars.lo8 c2) := own_rdOf sz12 Ha12 ⟨by decide, by decide⟩ (by rw [show (((2 : Int32) <<< ((1 : Int32) &&& 31))).toNatClampNeg = 4 from by decide]; rfl)
 have r1_12 : own_rd cl12 (((2 : Int32) <<< ((1 : Int32) &&& 31)) + (1 : Int32)) (StrChars.hi8 c2) := own_rdOf sz12 Ha12 ⟨by decide, by decide⟩ (by rw [show ((((2 : Int32) <<< ((1 : Int32) &&& 31)) + (1 : Int32))).toNatClampNeg = 5 from by decide]; rfl)
 obtain ⟨_, _, ⟨T13, L13, k13, n13⟩, -, X13, ⟨Lc13, hQ13, l13, y13, z13⟩, st13⟩ := Jvm.LawKit.callS X7 hx (y := own_z10) hown (mvT hZ (wd104 hw)) (mvT hZ (wd105 hw)) (mvT hZ (wd74 hw)) (mvT hZ (wd106 hw)) (by decide) (backOf (W := 0) (rmgc l Z a0 hw [] a1 cl12 (2 : Int32) (StrChars.lo8 c2) (StrChars.hi8 c2) c2 h0 n0 Z0 EN (own_gcv hb2) Ar12 r0_12 r1_12) hZ (wd106 hw) (wd74 hw) (by decide) (by decide)) (g := (mkF m 12 #[.val (.ref a1), .val (.int p1), .val (.int (0 : Int32)), .val (.int (3 : Int32)), .val (.int (2 : Int32))] [(.int (2 : Int32)), (.ref a1)])) rfl (by rw [hml]; rfl) (argsL := [(.ref a1), (.int (2 : Int32))]) (rest := []) (lenOf pd_gc rfl) rfl (by show 2 * 0 + _ ≤ _; exact Nat.le_of_eq rfl) (hb hby d31_12) (fun _ _ => ⟨rfl, q7, (by decide : 0 + 0 ≤ _), (by decide : 0 + 0 ≤ _)⟩)
 dsimp only [Pt.U, Pt.locs, Pt.cells, Pt.slots] at X13 l13 y13 z13 st13 hQ13
 subst l13 y13 z13
 obtain ⟨rfl, N13q, q13⟩ := hQ13
 have N13 := Fr.app N7 N13q
 have pre14 : ∀ t, Steps p.tables e below (T13.setTop (mkF m 16 #[.val (.ref a1), .val (.int p1), .val (.int (0 : Int32)), .val (.int (3 : Int32)), .val (.int (2 : Int32))] [(.int p1), (.int c2)])) t → Steps p.tables e below (s₁.setTop (entryFrame m #[(.ref a1), (.int p1), (.int (0 : Int32)), (.int (3 : Int32))] 5)) t := fun t k => pre8 t (by
  show Steps p.tables e below (T7.setTop (mkF m 16 #[.val (.ref a1), .val (.int p1), .val (.int (0 : Int32)), .val (.int (3 : Int32)), .val (.int (1 : Int32))] [(.int p1), (.int c1)])) _
  refine XS.icmpYes X7.here hx rfl (pc0 := 16) (pc' := 22) rfl (hb hby d31_16) rfl (feq hc16_9).2 (by decide) (by decide) ?_
  refine XS.iinc X7.here hx rfl (hb hby d31_22) rfl (l' := #[.val (.ref a1), .val (.int p1), .val (.int (0 : Int32)), .val (.int (3 : Int32)), .val (.int ((1 : Int32) + (1 : Int32)))]) rfl ?_
  show Steps p.tables e below (T7.setTop (mkF m 25 #[.val (.ref a1), .val (.int p1), .val (.int (0 : Int32)), .val (.int (3 : Int32)), .val (.int ((1 : Int32) + (1 : Int32)))] [])) _
  rw [show ((1 : Int32) + (1 : Int32)) = (2 : Int32) from by decide]
  refine XS.goto X7.here hx rfl (pc0 := 25) (pc' := 3) rfl (hb hby d31_25) (by decide) (by decide) ?_
  refine XS.iload X7.here hx rfl (hb hby d31_3) rfl ?_
  refine XS.iloadN X7.here hx rfl (hb hby d31_5) rfl ?_
  refine XS.icmpNo X7.here hx rfl (hb hby d31_6) rfl (tlt (by decide : (2 : Int32) < (3 : Int32))).2.1 ?_
  refine XS.aloadN X7.here hx rfl (hb hby d31_9) rfl rfl ?_
  refine XS.iload X7.here hx rfl (hb hby d31_10) rfl ?_
  refine st13 _ ?_
  refine XS.iloadN X13.here hx rfl (hb hby d31_15) rfl ?_
  exact k)
 by_cases hc16_15 : c2 = p1
 ·have pre16 : ∀ t, Steps p.tables e below (T13.setTop (mkF m 21 #[.val (.ref a1), .val (.int p1), .val (.int (0 : Int32)), .val (.int (3 : Int32)), .val (.int (2 : Int32))] [(.int (2 : Int32))])) t → Steps p.tables e below (s₁.setTop (entryFrame m #[(.ref a1), (.int p1), (.int (0 : Int32)), (.int (3 : Int32))] 5)) t := fun t k => pre14 t (by
   show Steps p.tables e below (T13.setTop (mkF m 16 #[.val (.ref a1), .val (.int p1), .val (.int (0 : Int32)), .val (.int (3 : Int32)), .val (.int (2 : Int32))] [(.int p1), (.int c2)])) _
   refine XS.icmpNo X13.here hx rfl (hb hby d31_16) rfl (teq hc16_15).2 ?_
   refine XS.iload X13.here hx rfl (hb hby d31_19) rfl ?_
   exact k)
  obtain ⟨fs17, hr17, hrun17, hended17, hW17, hsame17⟩ := X13.leave (v := some (.int (2 : Int32))) (fun h => by rw [Bd.returns] at h; cases h)
  refine ⟨_, _, pre16 _ ?_, hrun17, hended17, _, _, rfl, ?_, ⟨_, rfl⟩, hW17, hsame17.mono (by decide) (by decide)⟩
  ·show Steps p.tables e below (T13.setTop (mkF m 21 #[.val (.ref a1), .val (.int p1), .val (.int (0 : Int32)), .val (.int (3 : Int32)), .val (.int (2 : Int32))] [(.int (2 : Int32))])) _
   exact retOut X13 hx (t := .int) Bd.returns rfl (Or.inl ⟨rfl, Or.inl rfl, _, rfl⟩) (hb hby d31_21) hr17
  ·show Quu3 Z a1 k1 c0 c1 c2 p1 h0 n0 _ T13.heap _
   rw [q13]
   exact ⟨_, rfl, N13, rfl, fun q => absurd q (by decide), fun q => absurd (Or.inr (Or.inr (hc16_15))) q⟩
 have pre18 : ∀ t, Steps p.tables e below (T13.setTop (mkF m 29 #[.val (.ref a1), .val (.int p1), .val (.int (0 : Int32)), .val (.int (3 : Int32)), .val (.int (3 : Int32))] [(.int (-1 : Int32))])) t → Steps p.tables e below (s₁.setTop (entryFrame m #[(.ref a1), (.int p1), (.int (0 : Int32)), (.int (3 : Int32))] 5)) t := fun t k => pre14 t (by
  show Steps p.tables e below (T13.setTop (mkF m 16 #[.val (.ref a1), .val (.int p1), .val (.int (0 : Int32)), .val (.int (3 : Int32)), .val (.int (2 : Int32))] [(.int p1), (.int c2)])) _
  refine XS.icmpYes X13.here hx rfl (pc0 := 16) (pc' := 22) rfl (hb hby d31_16) rfl (feq hc16_15).2 (by decide) (by decide) ?_
  refine XS.iinc X13.here hx rfl (hb hby d31_22) rfl (l' := #[.val (.ref a1), .val (.int p1), .val (.int (0 : Int32)), .val (.int (3 : Int32)), .val (.int ((2 : Int32) + (1 : Int32)))]) rfl ?_
  show Steps p.tables e below (T13.setTop (mkF m 25 #[.val (.ref a1), .val (.int p1), .val (.int (0 : Int32)), .val (.int (3 : Int32)), .val (.int ((2 : Int32) + (1 : Int32)))] [])) _
  rw [show ((2 : Int32) + (1 : Int32)) = (3 : Int32) from by decide]
  refine XS.goto X13.here hx rfl (pc0 := 25) (pc' := 3) rfl (hb hby d31_25) (by decide) (by decide) ?_
  refine XS.iload X13.here hx rfl (hb hby d31_3) rfl ?_
  refine XS.iloadN X13.here hx rfl (hb hby d31_5) rfl ?_
  refine XS.icmpYes X13.here hx rfl (pc0 := 6) (pc' := 28) rfl (hb hby d31_6) rfl (flt (by decide : ¬ ((3 : Int32) < (3 : Int32)))).2.1 (by decide) (by decide) ?_
  refine XS.iconst X13.here hx rfl (hb hby d31_28) ?_
  exact k)
 obtain ⟨fs19, hr19, hrun19, hended19, hW19, hsame19⟩ := X13.leave (v := some (.int (-1 : Int32))) (fun h => by rw [Bd.returns] at h; cases h)
 refine ⟨_, _, pre18 _ ?_, hrun19, hended19, _, _, rfl, ?_, ⟨_, rfl⟩, hW19, hsame19.mono (by decide) (by decide)⟩
 ·show Steps p.tables e below (T13.setTop (mkF m 29 #[.val (.ref a1), .val (.int p1), .val (.int (0 : Int32)), .val (.int (3 : Int32)), .val (.int (3 : Int32))] [(.int (-1 : Int32))])) _
  exact retOut X13 hx (t := .int) Bd.returns rfl (Or.inl ⟨rfl, Or.inl rfl, _, rfl⟩) (hb hby d31_29) hr19
 ·show Quu3 Z a1 k1 c0 c1 c2 p1 h0 n0 _ T13.heap _
  rw [q13]
  exact ⟨_, rfl, N13, rfl, fun _ q => by
   rcases q with q | q | q
   ·exact hc16 q
   ·exact hc16_9 q
   ·exact hc16_15 q, fun _ => by decide⟩


def Qlc4 (Z : State) (a1 : Addr) (k1 : ClassId) (c0 c1 c2 c3 : Int32) (p1 : Int32) (h0 : Heap) (n0 : Nat) (v : Option Value) (h : Heap) (L : List Loc) : Prop := own_QI h0 n0 (c0 = p1 ∨ c1 = p1 ∨ c2 = p1 ∨ c3 = p1) v h L
set_option maxRecDepth 65536 in
set_option maxHeartbeats 40000000 in
theorem rmlc4 (l : Launch) (Z : State) (a0 : Array Value) (hw : ∀ d ∈ tables_1, d.before a0 Z = true) (ws : List Jvm.Cond) (a1 : Addr) (k1 : ClassId) (c0 c1 c2 c3 : Int32) (p1 : Int32) (h0 : Heap) (n0 : Nat) (Z0 : n0 ≤ h0.size) (As : Arv Z h0 a1 k1 .byte (4 : Int32) ([c0, c1, c2, c3].map fun c => Value.int (StrChars.lo8 c)) (.int 0)) (hb0 : own_b c0) (hb1 : own_b c1) (hb2 : own_b c2) (hb3 : own_b c3) (hl0 : ¬ (255 : Int32) < c0) (hl1 : ¬ (255 : Int32) < c1) (hl2 : ¬ (255 : Int32) < c2) (hl3 : ¬ (255 : Int32) < c3) (hp : ¬ p1 < 0 ∧ ¬ (255 : Int32) < p1) :
  own_M l Z own_z20 jdk_43_method_23_code 6 (some .int) ({ frames := 0, cells := 0, slots := 0, locals := 0 } : Room) ws #[(.ref a1), (.int p1), (.int (0 : Int32)), (.int (4 : Int32))] h0 (Qlc4 Z a1 k1 c0 c1 c2 c3 p1 h0 n0) := by
 refine MetFree.of_bodySF (plainFor_of_name pn_k4) hisR ?_
 intro p e s m args below meth c s₁ Bd hml0 hP hK
 obtain ⟨rfl, hZ, hh⟩ := hP
 have hx := Bd.exec
 have hby := Bd.bytes
 have hml : c.maxLocals = 6 := hml0
 have hown : s.vm.findClass "java/lang/StringLatin1" = some m.cls := findClass_of_methodNamed Bd.named
 have hnm := (name_of_methodNamed Bd.named Bd.method).1
 have X0 : Stand p l e ({ frames := 0, cells := 0, slots := 0, locals := 0 } : Room) s m #[(.ref a1), (.int p1), (.int (0 : Int32)), (.int (4 : Int32))] below meth c s₁ [] 0 0 := Stand.of_body Bd
 have e0 : s₁.heap = h0 := by rw [← hh, Bd.state]; rfl
 have N0 := Fr.nil n0
 have pre0 : ∀ t, Steps p.tables e below (s₁.setTop (mkF m 0 #[.val (.ref a1), .val (.int p1), .val (.int (0 : Int32)), .val (.int (4 : Int32)), .unset, .unset] [])) t → Steps p.tables e below (s₁.setTop (entryFrame m #[(.ref a1), (.int p1), (.int (0 : Int32)), (.int (4 : Int32))] 6)) t := fun t k => castTop (ef_lc1 m a1 p1 (0 : Int32) (4 : Int32)) k
 have Vc1 := As
 obtain ⟨cl1, Ar1, qq1, sz1, nn1, Ha1, Gf1⟩ := Vc1
 have hin1 : ¬ ((0 : Int32) < 0 ∨ cl1.slots.size ≤ ((0 : Int32)).toNatClampNeg) := inb_of sz1 ⟨by decide, by decide⟩
 have pre2 : ∀ t, Steps p.tables e below (s₁.setTop (mkF m 19 #[.val (.ref a1), .val (.int p1), .val (.int (0 : Int32)), .val (.int (4 : Int32)), .val (.int (p1.toInt8.toInt32)), .val (.int (0 : Int32))] [(.int (p1.toInt8.toInt32)), (.int (StrChars.lo8 c0))])) t → Steps p.tables e below (s₁.setTop (entryFrame m #[(.ref a1), (.int p1), (.int (0 : Int32)), (.int (4 : Int32))] 6)) t := fun t k => pre0 t (by
  show Steps p.tables e below (s₁.setTop (mkF m 0 #[.val (.ref a1), .val (.int p1), .val (.int (0 : Int32)), .val (.int (4 : Int32)), .unset, .unset] [])) _
  refine XS.iloadN X0.here hx rfl (hb hby d19_0) rfl ?_
  refine XS.i2b X0.here hx rfl (hb hby d19_1) rfl ?_
  refine XS.istore X0.here hx rfl (hb hby d19_2) rfl (l' := #[.val (.ref a1), .val (.int p1), .val (.int (0 : Int32)), .val (.int (4 : Int32)), .val (.int (p1.toInt8.toInt32)), .unset]) rfl ?_
  refine XS.iloadN X0.here hx rfl (hb hby d19_4) rfl ?_
  refine XS.istore X0.here hx rfl (hb hby d19_5) rfl (l' := #[.val (.ref a1), .val (.int p1), .val (.int (0 : Int32)), .val (.int (4 : Int32)), .val (.int (p1.toInt8.toInt32)), .val (.int (0 : Int32))]) rfl ?_
  refine XS.iload X0.here hx rfl (hb hby d19_7) rfl ?_
  refine XS.iloadN X0.here hx rfl (hb hby d19_9) rfl ?_
  refine XS.icmpNo X0.here hx rfl (hb hby d19_10) rfl (tlt (by decide : (0 : Int32) < (4 : Int32))).2.1 ?_
  refine XS.aloadN X0.here hx rfl (hb hby d19_13) rfl rfl ?_
  refine XS.iload X0.here hx rfl (hb hby d19_14) rfl ?_
  refine X0.baloadBytes hx (j := (0 : Int32)) (v := (.int (StrChars.lo8 c0))) (by rw [e0]; exact Ar1.1) (State.isArrayOf_alike hZ.alike Ar1.2.1) Ar1.2.2 hin1 (Has.at Ha1 hin1 rfl) (g := (mkF m 16 #[.val (.ref a1), .val (.int p1), .val (.int (0 : Int32)), .val (.int (4 : Int32)), .val (.int (p1.toInt8.toInt32)), .val (.int (0 : Int32))] [(.int (0 : Int32)), (.ref a1)])) rfl rfl (hb hby d19_16) _ ?_
  refine XS.iload X0.here hx rfl (hb hby d19_17) rfl ?_
  exact k)
 by_cases hc19 : (StrChars.lo8 c0) = (p1.toInt8.toInt32)
 ·have pre3 : ∀ t, Steps p.tables e below (s₁.setTop (mkF m 24 #[.val (.ref a1), .val (.int p1), .val (.int (0 : Int32)), .val (.int (4 : Int32)), .val (.int (p1.toInt8.toInt32)), .val (.int (0 : Int32))] [(.int (0 : Int32))])) t → Steps p.tables e below (s₁.setTop (entryFrame m #[(.ref a1), (.int p1), (.int (0 : Int32)), (.int (4 : Int32))] 6)) t := fun t k => pre2 t (by
   show Steps p.tables e below (s₁.setTop (mkF m 19 #[.val (.ref a1), .val (.int p1), .val (.int (0 : Int32)), .val (.int (4 : Int32)), .val (.int (p1.toInt8.toInt32)), .val (.int (0 : Int32))] [(.int (p1.toInt8.toInt32)), (.int (StrChars.lo8 c0))])) _
   refine XS.icmpNo X0.here hx rfl (hb hby d19_19) rfl (teq hc19).2 ?_
   refine XS.iload X0.here hx rfl (hb hby d19_22) rfl ?_
   exact k)
  obtain ⟨fs4, hr4, hrun4, hended4, hW4, hsame4⟩ := X0.leave (v := some (.int (0 : Int32))) (fun h => by rw [Bd.returns] at h; cases h)
  refine ⟨_, _, pre3 _ ?_, hrun4, hended4, _, _, rfl, ?_, ⟨_, rfl⟩, hW4, hsame4.mono (by decide) (by decide)⟩
  ·show Steps p.tables e below (s₁.setTop (mkF m 24 #[.val (.ref a1), .val (.int p1), .val (.int (0 : Int32)), .val (.int (4 : Int32)), .val (.int (p1.toInt8.toInt32)), .val (.int (0 : Int32))] [(.int (0 : Int32))])) _
   exact retOut X0 hx (t := .int) Bd.returns rfl (Or.inl ⟨rfl, Or.inl rfl, _, rfl⟩) (hb hby d19_24) hr4
  ·show Qlc4 Z a1 k1 c0 c1 c2 c3 p1 h0 n0 _ s₁.heap _
   rw [e0]
   exact ⟨_, rfl, N0, rfl, fun q => absurd q (by decide), fun q => absurd (Or.inl ((own_l8 ⟨hb0.1, hl0⟩ hp).mp hc19)) q⟩
 have Vc5 := As
 obtain ⟨cl5, Ar5, qq5, sz5, nn5, Ha5, Gf5⟩ := Vc5
 have hin5 : ¬ ((1 : Int32) < 0 ∨ cl5.slots.size ≤ ((1 : Int32)).toNatClampNeg) := inb_of sz5 ⟨by decide, by decide⟩
 have pre6 : ∀ t, Steps p.tables e below (s₁.setTop (mkF m 19 #[.val (.ref a1), .val (.int p1), .val (.int (0 : Int32)), .val (.int (4 : Int32)), .val (.int (p1.toInt8.toInt32)), .val (.int (1 : Int32))] [(.int (p1.toInt8.toInt32)), (.int (StrChars.lo8 c1))])) t → Steps p.tables e below (s₁.setTop (entryFrame m #[(.ref a1), (.int p1), (.int (0 : Int32)), (.int (4 : Int32))] 6)) t := fun t k => pre2 t (by
  show Steps p.tables e below (s₁.setTop (mkF m 19 #[.val (.ref a1), .val (.int p1), .val (.int (0 : Int32)), .val (.int (4 : Int32)), .val (.int (p1.toInt8.toInt32)), .val (.int (0 : Int32))] [(.int (p1.toInt8.toInt32)), (.int (StrChars.lo8 c0))])) _
  refine XS.icmpYes X0.here hx rfl (pc0 := 19) (pc' := 25) rfl (hb hby d19_19) rfl (feq hc19).2 (by decide) (by decide) ?_
  refine XS.iinc X0.here hx rfl (hb hby d19_25) rfl (l' := #[.val (.ref a1), .val (.int p1), .val (.int (0 : Int32)), .val (.int (4 : Int32)), .val (.int (p1.toInt8.toInt32)), .val (.int ((0 : Int32) + (1 : Int32)))]) rfl ?_
  show Steps p.tables e below (s₁.setTop (mkF m 28 #[.val (.ref a1), .val (.int p1), .val (.int (0 : Int32)), .val (.int (4 : Int32)), .val (.int (p1.toInt8.toInt32)), .val (.int ((0 : Int32) + (1 : Int32)))] [])) _
  rw [show ((0 : Int32) + (1 : Int32)) = (1 : Int32) from by decide]
  refine XS.goto X0.here hx rfl (pc0 := 28) (pc' := 7) rfl (hb hby d19_28) (by decide) (by decide) ?_
  refine XS.iload X0.here hx rfl (hb hby d19_7) rfl ?_
  refine XS.iloadN X0.here hx rfl (hb hby d19_9) rfl ?_
  refine XS.icmpNo X0.here hx rfl (hb hby d19_10) rfl (tlt (by decide : (1 : Int32) < (4 : Int32))).2.1 ?_
  refine XS.aloadN X0.here hx rfl (hb hby d19_13) rfl rfl ?_
  refine XS.iload X0.here hx rfl (hb hby d19_14) rfl ?_
  refine X0.baloadBytes hx (j := (1 : Int32)) (v := (.int (StrChars.lo8 c1))) (by rw [e0]; exact Ar5.1) (State.isArrayOf_alike hZ.alike Ar5.2.1) Ar5.2.2 hin5 (Has.at Ha5 hin5 rfl) (g := (mkF m 16 #[.val (.ref a1), .val (.int p1), .val (.int (0 : Int32)), .val (.int (4 : Int32)), .val (.int (p1.toInt8.toInt32)), .val (.int (1 : Int32))] [(.int (1 : Int32)), (.ref a1)])) rfl rfl (hb hby d19_16) _ ?_
  refine XS.iload X0.here hx rfl (hb hby d19_17) rfl ?_
  exact k)
 by_cases hc19_7 : (StrChars.lo8 c1) = (p1.toInt8.toInt32)
 ·have pre8 : ∀ t, Steps p.tables e below (s₁.setTop (mkF m 24 #[.val (.ref a1), .val (.int p1), .val (.int (0 : Int32)), .val (.int (4 : Int32)), .val (.int (p1.toInt8.toInt32)), .val (.int (1 : Int32))] [(.int (1 : Int32))])) t → Steps p.tables e below (s₁.setTop (entryFrame m #[(.ref a1), (.int p1), (.int (0 : Int32)), (.int (4 : Int32))] 6)) t := fun t k => pre6 t (by
   show Steps p.tables e below (s₁.setTop (mkF m 19 #[.val (.ref a1), .val (.int p1), .val (.int (0 : Int32)), .val (.int (4 : Int32)), .val (.int (p1.toInt8.toInt32)), .val (.int (1 : Int32))] [(.int (p1.toInt8.toInt32)), (.int (StrChars.lo8 c1))])) _
   refine XS.icmpNo X0.here hx rfl (hb hby d19_19) rfl (teq hc19_7).2 ?_
   refine XS.iload X0.here hx rfl (hb hby d19_22) rfl ?_
   exact k)
  obtain ⟨fs9, hr9, hrun9, hended9, hW9, hsame9⟩ := X0.leave (v := some (.int (1 : Int32))) (fun h => by rw [Bd.returns] at h; cases h)
  refine ⟨_, _, pre8 _ ?_, hrun9, hended9, _, _, rfl, ?_, ⟨_, rfl⟩, hW9, hsame9.mono (by decide) (by decide)⟩
  ·show Steps p.tables e below (s₁.setTop (mkF m 24 #[.val (.ref a1), .val (.int p1), .val (.int (0 : Int32)), .val (.int (4 : Int32)), .val (.int (p1.toInt8.toInt32)), .val (.int (1 : Int32))] [(.int (1 : Int32))])) _
   exact retOut X0 hx (t := .int) Bd.returns rfl (Or.inl ⟨rfl, Or.inl rfl, _, rfl⟩) (hb hby d19_24) hr9
  ·show Qlc4 Z a1 k1 c0 c1 c2 c3 p1 h0 n0 _ s₁.heap _
   rw [e0]
   exact ⟨_, rfl, N0, rfl, fun q => absurd q (by decide), fun q => absurd (Or.inr (Or.inl ((own_l8 ⟨hb1.1, hl1⟩ hp).mp hc19_7))) q⟩
 have Vc10 := As
 obtain ⟨cl10, Ar10, qq10, sz10, nn10, Ha10, Gf10⟩ := Vc10
 have hin10 : ¬ ((2 : Int32) < 0 ∨ cl10.slots.size ≤ ((2 : Int32)).toNatClampNeg) := inb_of sz10 ⟨by decide, by decide⟩
 have pre11 : ∀ t, Steps p.tables e below (s₁.setTop (mkF m 19 #[.val (.ref a1), .val (.int p1), .val (.int (0 : Int32)), .val (.int (4 : Int32)), .val (.int (p1.toInt8.toInt32)), .val (.int (2 : Int32))] [(.int (p1.toInt8.toInt32)), (.int (StrChars.lo8 c2))])) t → Steps p.tables e below (s₁.setTop (entryFrame m #[(.ref a1), (.int p1), (.int (0 : Int32)), (.int (4 : Int32))] 6)) t := fun t k => pre6 t (by
  show Steps p.tables e below (s₁.setTop (mkF m 19 #[.val (.ref a1), .val (.int p1), .val (.int (0 : Int32)), .val (.int (4 : Int32)), .val (.int (p1.toInt8.toInt32)), .val (.int (1 : Int32))] [(.int (p1.toInt8.toInt32)), (.int (StrChars.lo8 c1))])) _
  refine XS.icmpYes X0.here hx rfl (pc0 := 19) (pc' := 25) rfl (hb hby d19_19) rfl (feq hc19_7).2 (by decide) (by decide) ?_
  refine XS.iinc X0.here hx rfl (hb hby d19_25) rfl (l' := #[.val (.ref a1), .val (.int p1), .val (.int (0 : Int32)), .val (.int (4 : Int32)), .val (.int (p1.toInt8.toInt32)), .val (.int ((1 : Int32) + (1 : Int32)))]) rfl ?_
  show Steps p.tables e below (s₁.setTop (mkF m 28 #[.val (.ref a1), .val (.int p1), .val (.int (0 : Int32)), .val (.int (4 : Int32)), .val (.int (p1.toInt8.toInt32)), .val (.int ((1 : Int32) + (1 : Int32)))] [])) _
  rw [show ((1 : Int32) + (1 : Int32)) = (2 : Int32) from by decide]
  refine XS.goto X0.here hx rfl (pc0 := 28) (pc' := 7) rfl (hb hby d19_28) (by decide) (by decide) ?_
  refine XS.iload X0.here hx rfl (hb hby d19_7) rfl ?_
  refine XS.iloadN X0.here hx rfl (hb hby d19_9) rfl ?_
  refine XS.icmpNo X0.here hx rfl (hb hby d19_10) rfl (tlt (by decide : (2 : Int32) < (4 : Int32))).2.1 ?_
  refine XS.aloadN X0.here hx rfl (hb hby d19_13) rfl rfl ?_
  refine XS.iload X0.here hx rfl (hb hby d19_14) rfl ?_
  refine X0.baloadBytes hx (j := (2 : Int32)) (v := (.int (StrChars.lo8 c2))) (by rw [e0]; exact Ar10.1) (State.isArrayOf_alike hZ.alike Ar10.2.1) Ar10.2.2 hin10 (Has.at Ha10 hin10 rfl) (g := (mkF m 16 #[.val (.ref a1), .val (.int p1), .val (.int (0 : Int32)), .val (.int (4 : Int32)), .val (.int (p1.toInt8.toInt32)), .val (.int (2 : Int32))] [(.int (2 : Int32)), (.ref a1)])) rfl rfl (hb hby d19_16) _ ?_
  refine XS.iload X0.here hx rfl (hb hby d19_17) rfl ?_
  exact k)
 by_cases hc19_12 : (StrChars.lo8 c2) = (p1.toInt8.toInt32)
 ·have pre13 : ∀ t, Steps p.tables e below (s₁.setTop (mkF m 24 #[.val (.ref a1), .val (.int p1), .val (.int (0 : Int32)), .val (.int (4 : Int32)), .val (.int (p1.toInt8.toInt32)), .val (.int (2 : Int32))] [(.int (2 : Int32))])) t → Steps p.tables e below (s₁.setTop (entryFrame m #[(.ref a1), (.int p1), (.int (0 : Int32)), (.int (4 : Int32))] 6)) t := fun t k => pre11 t (by
   show Steps p.tables e below (s₁.setTop (mkF m 19 #[.val (.ref a1), .val (.int p1), .val (.int (0 : Int32)), .val (.int (4 : Int32)), .val (.int (p1.toInt8.toInt32)), .val (.int (2 : Int32))] [(.int (p1.toInt8.toInt32)), (.int (StrChars.lo8 c2))])) _
   refine XS.icmpNo X0.here hx rfl (hb hby d19_19) rfl (teq hc19_12).2 ?_
   refine XS.iload X0.here hx rfl (hb hby d19_22) rfl ?_
   exact k)
  obtain ⟨fs14, hr14, hrun14, hended14, hW14, hsame14⟩ := X0.leave (v := some (.int (2 : Int32))) (fun h => by rw [Bd.returns] at h; cases h)
  refine ⟨_, _, pre13 _ ?_, hrun14, hended14, _, _, rfl, ?_, ⟨_, rfl⟩, hW14, hsame14.mono (by decide) (by decide)⟩
  ·show Steps p.tables e below (s₁.setTop (mkF m 24 #[.val (.ref a1), .val (.int p1), .val (.int (0 : Int32)), .val (.int (4 : Int32)), .val (.int (p1.toInt8.toInt32)), .val (.int (2 : Int32))] [(.int (2 : Int32))])) _
   exact retOut X0 hx (t := .int) Bd.returns rfl (Or.inl ⟨rfl, Or.inl rfl, _, rfl⟩) (hb hby d19_24) hr14
  ·show Qlc4 Z a1 k1 c0 c1 c2 c3 p1 h0 n0 _ s₁.heap _
   rw [e0]
   exact ⟨_, rfl, N0, rfl, fun q => absurd q (by decide), fun q => absurd (Or.inr (Or.inr (Or.inl ((own_l8 ⟨hb2.1, hl2⟩ hp).mp hc19_12)))) q⟩
 have Vc15 := As
 obtain ⟨cl15, Ar15, qq15, sz15, nn15, Ha15, Gf15⟩ := Vc15
 have hin15 : ¬ ((3 : Int32) < 0 ∨ cl15.slots.size ≤ ((3 : Int32)).toNatClampNeg) := inb_of sz15 ⟨by decide, by decide⟩
 have pre16 : ∀ t, Steps p.tables e below (s₁.setTop (mkF m 19 #[.val (.ref a1), .val (.int p1), .val (.int (0 : Int32)), .val (.int (4 : Int32)), .val (.int (p1.toInt8.toInt32)), .val (.int (3 : Int32))] [(.int (p1.toInt8.toInt32)), (.int (StrChars.lo8 c3))])) t → Steps p.tables e below (s₁.setTop (entryFrame m #[(.ref a1), (.int p1), (.int (0 : Int32)), (.int (4 : Int32))] 6)) t := fun t k => pre11 t (by
  show Steps p.tables e below (s₁.setTop (mkF m 19 #[.val (.ref a1), .val (.int p1), .val (.int (0 : Int32)), .val (.int (4 : Int32)), .val (.int (p1.toInt8.toInt32)), .val (.int (2 : Int32))] [(.int (p1.toInt8.toInt32)), (.int (StrChars.lo8 c2))])) _
  refine XS.icmpYes X0.here hx rfl (pc0 := 19) (pc' := 25) rfl (hb hby d19_19) rfl (feq hc19_12).2 (by decide) (by decide) ?_
  refine XS.iinc X0.here hx rfl (hb hby d19_25) rfl (l' := #[.val (.ref a1), .val (.int p1), .val (.int (0 : Int32)), .val (.int (4 : Int32)), .val (.int (p1.toInt8.toInt32)), .val (.int ((2 : Int32) + (1 : Int32)))]) rfl ?_
  show Steps p.tables e below (s₁.setTop (mkF m 28 #[.val (.ref a1), .val (.int p1), .val (.int (0 : Int32)), .val (.int (4 : Int32)), .val (.int (p1.toInt8.toInt32)), .val (.int ((2 : Int32) + (1 : Int32)))] [])) _
  rw [show ((2 : Int32) + (1 : Int32)) = (3 : Int32) from by decide]
  refine XS.goto X0.here hx rfl (pc0 := 28) (pc' := 7) rfl (hb hby d19_28) (by decide) (by decide) ?_
  refine XS.iload X0.here hx rfl (hb hby d19_7) rfl ?_
  refine XS.iloadN X0.here hx rfl (hb hby d19_9) rfl ?_
  refine XS.icmpNo X0.here hx rfl (hb hby d19_10) rfl (tlt (by decide : (3 : Int32) < (4 : Int32))).2.1 ?_
  refine XS.aloadN X0.here hx rfl (hb hby d19_13) rfl rfl ?_
  refine XS.iload X0.here hx rfl (hb hby d19_14) rfl ?_
  refine X0.baloadBytes hx (j := (3 : Int32)) (v := (.int (StrChars.lo8 c3))) (by rw [e0]; exact Ar15.1) (State.isArrayOf_alike hZ.alike Ar15.2.1) Ar15.2.2 hin15 (Has.at Ha15 hin15 rfl) (g := (mkF m 16 #[.val (.ref a1), .val (.int p1), .val (.int (0 : Int32)), .val (.int (4 : Int32)), .val (.int (p1.toInt8.toInt32)), .val (.int (3 : Int32))] [(.int (3 : Int32)), (.ref a1)])) rfl rfl (hb hby d19_16) _ ?_
  refine XS.iload X0.here hx rfl (hb hby d19_17) rfl ?_
  exact k)
 by_cases hc19_17 : (StrChars.lo8 c3) = (p1.toInt8.toInt32)
 ·have pre18 : ∀ t, Steps p.tables e below (s₁.setTop (mkF m 24 #[.val (.ref a1), .val (.int p1), .val (.int (0 : Int32)), .val (.int (4 : Int32)), .val (.int (p1.toInt8.toInt32)), .val (.int (3 : Int32))] [(.int (3 : Int32))])) t → Steps p.tables e below (s₁.setTop (entryFrame m #[(.ref a1), (.int p1), (.int (0 : Int32)), (.int (4 : Int32))] 6)) t := fun t k => pre16 t (by
   show Steps p.tables e below (s₁.setTop (mkF m 19 #[.val (.ref a1), .val (.int p1), .val (.int (0 : Int32)), .val (.int (4 : Int32)), .val (.int (p1.toInt8.toInt32)), .val (.int (3 : Int32))] [(.int (p1.toInt8.toInt32)), (.int (StrChars.lo8 c3))])) _
   refine XS.icmpNo X0.here hx rfl (hb hby d19_19) rfl (teq hc19_17).2 ?_
   refine XS.iload X0.here hx rfl (hb hby d19_22) rfl ?_
   exact k)
  obtain ⟨fs19, hr19, hrun19, hended19, hW19, hsame19⟩ := X0.leave (v := some (.int (3 : Int32))) (fun h => by rw [Bd.returns] at h; cases h)
  refine ⟨_, _, pre18 _ ?_, hrun19, hended19, _, _, rfl, ?_, ⟨_, rfl⟩, hW19, hsame19.mono (by decide) (by decide)⟩
  ·show Steps p.tables e below (s₁.setTop (mkF m 24 #[.val (.ref a1), .val (.int p1), .val (.int (0 : Int32)), .val (.int (4 : Int32)), .val (.int (p1.toInt8.toInt32)), .val (.int (3 : Int32))] [(.int (3 : Int32))])) _
   exact retOut X0 hx (t := .int) Bd.returns rfl (Or.inl ⟨rfl, Or.inl rfl, _, rfl⟩) (hb hby d19_24) hr19
  ·show Qlc4 Z a1 k1 c0 c1 c2 c3 p1 h0 n0 _ s₁.heap _
   rw [e0]
   exact ⟨_, rfl, N0, rfl, fun q => absurd q (by decide), fun q => absurd (Or.inr (Or.inr (Or.inr (((own_l8 ⟨hb3.1, hl3⟩ hp).mp hc19_17))))) q⟩
 have pre20 : ∀ t, Steps p.tables e below (s₁.setTop (mkF m 32 #[.val (.ref a1), .val (.int p1), .val (.int (0 : Int32)), .val (.int (4 : Int32)), .val (.int (p1.toInt8.toInt32)), .val (.int (4 : Int32))] [(.int (-1 : Int32))])) t → Steps p.tables e below (s₁.setTop (entryFrame m #[(.ref a1), (.int p1), (.int (0 : Int32)), (.int (4 : Int32))] 6)) t := fun t k => pre16 t (by
  show Steps p.tables e below (s₁.setTop (mkF m 19 #[.val (.ref a1), .val (.int p1), .val (.int (0 : Int32)), .val (.int (4 : Int32)), .val (.int (p1.toInt8.toInt32)), .val (.int (3 : Int32))] [(.int (p1.toInt8.toInt32)), (.int (StrChars.lo8 c3))])) _
  refine XS.icmpYes X0.here hx rfl (pc0 := 19) (pc' := 25) rfl (hb hby d19_19) rfl (feq hc19_17).2 (by decide) (by decide) ?_
  refine XS.iinc X0.here hx rfl (hb hby d19_25) rfl (l' := #[.val (.ref a1), .val (.int p1), .val (.int (0 : Int32)), .val (.int (4 : Int32)), .val (.int (p1.toInt8.toInt32)), .val (.int ((3 : Int32) + (1 : Int32)))]) rfl ?_
  show Steps p.tables e below (s₁.setTop (mkF m 28 #[.val (.ref a1), .val (.int p1), .val (.int (0 : Int32)), .val (.int (4 : Int32)), .val (.int (p1.toInt8.toInt32)), .val (.int ((3 : Int32) + (1 : Int32)))] [])) _
  rw [show ((3 : Int32) + (1 : Int32)) = (4 : Int32) from by decide]
  refine XS.goto X0.here hx rfl (pc0 := 28) (pc' := 7) rfl (hb hby d19_28) (by decide) (by decide) ?_
  refine XS.iload X0.here hx rfl (hb hby d19_7) rfl ?_
  refine XS.iloadN X0.here hx rfl (hb hby d19_9) rfl ?_
  refine XS.icmpYes X0.here hx rfl (pc0 := 10) (pc' := 31) rfl (hb hby d19_10) rfl (flt (by decide : ¬ ((4 : Int32) < (4 : Int32)))).2.1 (by decide) (by decide) ?_
  refine XS.iconst X0.here hx rfl (hb hby d19_31) ?_
  exact k)
 obtain ⟨fs21, hr21, hrun21, hended21, hW21, hsame21⟩ := X0.leave (v := some (.int (-1 : Int32))) (fun h => by rw [Bd.returns] at h; cases h)
 refine ⟨_, _, pre20 _ ?_, hrun21, hended21, _, _, rfl, ?_, ⟨_, rfl⟩, hW21, hsame21.mono (by decide) (by decide)⟩
 ·show Steps p.tables e below (s₁.setTop (mkF m 32 #[.val (.ref a1), .val (.int p1), .val (.int (0 : Int32)), .val (.int (4 : Int32)), .val (.int (p1.toInt8.toInt32)), .val (.int (4 : Int32))] [(.int (-1 : Int32))])) _
  exact retOut X0 hx (t := .int) Bd.returns rfl (Or.inl ⟨rfl, Or.inl rfl, _, rfl⟩) (hb hby d19_32) hr21
 ·show Qlc4 Z a1 k1 c0 c1 c2 c3 p1 h0 n0 _ s₁.heap _
  rw [e0]
  exact ⟨_, rfl, N0, rfl, fun _ q => by
   rcases q with q | q | q | q
   ·exact hc19 ((own_l8 ⟨hb0.1, hl0⟩ hp).mpr q)
   ·exact hc19_7 ((own_l8 ⟨hb1.1, hl1⟩ hp).mpr q)
   ·exact hc19_12 ((own_l8 ⟨hb2.1, hl2⟩ hp).mpr q)
   ·exact hc19_17 ((own_l8 ⟨hb3.1, hl3⟩ hp).mpr q), fun _ => by decide⟩


def Quu4 (Z : State) (a1 : Addr) (k1 : ClassId) (c0 c1 c2 c3 : Int32) (p1 : Int32) (h0 : Heap) (n0 : Nat) (v : Option Value) (h : Heap) (L : List Loc) : Prop := own_QI h0 n0 (c0 = p1 ∨ c1 = p1 ∨ c2 = p1 ∨ c3 = p1) v h L
set_option maxRecDepth 65536 in
set_option maxHeartbeats 40000000 in
theorem rmuu4 (l : Launch) (Z : State) (a0 : Array Value) (hw : ∀ d ∈ tables_1, d.before a0 Z = true) (ws : List Jvm.Cond) (a1 : Addr) (k1 : ClassId) (c0 c1 c2 c3 : Int32) (p1 : Int32) (h0 : Heap) (n0 : Nat) (Z0 : n0 ≤ h0.size) (As : Arv Z h0 a1 k1 .byte (8 : Int32) (StrChars.Road.wideBytes [c0, c1, c2, c3]) (.int 0)) (EN : own_env Z h0) (hb0 : own_b c0) (hb1 : own_b c1) (hb2 : own_b c2) (hb3 : own_b c3) :
  own_M l Z own_z22 jdk_52_method_48_code 5 (some .int) ({ frames := 1, cells := 0, slots := 0, locals := 13 } : Room) ws #[(.ref a1), (.int p1), (.int (0 : Int32)), (.int (4 : Int32))] h0 (Quu4 Z a1 k1 c0 c1 c2 c3 p1 h0 n0) := by
 refine MetFree.of_bodySF (plainFor_of_name pn_k5) hisR ?_
 intro p e s m args below meth c s₁ Bd hml0 hP hK
 obtain ⟨rfl, hZ, hh⟩ := hP
 have hx := Bd.exec
 have hby := Bd.bytes
 have hml : c.maxLocals = 5 := hml0
 have hown : s.vm.findClass "java/lang/StringUTF16" = some m.cls := findClass_of_methodNamed Bd.named
 have hnm := (name_of_methodNamed Bd.named Bd.method).1
 have X0 : Stand p l e ({ frames := 1, cells := 0, slots := 0, locals := 13 } : Room) s m #[(.ref a1), (.int p1), (.int (0 : Int32)), (.int (4 : Int32))] below meth c s₁ [] 0 0 := Stand.of_body Bd
 have e0 : s₁.heap = h0 := by rw [← hh, Bd.state]; rfl
 have N0 := Fr.nil n0
 have pre0 : ∀ t, Steps p.tables e below (s₁.setTop (mkF m 0 #[.val (.ref a1), .val (.int p1), .val (.int (0 : Int32)), .val (.int (4 : Int32)), .unset] [])) t → Steps p.tables e below (s₁.setTop (entryFrame m #[(.ref a1), (.int p1), (.int (0 : Int32)), (.int (4 : Int32))] 5)) t := fun t k => castTop (ef_uu1 m a1 p1 (0 : Int32) (4 : Int32)) k
 have Vc1 := As
 obtain ⟨cl1, Ar1, qq1, sz1, nn1, Ha1, Gf1⟩ := Vc1
 have r0_1 : own_rd cl1 ((0 : Int32) <<< ((1 : Int32) &&& 31)) (StrChars.lo8 c0) := own_rdOf sz1 Ha1 ⟨by decide, by decide⟩ (by rw [show (((0 : Int32) <<< ((1 : Int32) &&& 31))).toNatClampNeg = 0 from by decide]; rfl)
 have r1_1 : own_rd cl1 (((0 : Int32) <<< ((1 : Int32) &&& 31)) + (1 : Int32)) (StrChars.hi8 c0) := own_rdOf sz1 Ha1 ⟨by decide, by decide⟩ (by rw [show ((((0 : Int32) <<< ((1 : Int32) &&& 31)) + (1 : Int32))).toNatClampNeg = 1 from by decide]; rfl)
 obtain ⟨_, _, ⟨T2, L2, k2, n2⟩, -, X2, ⟨Lc2, hQ2, l2, y2, z2⟩, st2⟩ := Jvm.LawKit.callS X0 hx (y := own_z10) hown (mvT hZ (wd104 hw)) (mvT hZ (wd105 hw)) (mvT hZ (wd74 hw)) (mvT hZ (wd106 hw)) (by decide) (backOf (W := 0) (rmgc l Z a0 hw [] a1 cl1 (0 : Int32) (StrChars.lo8 c0) (StrChars.hi8 c0) c0 h0 n0 Z0 EN (own_gcv hb0) Ar1 r0_1 r1_1) hZ (wd106 hw) (wd74 hw) (by decide) (by decide)) (g := (mkF m 12 #[.val (.ref a1), .val (.int p1), .val (.int (0 : Int32)), .val (.int (4 : Int32)), .val (.int (0 : Int32))] [(.int (0 : Int32)), (.ref a1)])) rfl (by rw [hml]; rfl) (argsL := [(.ref a1), (.int (0 : Int32))]) (rest := []) (lenOf pd_gc rfl) rfl (by show 2 * 0 + _ ≤ _; exact Nat.le_of_eq rfl) (hb hby d31_12) (fun _ _ => ⟨rfl, e0, (by decide : 0 + 0 ≤ _), (by decide : 0 + 0 ≤ _)⟩)
 dsimp only [Pt.U, Pt.locs, Pt.cells, Pt.slots] at X2 l2 y2 z2 st2 hQ2
 subst l2 y2 z2
 obtain ⟨rfl, N2q, q2⟩ := hQ2
 have N2 := Fr.app N0 N2q
 have pre3 : ∀ t, Steps p.tables e below (T2.setTop (mkF m 16 #[.val (.ref a1), .val (.int p1), .val (.int (0 : Int32)), .val (.int (4 : Int32)), .val (.int (0 : Int32))] [(.int p1), (.int c0)])) t → Steps p.tables e below (s₁.setTop (entryFrame m #[(.ref a1), (.int p1), (.int (0 : Int32)), (.int (4 : Int32))] 5)) t := fun t k => pre0 t (by
  show Steps p.tables e below (s₁.setTop (mkF m 0 #[.val (.ref a1), .val (.int p1), .val (.int (0 : Int32)), .val (.int (4 : Int32)), .unset] [])) _
  refine XS.iloadN X0.here hx rfl (hb hby d31_0) rfl ?_
  refine XS.istore X0.here hx rfl (hb hby d31_1) rfl (l' := #[.val (.ref a1), .val (.int p1), .val (.int (0 : Int32)), .val (.int (4 : Int32)), .val (.int (0 : Int32))]) rfl ?_
  refine XS.iload X0.here hx rfl (hb hby d31_3) rfl ?_
  refine XS.iloadN X0.here hx rfl (hb hby d31_5) rfl ?_
  refine XS.icmpNo X0.here hx rfl (hb hby d31_6) rfl (tlt (by decide : (0 : Int32) < (4 : Int32))).2.1 ?_
  refine XS.aloadN X0.here hx rfl (hb hby d31_9) rfl rfl ?_
  refine XS.iload X0.here hx rfl (hb hby d31_10) rfl ?_
  refine st2 _ ?_
  refine XS.iloadN X2.here hx rfl (hb hby d31_15) rfl ?_
  exact k)
 by_cases hc16 : c0 = p1
 ·have pre4 : ∀ t, Steps p.tables e below (T2.setTop (mkF m 21 #[.val (.ref a1), .val (.int p1), .val (.int (0 : Int32)), .val (.int (4 : Int32)), .val (.int (0 : Int32))] [(.int (0 : Int32))])) t → Steps p.tables e below (s₁.setTop (entryFrame m #[(.ref a1), (.int p1), (.int (0 : Int32)), (.int (4 : Int32))] 5)) t := fun t k => pre3 t (by
   show Steps p.tables e below (T2.setTop (mkF m 16 #[.val (.ref a1), .val (.int p1), .val (.int (0 : Int32)), .val (.int (4 : Int32)), .val (.int (0 : Int32))] [(.int p1), (.int c0)])) _
   refine XS.icmpNo X2.here hx rfl (hb hby d31_16) rfl (teq hc16).2 ?_
   refine XS.iload X2.here hx rfl (hb hby d31_19) rfl ?_
   exact k)
  obtain ⟨fs5, hr5, hrun5, hended5, hW5, hsame5⟩ := X2.leave (v := some (.int (0 : Int32))) (fun h => by rw [Bd.returns] at h; cases h)
  refine ⟨_, _, pre4 _ ?_, hrun5, hended5, _, _, rfl, ?_, ⟨_, rfl⟩, hW5, hsame5.mono (by decide) (by decide)⟩
  ·show Steps p.tables e below (T2.setTop (mkF m 21 #[.val (.ref a1), .val (.int p1), .val (.int (0 : Int32)), .val (.int (4 : Int32)), .val (.int (0 : Int32))] [(.int (0 : Int32))])) _
   exact retOut X2 hx (t := .int) Bd.returns rfl (Or.inl ⟨rfl, Or.inl rfl, _, rfl⟩) (hb hby d31_21) hr5
  ·show Quu4 Z a1 k1 c0 c1 c2 c3 p1 h0 n0 _ T2.heap _
   rw [q2]
   exact ⟨_, rfl, N2, rfl, fun q => absurd q (by decide), fun q => absurd (Or.inl hc16) q⟩
 have Vc6 := As
 obtain ⟨cl6, Ar6, qq6, sz6, nn6, Ha6, Gf6⟩ := Vc6
 have r0_6 : own_rd cl6 ((1 : Int32) <<< ((1 : Int32) &&& 31)) (StrChars.lo8 c1) := own_rdOf sz6 Ha6 ⟨by decide, by decide⟩ (by rw [show (((1 : Int32) <<< ((1 : Int32) &&& 31))).toNatClampNeg = 2 from by decide]; rfl)
 have r1_6 : own_rd cl6 (((1 : Int32) <<< ((1 : Int32) &&& 31)) + (1 : Int32)) (StrChars.hi8 c1) := own_rdOf sz6 Ha6 ⟨by decide, by decide⟩ (by rw [show ((((1 : Int32) <<< ((1 : Int32) &&& 31)) + (1 : Int32))).toNatClampNeg = 3 from by decide]; rfl)
 obtain ⟨_, _, ⟨T7, L7, k7, n7⟩, -, X7, ⟨Lc7, hQ7, l7, y7, z7⟩, st7⟩ := Jvm.LawKit.callS X2 hx (y := own_z10) hown (mvT hZ (wd104 hw)) (mvT hZ (wd105 hw)) (mvT hZ (wd74 hw)) (mvT hZ (wd106 hw)) (by decide) (backOf (W := 0) (rmgc l Z a0 hw [] a1 cl6 (1 : Int32) (StrChars.lo8 c1) (StrChars.hi8 c1) c1 h0 n0 Z0 EN (own_gcv hb1) Ar6 r0_6 r1_6) hZ (wd106 hw) (wd74 hw) (by decide) (by decide)) (g := (mkF m 12 #[.val (.ref a1), .val (.int p1), .val (.int (0 : Int32)), .val (.int (4 : Int32)), .val (.int (1 : Int32))] [(.int (1 : Int32)), (.ref a1)])) rfl (by rw [hml]; rfl) (argsL := [(.ref a1), (.int (1 : Int32))]) (rest := []) (lenOf pd_gc rfl) rfl (by show 2 * 0 + _ ≤ _; exact Nat.le_of_eq rfl) (hb hby d31_12) (fun _ _ => ⟨rfl, q2, (by decide : 0 + 0 ≤ _), (by decide : 0 + 0 ≤ _)⟩)
 dsimp only [Pt.U, Pt.locs, Pt.cells, Pt.slots] at X7 l7 y7 z7 st7 hQ7
 subst l7 y7 z7
 obtain ⟨rfl, N7q, q7⟩ := hQ7
 have N7 := Fr.app N2 N7q
 have pre8 : ∀ t, Steps p.tables e below (T7.setTop (mkF m 16 #[.val (.ref a1), .val (.int p1), .val (.int (0 : Int32)), .val (.int (4 : Int32)), .val (.int (1 : Int32))] [(.int p1), (.int c1)])) t → Steps p.tables e below (s₁.setTop (entryFrame m #[(.ref a1), (.int p1), (.int (0 : Int32)), (.int (4 : Int32))] 5)) t := fun t k => pre3 t (by
  show Steps p.tables e below (T2.setTop (mkF m 16 #[.val (.ref a1), .val (.int p1), .val (.int (0 : Int32)), .val (.int (4 : Int32)), .val (.int (0 : Int32))] [(.int p1), (.int c0)])) _
  refine XS.icmpYes X2.here hx rfl (pc0 := 16) (pc' := 22) rfl (hb hby d31_16) rfl (feq hc16).2 (by decide) (by decide) ?_
  refine XS.iinc X2.here hx rfl (hb hby d31_22) rfl (l' := #[.val (.ref a1), .val (.int p1), .val (.int (0 : Int32)), .val (.int (4 : Int32)), .val (.int ((0 : Int32) + (1 : Int32)))]) rfl ?_
  show Steps p.tables e below (T2.setTop (mkF m 25 #[.val (.ref a1), .val (.int p1), .val (.int (0 : Int32)), .val (.int (4 : Int32)), .val (.int ((0 : Int32) + (1 : Int32)))] [])) _
  rw [show ((0 : Int32) + (1 : Int32)) = (1 : Int32) from by decide]
  refine XS.goto X2.here hx rfl (pc0 := 25) (pc' := 3) rfl (hb hby d31_25) (by decide) (by decide) ?_
  refine XS.iload X2.here hx rfl (hb hby d31_3) rfl ?_
  refine XS.iloadN X2.here hx rfl (hb hby d31_5) rfl ?_
  refine XS.icmpNo X2.here hx rfl (hb hby d31_6) rfl (tlt (by decide : (1 : Int32) < (4 : Int32))).2.1 ?_
  refine XS.aloadN X2.here hx rfl (hb hby d31_9) rfl rfl ?_
  refine XS.iload X2.here hx rfl (hb hby d31_10) rfl ?_
  refine st7 _ ?_
  refine XS.iloadN X7.here hx rfl (hb hby d31_15) rfl ?_
  exact k)
 by_cases hc16_9 : c1 = p1
 ·have pre10 : ∀ t, Steps p.tables e below (T7.setTop (mkF m 21 #[.val (.ref a1), .val (.int p1), .val (.int (0 : Int32)), .val (.int (4 : Int32)), .val (.int (1 : Int32))] [(.int (1 : Int32))])) t → Steps p.tables e below (s₁.setTop (entryFrame m #[(.ref a1), (.int p1), (.int (0 : Int32)), (.int (4 : Int32))] 5)) t := fun t k => pre8 t (by
   show Steps p.tables e below (T7.setTop (mkF m 16 #[.val (.ref a1), .val (.int p1), .val (.int (0 : Int32)), .val (.int (4 : Int32)), .val (.int (1 : Int32))] [(.int p1), (.int c1)])) _
   refine XS.icmpNo X7.here hx rfl (hb hby d31_16) rfl (teq hc16_9).2 ?_
   refine XS.iload X7.here hx rfl (hb hby d31_19) rfl ?_
   exact k)
  obtain ⟨fs11, hr11, hrun11, hended11, hW11, hsame11⟩ := X7.leave (v := some (.int (1 : Int32))) (fun h => by rw [Bd.returns] at h; cases h)
  refine ⟨_, _, pre10 _ ?_, hrun11, hended11, _, _, rfl, ?_, ⟨_, rfl⟩, hW11, hsame11.mono (by decide) (by decide)⟩
  ·show Steps p.tables e below (T7.setTop (mkF m 21 #[.val (.ref a1), .val (.int p1), .val (.int (0 : Int32)), .val (.int (4 : Int32)), .val (.int (1 : Int32))] [(.int (1 : Int32))])) _
   exact retOut X7 hx (t := .int) Bd.returns rfl (Or.inl ⟨rfl, Or.inl rfl, _, rfl⟩) (hb hby d31_21) hr11
  ·show Quu4 Z a1 k1 c0 c1 c2 c3 p1 h0 n0 _ T7.heap _
   rw [q7]
   exact ⟨_, rfl, N7, rfl, fun q => absurd q (by decide), fun q => absurd (Or.inr (Or.inl hc16_9)) q⟩
 have Vc12 := As
 obtain ⟨cl12, Ar12, qq12, sz12, nn12, Ha12, Gf12⟩ := Vc12
 have r0_12 : own_rd cl12 ((2 : Int32) <<< ((1 : Int32) &&& 31)) (StrChars.lo8 c2) := own_rdOf sz12 Ha12 ⟨by decide, by decide⟩ (by rw [show (((2 : Int32) <<< ((1 : Int32) &&& 31))).toNatClampNeg = 4 from by decide]; rfl)
 have r1_12 : own_rd cl12 (((2 : Int32) <<< ((1 : Int32) &&& 31)) + (1 : Int32)) (StrChars.hi8 c2) := own_rdOf sz12 Ha12 ⟨by decide, by decide⟩ (by rw [show ((((2 : Int32) <<< ((1 : Int32) &&& 31)) + (1 : Int32))).toNatClampNeg = 5 from by decide]; rfl)
 obtain ⟨_, _, ⟨T13, L13, k13, n13⟩, -, X13, ⟨Lc13, hQ13, l13, y13, z13⟩, st13⟩ := Jvm.LawKit.callS X7 hx (y := own_z10) hown (mvT hZ (wd104 hw)) (mvT hZ (wd105 hw)) (mvT hZ (wd74 hw)) (mvT hZ (wd106 hw)) (by decide) (backOf (W := 0) (rmgc l Z a0 hw [] a1 cl12 (2 : Int32) (StrChars.lo8 c2) (StrChars.hi8 c2) c2 h0 n0 Z0 EN (own_gcv hb2) Ar12 r0_12 r1_12) hZ (wd106 hw) (wd74 hw) (by decide) (by decide)) (g := (mkF m 12 #[.val (.ref a1), .val (.int p1), .val (.int (0 : Int32)), .val (.int (4 : Int32)), .val (.int (2 : Int32))] [(.int (2 : Int32)), (.ref a1)])) rfl (by rw [hml]; rfl) (argsL := [(.ref a1), (.int (2 : Int32))]) (rest := []) (lenOf pd_gc rfl) rfl (by show 2 * 0 + _ ≤ _; exact Nat.le_of_eq rfl) (hb hby d31_12) (fun _ _ => ⟨rfl, q7, (by decide : 0 + 0 ≤ _), (by decide : 0 + 0 ≤ _)⟩)
 dsimp only [Pt.U, Pt.locs, Pt.cells, Pt.slots] at X13 l13 y13 z13 st13 hQ13
 subst l13 y13 z13
 obtain ⟨rfl, N13q, q13⟩ := hQ13
 have N13 := Fr.app N7 N13q
 have pre14 : ∀ t, Steps p.tables e below (T13.setTop (mkF m 16 #[.val (.ref a1), .val (.int p1), .val (.int (0 : Int32)), .val (.int (4 : Int32)), .val (.int (2 : Int32))] [(.int p1), (.int c2)])) t → Steps p.tables e below (s₁.setTop (entryFrame m #[(.ref a1), (.int p1), (.int (0 : Int32)), (.int (4 : Int32))] 5)) t := fun t k => pre8 t (by
  show Steps p.tables e below (T7.setTop (mkF m 16 #[.val (.ref a1), .val (.int p1), .val (.int (0 : Int32)), .val (.int (4 : Int32)), .val (.int (1 : Int32))] [(.int p1), (.int c1)])) _
  refine XS.icmpYes X7.here hx rfl (pc0 := 16) (pc' := 22) rfl (hb hby d31_16) rfl (feq hc16_9).2 (by decide) (by decide) ?_
  refine XS.iinc X7.here hx rfl (hb hby d31_22) rfl (l' := #[.val (.ref a1), .val (.int p1), .val (.int (0 : Int32)), .val (.int (4 : Int32)), .val (.int ((1 : Int32) + (1 : Int32)))]) rfl ?_
  show Steps p.tables e below (T7.setTop (mkF m 25 #[.val (.ref a1), .val (.int p1), .val (.int (0 : Int32)), .val (.int (4 : Int32)), .val (.int ((1 : Int32) + (1 : Int32)))] [])) _
  rw [show ((1 : Int32) + (1 : Int32)) = (2 : Int32) from by decide]
  refine XS.goto X7.here hx rfl (pc0 := 25) (pc' := 3) rfl (hb hby d31_25) (by decide) (by decide) ?_
  refine XS.iload X7.here hx rfl (hb hby d31_3) rfl ?_
  refine XS.iloadN X7.here hx rfl (hb hby d31_5) rfl ?_
  refine XS.icmpNo X7.here hx rfl (hb hby d31_6) rfl (tlt (by decide : (2 : Int32) < (4 : Int32))).2.1 ?_
  refine XS.aloadN X7.here hx rfl (hb hby d31_9) rfl rfl ?_
  refine XS.iload X7.here hx rfl (hb hby d31_10) rfl ?_
  refine st13 _ ?_
  refine XS.iloadN X13.here hx rfl (hb hby d31_15) rfl ?_
  exact k)
 by_cases hc16_15 : c2 = p1
 ·have pre16 : ∀ t, Steps p.tables e below (T13.setTop (mkF m 21 #[.val (.ref a1), .val (.int p1), .val (.int (0 : Int32)), .val (.int (4 : Int32)), .val (.int (2 : Int32))] [(.int (2 : Int32))])) t → Steps p.tables e below (s₁.setTop (entryFrame m #[(.ref a1), (.int p1), (.int (0 : Int32)), (.int (4 : Int32))] 5)) t := fun t k => pre14 t (by
   show Steps p.tables e below (T13.setTop (mkF m 16 #[.val (.ref a1), .val (.int p1), .val (.int (0 : Int32)), .val (.int (4 : Int32)), .val (.int (2 : Int32))] [(.int p1), (.int c2)])) _
   refine XS.icmpNo X13.here hx rfl (hb hby d31_16) rfl (teq hc16_15).2 ?_
   refine XS.iload X13.here hx rfl (hb hby d31_19) rfl ?_
   exact k)
  obtain ⟨fs17, hr17, hrun17, hended17, hW17, hsame17⟩ := X13.leave (v := some (.int (2 : Int32))) (fun h => by rw [Bd.returns] at h; cases h)
  refine ⟨_, _, pre16 _ ?_, hrun17, hended17, _, _, rfl, ?_, ⟨_, rfl⟩, hW17, hsame17.mono (by decide) (by decide)⟩
  ·show Steps p.tables e below (T13.setTop (mkF m 21 #[.val (.ref a1), .val (.int p1), .val (.int (0 : Int32)), .val (.int (4 : Int32)), .val (.int (2 : Int32))] [(.int (2 : Int32))])) _
   exact retOut X13 hx (t := .int) Bd.returns rfl (Or.inl ⟨rfl, Or.inl rfl, _, rfl⟩) (hb hby d31_21) hr17
  ·show Quu4 Z a1 k1 c0 c1 c2 c3 p1 h0 n0 _ T13.heap _
   rw [q13]
   exact ⟨_, rfl, N13, rfl, fun q => absurd q (by decide), fun q => absurd (Or.inr (Or.inr (Or.inl hc16_15))) q⟩
 have Vc18 := As
 obtain ⟨cl18, Ar18, qq18, sz18, nn18, Ha18, Gf18⟩ := Vc18
 have r0_18 : own_rd cl18 ((3 : Int32) <<< ((1 : Int32) &&& 31)) (StrChars.lo8 c3) := own_rdOf sz18 Ha18 ⟨by decide, by decide⟩ (by rw [show (((3 : Int32) <<< ((1 : Int32) &&& 31))).toNatClampNeg = 6 from by decide]; rfl)
 have r1_18 : own_rd cl18 (((3 : Int32) <<< ((1 : Int32) &&& 31)) + (1 : Int32)) (StrChars.hi8 c3) := own_rdOf sz18 Ha18 ⟨by decide, by decide⟩ (by rw [show ((((3 : Int32) <<< ((1 : Int32) &&& 31)) + (1 : Int32))).toNatClampNeg = 7 from by decide]; rfl)
 obtain ⟨_, _, ⟨T19, L19, k19, n19⟩, -, X19, ⟨Lc19, hQ19, l19, y19, z19⟩, st19⟩ := Jvm.LawKit.callS X13 hx (y := own_z10) hown (mvT hZ (wd104 hw)) (mvT hZ (wd105 hw)) (mvT hZ (wd74 hw)) (mvT hZ (wd106 hw)) (by decide) (backOf (W := 0) (rmgc l Z a0 hw [] a1 cl18 (3 : Int32) (StrChars.lo8 c3) (StrChars.hi8 c3) c3 h0 n0 Z0 EN (own_gcv hb3) Ar18 r0_18 r1_18) hZ (wd106 hw) (wd74 hw) (by decide) (by decide)) (g := (mkF m 12 #[.val (.ref a1), .val (.int p1), .val (.int (0 : Int32)), .val (.int (4 : Int32)), .val (.int (3 : Int32))] [(.int (3 : Int32)), (.ref a1)])) rfl (by rw [hml]; rfl) (argsL := [(.ref a1), (.int (3 : Int32))]) (rest := []) (lenOf pd_gc rfl) rfl (by show 2 * 0 + _ ≤ _; exact Nat.le_of_eq rfl) (hb hby d31_12) (fun _ _ => ⟨rfl, q13, (by decide : 0 + 0 ≤ _), (by decide : 0 + 0 ≤ _)⟩)
 dsimp only [Pt.U, Pt.locs, Pt.cells, Pt.slots] at X19 l19 y19 z19 st19 hQ19
 subst l19 y19 z19
 obtain ⟨rfl, N19q, q19⟩ := hQ19
 have N19 := Fr.app N13 N19q
 have pre20 : ∀ t, Steps p.tables e below (T19.setTop (mkF m 16 #[.val (.ref a1), .val (.int p1), .val (.int (0 : Int32)), .val (.int (4 : Int32)), .val (.int (3 : Int32))] [(.int p1), (.int c3)])) t → Steps p.tables e below (s₁.setTop (entryFrame m #[(.ref a1), (.int p1), (.int (0 : Int32)), (.int (4 : Int32))] 5)) t := fun t k => pre14 t (by
  show Steps p.tables e below (T13.setTop (mkF m 16 #[.val (.ref a1), .val (.int p1), .val (.int (0 : Int32)), .val (.int (4 : Int32)), .val (.int (2 : Int32))] [(.int p1), (.int c2)])) _
  refine XS.icmpYes X13.here hx rfl (pc0 := 16) (pc' := 22) rfl (hb hby d31_16) rfl (feq hc16_15).2 (by decide) (by decide) ?_
  refine XS.iinc X13.here hx rfl (hb hby d31_22) rfl (l' := #[.val (.ref a1), .val (.int p1), .val (.int (0 : Int32)), .val (.int (4 : Int32)), .val (.int ((2 : Int32) + (1 : Int32)))]) rfl ?_
  show Steps p.tables e below (T13.setTop (mkF m 25 #[.val (.ref a1), .val (.int p1), .val (.int (0 : Int32)), .val (.int (4 : Int32)), .val (.int ((2 : Int32) + (1 : Int32)))] [])) _
  rw [show ((2 : Int32) + (1 : Int32)) = (3 : Int32) from by decide]
  refine XS.goto X13.here hx rfl (pc0 := 25) (pc' := 3) rfl (hb hby d31_25) (by decide) (by decide) ?_
  refine XS.iload X13.here hx rfl (hb hby d31_3) rfl ?_
  refine XS.iloadN X13.here hx rfl (hb hby d31_5) rfl ?_
  refine XS.icmpNo X13.here hx rfl (hb hby d31_6) rfl (tlt (by decide : (3 : Int32) < (4 : Int32))).2.1 ?_
  refine XS.aloadN X13.here hx rfl (hb hby d31_9) rfl rfl ?_
  refine XS.iload X13.here hx rfl (hb hby d31_10) rfl ?_
  refine st19 _ ?_
  refine XS.iloadN X19.here hx rfl (hb hby d31_15) rfl ?_
  exact k)
 by_cases hc16_21 : c3 = p1
 ·have pre22 : ∀ t, Steps p.tables e below (T19.setTop (mkF m 21 #[.val (.ref a1), .val (.int p1), .val (.int (0 : Int32)), .val (.int (4 : Int32)), .val (.int (3 : Int32))] [(.int (3 : Int32))])) t → Steps p.tables e below (s₁.setTop (entryFrame m #[(.ref a1), (.int p1), (.int (0 : Int32)), (.int (4 : Int32))] 5)) t := fun t k => pre20 t (by
   show Steps p.tables e below (T19.setTop (mkF m 16 #[.val (.ref a1), .val (.int p1), .val (.int (0 : Int32)), .val (.int (4 : Int32)), .val (.int (3 : Int32))] [(.int p1), (.int c3)])) _
   refine XS.icmpNo X19.here hx rfl (hb hby d31_16) rfl (teq hc16_21).2 ?_
   refine XS.iload X19.here hx rfl (hb hby d31_19) rfl ?_
   exact k)
  obtain ⟨fs23, hr23, hrun23, hended23, hW23, hsame23⟩ := X19.leave (v := some (.int (3 : Int32))) (fun h => by rw [Bd.returns] at h; cases h)
  refine ⟨_, _, pre22 _ ?_, hrun23, hended23, _, _, rfl, ?_, ⟨_, rfl⟩, hW23, hsame23.mono (by decide) (by decide)⟩
  ·show Steps p.tables e below (T19.setTop (mkF m 21 #[.val (.ref a1), .val (.int p1), .val (.int (0 : Int32)), .val (.int (4 : Int32)), .val (.int (3 : Int32))] [(.int (3 : Int32))])) _
   exact retOut X19 hx (t := .int) Bd.returns rfl (Or.inl ⟨rfl, Or.inl rfl, _, rfl⟩) (hb hby d31_21) hr23
  ·show Quu4 Z a1 k1 c0 c1 c2 c3 p1 h0 n0 _ T19.heap _
   rw [q19]
   exact ⟨_, rfl, N19, rfl, fun q => absurd q (by decide), fun q => absurd (Or.inr (Or.inr (Or.inr (hc16_21)))) q⟩
 have pre24 : ∀ t, Steps p.tables e below (T19.setTop (mkF m 29 #[.val (.ref a1), .val (.int p1), .val (.int (0 : Int32)), .val (.int (4 : Int32)), .val (.int (4 : Int32))] [(.int (-1 : Int32))])) t → Steps p.tables e below (s₁.setTop (entryFrame m #[(.ref a1), (.int p1), (.int (0 : Int32)), (.int (4 : Int32))] 5)) t := fun t k => pre20 t (by
  show Steps p.tables e below (T19.setTop (mkF m 16 #[.val (.ref a1), .val (.int p1), .val (.int (0 : Int32)), .val (.int (4 : Int32)), .val (.int (3 : Int32))] [(.int p1), (.int c3)])) _
  refine XS.icmpYes X19.here hx rfl (pc0 := 16) (pc' := 22) rfl (hb hby d31_16) rfl (feq hc16_21).2 (by decide) (by decide) ?_
  refine XS.iinc X19.here hx rfl (hb hby d31_22) rfl (l' := #[.val (.ref a1), .val (.int p1), .val (.int (0 : Int32)), .val (.int (4 : Int32)), .val (.int ((3 : Int32) + (1 : Int32)))]) rfl ?_
  show Steps p.tables e below (T19.setTop (mkF m 25 #[.val (.ref a1), .val (.int p1), .val (.int (0 : Int32)), .val (.int (4 : Int32)), .val (.int ((3 : Int32) + (1 : Int32)))] [])) _
  rw [show ((3 : Int32) + (1 : Int32)) = (4 : Int32) from by decide]
  refine XS.goto X19.here hx rfl (pc0 := 25) (pc' := 3) rfl (hb hby d31_25) (by decide) (by decide) ?_
  refine XS.iload X19.here hx rfl (hb hby d31_3) rfl ?_
  refine XS.iloadN X19.here hx rfl (hb hby d31_5) rfl ?_
  refine XS.icmpYes X19.here hx rfl (pc0 := 6) (pc' := 28) rfl (hb hby d31_6) rfl (flt (by decide : ¬ ((4 : Int32) < (4 : Int32)))).2.1 (by decide) (by decide) ?_
  refine XS.iconst X19.here hx rfl (hb hby d31_28) ?_
  exact k)
 obtain ⟨fs25, hr25, hrun25, hended25, hW25, hsame25⟩ := X19.leave (v := some (.int (-1 : Int32))) (fun h => by rw [Bd.returns] at h; cases h)
 refine ⟨_, _, pre24 _ ?_, hrun25, hended25, _, _, rfl, ?_, ⟨_, rfl⟩, hW25, hsame25.mono (by decide) (by decide)⟩
 ·show Steps p.tables e below (T19.setTop (mkF m 29 #[.val (.ref a1), .val (.int p1), .val (.int (0 : Int32)), .val (.int (4 : Int32)), .val (.int (4 : Int32))] [(.int (-1 : Int32))])) _
  exact retOut X19 hx (t := .int) Bd.returns rfl (Or.inl ⟨rfl, Or.inl rfl, _, rfl⟩) (hb hby d31_29) hr25
 ·show Quu4 Z a1 k1 c0 c1 c2 c3 p1 h0 n0 _ T19.heap _
  rw [q19]
  exact ⟨_, rfl, N19, rfl, fun _ q => by
   rcases q with q | q | q | q
   ·exact hc16 q
   ·exact hc16_9 q
   ·exact hc16_15 q
   ·exact hc16_21 q, fun _ => by decide⟩

theorem d26_0 : decode jdk_52_method_47_code 0 = .ok (.iload_n 2, 1) := by decide +kernel
theorem d26_1 : decode jdk_52_method_47_code 1 = .ok (.iload_n 3, 1) := by decide +kernel
theorem d26_2 : decode jdk_52_method_47_code 2 = .ok (.aload_n 0, 1) := by decide +kernel
theorem d26_3 : decode jdk_52_method_47_code 3 = .ok (.invokestatic 96, 3) := by decide +kernel
theorem d26_6 : decode jdk_52_method_47_code 6 = .ok (.aload_n 0, 1) := by decide +kernel
theorem d26_7 : decode jdk_52_method_47_code 7 = .ok (.iload_n 1, 1) := by decide +kernel
theorem d26_8 : decode jdk_52_method_47_code 8 = .ok (.iload_n 2, 1) := by decide +kernel
theorem d26_9 : decode jdk_52_method_47_code 9 = .ok (.iload_n 3, 1) := by decide +kernel
theorem d26_10 : decode jdk_52_method_47_code 10 = .ok (.invokestatic 244, 3) := by decide +kernel
theorem d26_13 : decode jdk_52_method_47_code 13 = .ok (.ireturn, 1) := by decide +kernel


def Quc (Z : State) (a1 : Addr) (n p1 : Int32) (P : Prop) (h0 : Heap) (n0 : Nat) (v : Option Value) (h : Heap) (L : List Loc) : Prop := own_QI h0 n0 P v h L
set_option maxRecDepth 65536 in
set_option maxHeartbeats 40000000 in
theorem rmuc (l : Launch) (Z : State) (a0 : Array Value) (hw : ∀ d ∈ tables_1, d.before a0 Z = true) (ws : List Jvm.Cond) (a1 : Addr) (n p1 : Int32) (P : Prop) (h0 : Heap) (n0 : Nat) (Z0 : n0 ≤ h0.size) (HB : own_M l Z own_z9 jdk_52_method_93_code 3 none ({ frames := 2, cells := 0, slots := 0, locals := 30 } : Room) [] #[(.int (0 : Int32)), (.int n), (.ref a1)] h0 (own_QN h0 n0)) (HU : own_M l Z own_z22 jdk_52_method_48_code 5 (some .int) ({ frames := 1, cells := 0, slots := 0, locals := 13 } : Room) [] #[(.ref a1), (.int p1), (.int (0 : Int32)), (.int n)] h0 (own_QI h0 n0 (P))) :
  own_M l Z own_z23 jdk_52_method_47_code 4 (some .int) ({ frames := 3, cells := 0, slots := 0, locals := 44 } : Room) ws #[(.ref a1), (.int p1), (.int (0 : Int32)), (.int n)] h0 (Quc Z a1 n p1 P h0 n0) := by
 refine MetFree.of_bodySF (plainFor_of_name pn_k5) hisR ?_
 intro p e s m args below meth c s₁ Bd hml0 hP hK
 obtain ⟨rfl, hZ, hh⟩ := hP
 have hx := Bd.exec
 have hby := Bd.bytes
 have hml : c.maxLocals = 4 := hml0
 have hown : s.vm.findClass "java/lang/StringUTF16" = some m.cls := findClass_of_methodNamed Bd.named
 have hnm := (name_of_methodNamed Bd.named Bd.method).1
 have X0 : Stand p l e ({ frames := 3, cells := 0, slots := 0, locals := 44 } : Room) s m #[(.ref a1), (.int p1), (.int (0 : Int32)), (.int n)] below meth c s₁ [] 0 0 := Stand.of_body Bd
 have e0 : s₁.heap = h0 := by rw [← hh, Bd.state]; rfl
 have N0 := Fr.nil n0
 have pre0 : ∀ t, Steps p.tables e below (s₁.setTop (mkF m 0 #[.val (.ref a1), .val (.int p1), .val (.int (0 : Int32)), .val (.int n)] [])) t → Steps p.tables e below (s₁.setTop (entryFrame m #[(.ref a1), (.int p1), (.int (0 : Int32)), (.int n)] 4)) t := fun t k => castTop (ef_li m a1 p1 (0 : Int32) n) k
 obtain ⟨_, _, ⟨T1, L1, k1, n1⟩, -, X1, ⟨Lc1, hQ1, l1, y1, z1⟩, st1⟩ := Jvm.LawKit.callS X0 hx (y := own_z9) hown (mvT hZ (wd116 hw)) (mvT hZ (wd117 hw)) (mvT hZ (wd74 hw)) (mvT hZ (wd118 hw)) (by decide) (backOf (W := 0) HB hZ (wd118 hw) (wd74 hw) (by decide) (by decide)) (g := (mkF m 3 #[.val (.ref a1), .val (.int p1), .val (.int (0 : Int32)), .val (.int n)] [(.ref a1), (.int n), (.int (0 : Int32))])) rfl (by rw [hml]; rfl) (argsL := [(.int (0 : Int32)), (.int n), (.ref a1)]) (rest := []) (lenOf pd_ub rfl) rfl (by show 2 * 0 + _ ≤ _; exact Nat.le_of_eq rfl) (hb hby d26_3) (fun _ _ => ⟨rfl, e0, (by decide : 0 + 0 ≤ _), (by decide : 0 + 0 ≤ _)⟩)
 dsimp only [Pt.U, Pt.locs, Pt.cells, Pt.slots] at X1 l1 y1 z1 st1 hQ1
 subst l1 y1 z1
 obtain ⟨rfl, N1q, q1⟩ := hQ1
 have N1 := Fr.app N0 N1q
 obtain ⟨_, _, ⟨T2, L2, k2, n2⟩, -, X2, ⟨Lc2, hQ2, l2, y2, z2⟩, st2⟩ := Jvm.LawKit.callS X1 hx (y := own_z22) hown (mvT hZ (wd130 hw)) (mvT hZ (wd131 hw)) (mvT hZ (wd74 hw)) (mvT hZ (wd132 hw)) (by decide) (backOf (W := 0) HU hZ (wd132 hw) (wd74 hw) (by decide) (by decide)) (g := (mkF m 10 #[.val (.ref a1), .val (.int p1), .val (.int (0 : Int32)), .val (.int n)] [(.int n), (.int (0 : Int32)), (.int p1), (.ref a1)])) rfl (by rw [hml]; rfl) (argsL := [(.ref a1), (.int p1), (.int (0 : Int32)), (.int n)]) (rest := []) (lenOf pd_lc rfl) rfl (by show 2 * 0 + _ ≤ _; exact Nat.le_of_eq rfl) (hb hby d26_10) (fun _ _ => ⟨rfl, q1, (by decide : 0 + 0 ≤ _), (by decide : 0 + 0 ≤ _)⟩)
 dsimp only [Pt.U, Pt.locs, Pt.cells, Pt.slots] at X2 l2 y2 z2 st2 hQ2
 subst l2 y2 z2
 obtain ⟨r2, rfl, N2q, q2, hr2⟩ := hQ2
 have N2 := Fr.app N1 N2q
 have pre3 : ∀ t, Steps p.tables e below (T2.setTop (mkF m 13 #[.val (.ref a1), .val (.int p1), .val (.int (0 : Int32)), .val (.int n)] [(.int r2)])) t → Steps p.tables e below (s₁.setTop (entryFrame m #[(.ref a1), (.int p1), (.int (0 : Int32)), (.int n)] 4)) t := fun t k => pre0 t (by
  show Steps p.tables e below (s₁.setTop (mkF m 0 #[.val (.ref a1), .val (.int p1), .val (.int (0 : Int32)), .val (.int n)] [])) _
  refine XS.iloadN X0.here hx rfl (hb hby d26_0) rfl ?_
  refine XS.iloadN X0.here hx rfl (hb hby d26_1) rfl ?_
  refine XS.aloadN X0.here hx rfl (hb hby d26_2) rfl rfl ?_
  refine st1 _ ?_
  refine XS.aloadN X1.here hx rfl (hb hby d26_6) rfl rfl ?_
  refine XS.iloadN X1.here hx rfl (hb hby d26_7) rfl ?_
  refine XS.iloadN X1.here hx rfl (hb hby d26_8) rfl ?_
  refine XS.iloadN X1.here hx rfl (hb hby d26_9) rfl ?_
  refine st2 _ ?_
  exact k)
 obtain ⟨fs4, hr4, hrun4, hended4, hW4, hsame4⟩ := X2.leave (v := some (.int r2)) (fun h => by rw [Bd.returns] at h; cases h)
 refine ⟨_, _, pre3 _ ?_, hrun4, hended4, _, _, rfl, ?_, ⟨_, rfl⟩, hW4, hsame4.mono (by decide) (by decide)⟩
 ·show Steps p.tables e below (T2.setTop (mkF m 13 #[.val (.ref a1), .val (.int p1), .val (.int (0 : Int32)), .val (.int n)] [(.int r2)])) _
  exact retOut X2 hx (t := .int) Bd.returns rfl (Or.inl ⟨rfl, Or.inl rfl, _, rfl⟩) (hb hby d26_13) hr4
 ·show Quc Z a1 n p1 P h0 n0 _ T2.heap _
  rw [q2]
  exact ⟨_, rfl, N2, rfl, hr2⟩

theorem d25_0 : decode jdk_52_method_40_code 0 = .ok (.iload_n 2, 1) := by decide +kernel
theorem d25_1 : decode jdk_52_method_40_code 1 = .ok (.iconst 0, 1) := by decide +kernel
theorem d25_2 : decode jdk_52_method_40_code 2 = .ok (.invokestatic 224, 3) := by decide +kernel
theorem d25_5 : decode jdk_52_method_40_code 5 = .ok (.istore_n 2, 1) := by decide +kernel
theorem d25_6 : decode jdk_52_method_40_code 6 = .ok (.iload_n 3, 1) := by decide +kernel
theorem d25_7 : decode jdk_52_method_40_code 7 = .ok (.aload_n 0, 1) := by decide +kernel
theorem d25_8 : decode jdk_52_method_40_code 8 = .ok (.arraylength, 1) := by decide +kernel
theorem d25_9 : decode jdk_52_method_40_code 9 = .ok (.iconst 1, 1) := by decide +kernel
theorem d25_10 : decode jdk_52_method_40_code 10 = .ok (.ishr, 1) := by decide +kernel
theorem d25_11 : decode jdk_52_method_40_code 11 = .ok (.invokestatic 183, 3) := by decide +kernel
theorem d25_14 : decode jdk_52_method_40_code 14 = .ok (.istore_n 3, 1) := by decide +kernel
theorem d25_15 : decode jdk_52_method_40_code 15 = .ok (.iload_n 2, 1) := by decide +kernel
theorem d25_16 : decode jdk_52_method_40_code 16 = .ok (.iload_n 3, 1) := by decide +kernel
theorem d25_17 : decode jdk_52_method_40_code 17 = .ok (.if_icmp .lt 5, 3) := by decide +kernel
theorem d25_22 : decode jdk_52_method_40_code 22 = .ok (.iload_n 1, 1) := by decide +kernel
theorem d25_23 : decode jdk_52_method_40_code 23 = .ok (.ldc 227, 2) := by decide +kernel
theorem d25_25 : decode jdk_52_method_40_code 25 = .ok (.if_icmp .ge 11, 3) := by decide +kernel
theorem d25_28 : decode jdk_52_method_40_code 28 = .ok (.aload_n 0, 1) := by decide +kernel
theorem d25_29 : decode jdk_52_method_40_code 29 = .ok (.iload_n 1, 1) := by decide +kernel
theorem d25_30 : decode jdk_52_method_40_code 30 = .ok (.iload_n 2, 1) := by decide +kernel
theorem d25_31 : decode jdk_52_method_40_code 31 = .ok (.iload_n 3, 1) := by decide +kernel
theorem d25_32 : decode jdk_52_method_40_code 32 = .ok (.invokestatic 228, 3) := by decide +kernel
theorem d25_35 : decode jdk_52_method_40_code 35 = .ok (.ireturn, 1) := by decide +kernel


def Qui (Z : State) (a1 : Addr) (k1 : ClassId) (vs : List Value) (NZ n p1 : Int32) (P : Prop) (h0 : Heap) (n0 : Nat) (v : Option Value) (h : Heap) (L : List Loc) : Prop := own_QI h0 n0 P v h L
set_option maxRecDepth 65536 in
set_option maxHeartbeats 40000000 in
theorem rmui (l : Launch) (Z : State) (a0 : Array Value) (hw : ∀ d ∈ tables_1, d.before a0 Z = true) (ws : List Jvm.Cond) (a1 : Addr) (k1 : ClassId) (vs : List Value) (NZ n p1 : Int32) (P : Prop) (h0 : Heap) (n0 : Nat) (Z0 : n0 ≤ h0.size) (As : Arv Z h0 a1 k1 .byte NZ vs (.int 0)) (hsh : NZ >>> ((1 : Int32) &&& 31) = n) (hn : (0 : Int32) < n) (hpw : p1 < (65536 : Int32)) (HC : own_M l Z own_z23 jdk_52_method_47_code 4 (some .int) ({ frames := 3, cells := 0, slots := 0, locals := 44 } : Room) [] #[(.ref a1), (.int p1), (.int (0 : Int32)), (.int n)] h0 (own_QI h0 n0 (P))) :
  own_M l Z own_z24 jdk_52_method_40_code 4 (some .int) ({ frames := 4, cells := 0, slots := 0, locals := 59 } : Room) ws #[(.ref a1), (.int p1), (.int (0 : Int32)), (.int n)] h0 (Qui Z a1 k1 vs NZ n p1 P h0 n0) := by
 refine MetFree.of_bodySF (plainFor_of_name pn_k5) hisR ?_
 intro p e s m args below meth c s₁ Bd hml0 hP hK
 obtain ⟨rfl, hZ, hh⟩ := hP
 have hx := Bd.exec
 have hby := Bd.bytes
 have hml : c.maxLocals = 4 := hml0
 have hown : s.vm.findClass "java/lang/StringUTF16" = some m.cls := findClass_of_methodNamed Bd.named
 have hnm := (name_of_methodNamed Bd.named Bd.method).1
 have X0 : Stand p l e ({ frames := 4, cells := 0, slots := 0, locals := 59 } : Room) s m #[(.ref a1), (.int p1), (.int (0 : Int32)), (.int n)] below meth c s₁ [] 0 0 := Stand.of_body Bd
 have e0 : s₁.heap = h0 := by rw [← hh, Bd.state]; rfl
 have N0 := Fr.nil n0
 have pre0 : ∀ t, Steps p.tables e below (s₁.setTop (mkF m 0 #[.val (.ref a1), .val (.int p1), .val (.int (0 : Int32)), .val (.int n)] [])) t → Steps p.tables e below (s₁.setTop (entryFrame m #[(.ref a1), (.int p1), (.int (0 : Int32)), (.int n)] 4)) t := fun t k => castTop (ef_li m a1 p1 (0 : Int32) n) k
 obtain ⟨_, _, ⟨T1, L1, k1, n1⟩, -, X1, ⟨Lc1, hQ1, l1, y1, z1⟩, st1⟩ := Jvm.LawKit.callS X0 hx (y := own_z2) hown (mvT hZ (wd110 hw)) (mvT hZ (wd66 hw)) (mvT hZ (wd67 hw)) (mvT hZ (wd68 hw)) (by decide) (backOf (W := 0) (rmmx l Z a0 hw [] (0 : Int32) (0 : Int32) (0 : Int32) h0 n0 Z0 (by decide)) hZ (wd68 hw) (wd67 hw) (by decide) (by decide)) (g := (mkF m 2 #[.val (.ref a1), .val (.int p1), .val (.int (0 : Int32)), .val (.int n)] [(.int (0 : Int32)), (.int (0 : Int32))])) rfl (by rw [hml]; rfl) (argsL := [(.int (0 : Int32)), (.int (0 : Int32))]) (rest := []) (lenOf pd_mx rfl) rfl (by show 2 * 0 + _ ≤ _; exact Nat.le_of_eq rfl) (hb hby d25_2) (fun _ _ => ⟨rfl, e0, (by decide : 0 + 0 ≤ _), (by decide : 0 + 0 ≤ _)⟩)
 dsimp only [Pt.U, Pt.locs, Pt.cells, Pt.slots] at X1 l1 y1 z1 st1 hQ1
 subst l1 y1 z1
 obtain ⟨rfl, N1q, q1⟩ := hQ1
 have N1 := Fr.app N0 N1q
 have Vc2 := As
 obtain ⟨cl2, Ar2, qq2, sz2, nn2, Ha2, Gf2⟩ := Vc2
 obtain ⟨_, _, ⟨T3, L3, k3, n3⟩, -, X3, ⟨Lc3, hQ3, l3, y3, z3⟩, st3⟩ := Jvm.LawKit.callS X1 hx (y := own_z3) hown (mvT hZ (wd111 hw)) (mvT hZ (wd70 hw)) (mvT hZ (wd67 hw)) (mvT hZ (wd71 hw)) (by decide) (backOf (W := 0) (rmmn l Z a0 hw [] n (NZ >>> ((1 : Int32) &&& 31)) n h0 n0 Z0 (by rw [hsh]; exact own_minn _)) hZ (wd71 hw) (wd67 hw) (by decide) (by decide)) (g := (mkF m 11 #[.val (.ref a1), .val (.int p1), .val (.int (0 : Int32)), .val (.int n)] [(.int (NZ >>> ((1 : Int32) &&& 31))), (.int n)])) rfl (by rw [hml]; rfl) (argsL := [(.int n), (.int (NZ >>> ((1 : Int32) &&& 31)))]) (rest := []) (lenOf pd_mx rfl) rfl (by show 2 * 0 + _ ≤ _; exact Nat.le_of_eq rfl) (hb hby d25_11) (fun _ _ => ⟨rfl, q1, (by decide : 0 + 0 ≤ _), (by decide : 0 + 0 ≤ _)⟩)
 dsimp only [Pt.U, Pt.locs, Pt.cells, Pt.slots] at X3 l3 y3 z3 st3 hQ3
 subst l3 y3 z3
 obtain ⟨rfl, N3q, q3⟩ := hQ3
 have N3 := Fr.app N1 N3q
 obtain ⟨_, _, ⟨T4, L4, k4, n4⟩, -, X4, ⟨Lc4, hQ4, l4, y4, z4⟩, st4⟩ := Jvm.LawKit.callS X3 hx (y := own_z23) hown (mvT hZ (wd113 hw)) (mvT hZ (wd114 hw)) (mvT hZ (wd74 hw)) (mvT hZ (wd115 hw)) (by decide) (backOf (W := 0) HC hZ (wd115 hw) (wd74 hw) (by decide) (by decide)) (g := (mkF m 32 #[.val (.ref a1), .val (.int p1), .val (.int (0 : Int32)), .val (.int n)] [(.int n), (.int (0 : Int32)), (.int p1), (.ref a1)])) rfl (by rw [hml]; rfl) (argsL := [(.ref a1), (.int p1), (.int (0 : Int32)), (.int n)]) (rest := []) (lenOf pd_lc rfl) rfl (by show 2 * 0 + _ ≤ _; exact Nat.le_of_eq rfl) (hb hby d25_32) (fun _ _ => ⟨rfl, q3, (by decide : 0 + 0 ≤ _), (by decide : 0 + 0 ≤ _)⟩)
 dsimp only [Pt.U, Pt.locs, Pt.cells, Pt.slots] at X4 l4 y4 z4 st4 hQ4
 subst l4 y4 z4
 obtain ⟨r4, rfl, N4q, q4, hr4⟩ := hQ4
 have N4 := Fr.app N3 N4q
 have pre5 : ∀ t, Steps p.tables e below (T4.setTop (mkF m 35 #[.val (.ref a1), .val (.int p1), .val (.int (0 : Int32)), .val (.int n)] [(.int r4)])) t → Steps p.tables e below (s₁.setTop (entryFrame m #[(.ref a1), (.int p1), (.int (0 : Int32)), (.int n)] 4)) t := fun t k => pre0 t (by
  show Steps p.tables e below (s₁.setTop (mkF m 0 #[.val (.ref a1), .val (.int p1), .val (.int (0 : Int32)), .val (.int n)] [])) _
  refine XS.iloadN X0.here hx rfl (hb hby d25_0) rfl ?_
  refine XS.iconst X0.here hx rfl (hb hby d25_1) ?_
  refine st1 _ ?_
  refine XS.istoreN X1.here hx rfl (hb hby d25_5) rfl (l' := #[.val (.ref a1), .val (.int p1), .val (.int (0 : Int32)), .val (.int n)]) rfl ?_
  refine XS.iloadN X1.here hx rfl (hb hby d25_6) rfl ?_
  refine XS.aloadN X1.here hx rfl (hb hby d25_7) rfl rfl ?_
  refine X1.arraylength hx (by rw [q1]; exact Ar2.1) (State.isArrayOf_alike hZ.alike Ar2.2.1) (g := (mkF m 8 #[.val (.ref a1), .val (.int p1), .val (.int (0 : Int32)), .val (.int n)] [(.ref a1), (.int n)])) rfl rfl (hb hby d25_8) _ ?_
  rw [len_of sz2 nn2]
  refine XS.iconst X1.here hx rfl (hb hby d25_9) ?_
  refine XS.ishr X1.here hx rfl (hb hby d25_10) rfl ?_
  refine st3 _ ?_
  refine XS.istoreN X3.here hx rfl (hb hby d25_14) rfl (l' := #[.val (.ref a1), .val (.int p1), .val (.int (0 : Int32)), .val (.int n)]) rfl ?_
  refine XS.iloadN X3.here hx rfl (hb hby d25_15) rfl ?_
  refine XS.iloadN X3.here hx rfl (hb hby d25_16) rfl ?_
  refine XS.icmpYes X3.here hx rfl (pc0 := 17) (pc' := 22) rfl (hb hby d25_17) rfl (tlt hn).1 (by decide) (by decide) ?_
  refine XS.iloadN X3.here hx rfl (hb hby d25_22) rfl ?_
  refine X3.ldcI hx hown (mvT hZ (wd112 hw)) (g := (mkF m 23 #[.val (.ref a1), .val (.int p1), .val (.int (0 : Int32)), .val (.int n)] [(.int p1)])) rfl (hb hby d25_23) ?_
  refine XS.icmpNo X3.here hx rfl (hb hby d25_25) rfl (tlt hpw).2.1 ?_
  refine XS.aloadN X3.here hx rfl (hb hby d25_28) rfl rfl ?_
  refine XS.iloadN X3.here hx rfl (hb hby d25_29) rfl ?_
  refine XS.iloadN X3.here hx rfl (hb hby d25_30) rfl ?_
  refine XS.iloadN X3.here hx rfl (hb hby d25_31) rfl ?_
  refine st4 _ ?_
  exact k)
 obtain ⟨fs6, hr6, hrun6, hended6, hW6, hsame6⟩ := X4.leave (v := some (.int r4)) (fun h => by rw [Bd.returns] at h; cases h)
 refine ⟨_, _, pre5 _ ?_, hrun6, hended6, _, _, rfl, ?_, ⟨_, rfl⟩, hW6, hsame6.mono (by decide) (by decide)⟩
 ·show Steps p.tables e below (T4.setTop (mkF m 35 #[.val (.ref a1), .val (.int p1), .val (.int (0 : Int32)), .val (.int n)] [(.int r4)])) _
  exact retOut X4 hx (t := .int) Bd.returns rfl (Or.inl ⟨rfl, Or.inl rfl, _, rfl⟩) (hb hby d25_35) hr6
 ·show Qui Z a1 k1 vs NZ n p1 P h0 n0 _ T4.heap _
  rw [q4]
  exact ⟨_, rfl, N4, rfl, hr4⟩

theorem pd_len : parseMethodDescriptor "()I" = some ⟨[], some .int⟩ := by decide +kernel

theorem d7_0 : decode jdk_42_method_80_code 0 = .ok (.aload_n 0, 1) := by decide +kernel
theorem d7_1 : decode jdk_42_method_80_code 1 = .ok (.invokevirtual 492, 3) := by decide +kernel
theorem d7_4 : decode jdk_42_method_80_code 4 = .ok (.ifCond .eq 19, 3) := by decide +kernel
theorem d7_7 : decode jdk_42_method_80_code 7 = .ok (.aload_n 0, 1) := by decide +kernel
theorem d7_8 : decode jdk_42_method_80_code 8 = .ok (.getfield 9, 3) := by decide +kernel
theorem d7_11 : decode jdk_42_method_80_code 11 = .ok (.iload_n 1, 1) := by decide +kernel
theorem d7_12 : decode jdk_42_method_80_code 12 = .ok (.iload_n 2, 1) := by decide +kernel
theorem d7_13 : decode jdk_42_method_80_code 13 = .ok (.aload_n 0, 1) := by decide +kernel
theorem d7_14 : decode jdk_42_method_80_code 14 = .ok (.invokevirtual 505, 3) := by decide +kernel
theorem d7_17 : decode jdk_42_method_80_code 17 = .ok (.invokestatic 637, 3) := by decide +kernel
theorem d7_20 : decode jdk_42_method_80_code 20 = .ok (.goto 16, 3) := by decide +kernel
theorem d7_23 : decode jdk_42_method_80_code 23 = .ok (.aload_n 0, 1) := by decide +kernel
theorem d7_24 : decode jdk_42_method_80_code 24 = .ok (.getfield 9, 3) := by decide +kernel
theorem d7_27 : decode jdk_42_method_80_code 27 = .ok (.iload_n 1, 1) := by decide +kernel
theorem d7_28 : decode jdk_42_method_80_code 28 = .ok (.iload_n 2, 1) := by decide +kernel
theorem d7_29 : decode jdk_42_method_80_code 29 = .ok (.aload_n 0, 1) := by decide +kernel
theorem d7_30 : decode jdk_42_method_80_code 30 = .ok (.invokevirtual 505, 3) := by decide +kernel
theorem d7_33 : decode jdk_42_method_80_code 33 = .ok (.invokestatic 640, 3) := by decide +kernel
theorem d7_36 : decode jdk_42_method_80_code 36 = .ok (.ireturn, 1) := by decide +kernel


def Qxg (Z : State) (x : Addr) (cs : List Int32) (cd p1 : Int32) (P : Prop) (h0 : Heap) (n0 : Nat) (v : Option Value) (h : Heap) (L : List Loc) : Prop := own_QI h0 n0 P v h L
set_option maxRecDepth 65536 in
set_option maxHeartbeats 40000000 in
theorem rmxg (l : Launch) (Z : State) (a0 : Array Value) (hw : ∀ d ∈ tables_1, d.before a0 Z = true) (ws : List Jvm.Cond) (x : Addr) (cs : List Int32) (cd p1 : Int32) (P : Prop) (h0 : Heap) (n0 : Nat) (Z0 : n0 ≤ h0.size) (SX : own_s Z h0 x cs cd) (EN : own_env Z h0) (hbd : ∀ c ∈ cs, ¬ c < 0 ∧ ¬ (65535 : Int32) < c) (hle : cs.length ≤ 4000) (HL : ∀ a1 k1, Arv Z h0 a1 k1 .byte (Int32.ofNat cs.length) (cs.map fun c => Value.int (StrChars.lo8 c)) (.int 0) → (∀ c ∈ cs, ¬ 255 < c) → own_M l Z own_z21 jdk_43_method_22_code 4 (some .int) ({ frames := 1, cells := 0, slots := 0, locals := 18 } : Room) [] #[(.ref a1), (.int p1), (.int (0 : Int32)), (.int (Int32.ofNat cs.length))] h0 (own_QI h0 n0 (P))) (HU : ∀ a1 k1, Arv Z h0 a1 k1 .byte (Int32.ofNat (2 * cs.length)) (StrChars.Road.wideBytes cs) (.int 0) → (∃ c ∈ cs, 255 < c) → own_M l Z own_z24 jdk_52_method_40_code 4 (some .int) ({ frames := 4, cells := 0, slots := 0, locals := 59 } : Room) [] #[(.ref a1), (.int p1), (.int (0 : Int32)), (.int (Int32.ofNat cs.length))] h0 (own_QI h0 n0 (P))) :
  own_M l Z own_z25 jdk_42_method_80_code 3 (some .int) ({ frames := 5, cells := 0, slots := 0, locals := 74 } : Room) ws #[(.ref x), (.int p1), (.int (0 : Int32))] h0 (Qxg Z x cs cd p1 P h0 n0) := by
 refine MetFree.of_bodySF (plainFor_of_name pn_k2) hisR ?_
 intro p e s m args below meth c s₁ Bd hml0 hP hK
 obtain ⟨rfl, hZ, hh⟩ := hP
 have hx := Bd.exec
 have hby := Bd.bytes
 have hml : c.maxLocals = 3 := hml0
 have hown : s.vm.findClass "java/lang/String" = some m.cls := findClass_of_methodNamed Bd.named
 have hnm := (name_of_methodNamed Bd.named Bd.method).1
 have X0 : Stand p l e ({ frames := 5, cells := 0, slots := 0, locals := 74 } : Room) s m #[(.ref x), (.int p1), (.int (0 : Int32))] below meth c s₁ [] 0 0 := Stand.of_body Bd
 have e0 : s₁.heap = h0 := by rw [← hh, Bd.state]; rfl
 have N0 := Fr.nil n0
 have pre0 : ∀ t, Steps p.tables e below (s₁.setTop (mkF m 0 #[.val (.ref x), .val (.int p1), .val (.int (0 : Int32))] [])) t → Steps p.tables e below (s₁.setTop (entryFrame m #[(.ref x), (.int p1), (.int (0 : Int32))] 3)) t := fun t k => castTop (ef_pc m x p1 (0 : Int32)) k
 have EN0 := EN
 obtain ⟨z, fm, Sz, hz, -⟩ := EN0
 have SX0 := SX
 obtain ⟨tv, kb, N, vs, Ex, Vv, Cc, Kk, hcd⟩ := SX0
 have hln : ∀ d ∈ StrChars.Road.wordsLen, d.before a0 Z = true := fun d hd => hw d ((by decide +kernel : ∀ d ∈ StrChars.Road.wordsLen, d ∈ tables_1) d hd)
 have pre1 : ∀ t, Steps p.tables e below (s₁.setTop (mkF m 1 #[.val (.ref x), .val (.int p1), .val (.int (0 : Int32))] [(.ref x)])) t → Steps p.tables e below (s₁.setTop (entryFrame m #[(.ref x), (.int p1), (.int (0 : Int32))] 3)) t := fun t k => pre0 t (by
  show Steps p.tables e below (s₁.setTop (mkF m 0 #[.val (.ref x), .val (.int p1), .val (.int (0 : Int32))] [])) _
  refine XS.aloadN X0.here hx rfl (hb hby d7_0) rfl rfl ?_
  exact k)
 have hcd0 := hcd
 rcases hcd0 with ⟨hcz, rfl, rfl, hxx⟩ | ⟨hcz, rfl, rfl, hxx⟩
 ·have Cz := Cc
  rw [hcz] at Cz
  obtain ⟨cq2, kq2, qa2, qb2, qc2⟩ := isOf hZ e0 Ex
  obtain ⟨_, _, ⟨T2, L2, k2, n2⟩, -, X2, ⟨Lc2, hQ2, l2, y2, z2⟩, st2⟩ := X0.virtualBack hx (y := own_z7) (z := own_z7) hown (mvT hZ (wd42 hw)) (mvT hZ (wd43 hw)) (notFace_of_selects (args := #[]) (mvT hZ (wd45 hw))) (mvT hZ (wd45 hw)) (mvT hZ (wd44 hw)) (by decide) (backOf (W := 0) (rml1 l Z a0 hw [] x h0 n0 Z0 EN Cz) hZ (wd46 hw) (wd8 hw) (by decide) (by decide)) qa2 qc2 (g := (mkF m 1 #[.val (.ref x), .val (.int p1), .val (.int (0 : Int32))] [(.ref x)])) rfl (by rw [hml]; rfl) (Steps.refl _) (argsL := []) (rest := []) (lenOf pd_l1 rfl) rfl (by show 2 * 0 + _ ≤ _; exact Nat.le_of_eq rfl) (hb hby d7_1) (fun _ _ => ⟨rfl, e0, (by decide : 0 + 0 ≤ _), (by decide : 0 + 0 ≤ _)⟩)
  dsimp only [Pt.U, Pt.locs, Pt.cells, Pt.slots] at X2 l2 y2 z2 st2 hQ2
  subst l2 y2 z2
  obtain ⟨rfl, N2q, q2⟩ := hQ2
  have N2 := Fr.app N0 N2q
  obtain ⟨T3, X3, e3, st3⟩ := getF X2 hx hZ hown (host := "") (Or.inl (wd26 hw)) Via.refl q2 Vv (g := (mkF m 8 #[.val (.ref x), .val (.int p1), .val (.int (0 : Int32))] [(.ref x)])) rfl rfl (hb hby d7_8)
  obtain ⟨cq4, kq4, qa4, qb4, qc4⟩ := isOf hZ e3 Ex
  obtain ⟨_, _, ⟨T4, L4, k4, n4⟩, -, X4, ⟨Lc4, hQ4, l4, y4, z4⟩, st4⟩ := X3.virtualBack hx (y := own_z26) (z := own_z26) hown (mvT hZ (wd48 hw)) (mvT hZ (wd49 hw)) (notFace_of_selects (args := #[]) (mvT hZ (wd51 hw))) (mvT hZ (wd51 hw)) (mvT hZ (wd50 hw)) (by decide) (StrChars.Road.lenW (W := 3) hZ hln (kI := 4) (wd7 hw) Ex Vv Cc Kk hcd hbd Sz hz hle (by decide) (by decide)) qa4 qc4 (g := (mkF m 14 #[.val (.ref x), .val (.int p1), .val (.int (0 : Int32))] [(.ref x), (.int (0 : Int32)), (.int p1), (.ref tv)])) rfl (by rw [hml]; rfl) (Steps.refl _) (argsL := []) (rest := [(.int (0 : Int32)), (.int p1), (.ref tv)]) (lenOf pd_len rfl) rfl (by show 2 * 0 + _ ≤ _; exact Nat.le_of_eq rfl) (hb hby d7_14) (fun _ _ => ⟨rfl, e3, (by decide : 0 + 0 ≤ _), (by decide : 0 + 0 ≤ _)⟩)
  dsimp only [Pt.U, Pt.locs, Pt.cells, Pt.slots] at X4 l4 y4 z4 st4 hQ4
  subst l4 y4 z4
  obtain ⟨rfl, rfl, q4⟩ := hQ4
  have N4 := Fr.app N2 (Fr.nil n0)
  obtain ⟨_, _, ⟨T5, L5, k5, n5⟩, -, X5, ⟨Lc5, hQ5, l5, y5, z5⟩, st5⟩ := Jvm.LawKit.callS X4 hx (y := own_z21) hown (mvT hZ (wd58 hw)) (mvT hZ (wd59 hw)) (mvT hZ (wd60 hw)) (mvT hZ (wd61 hw)) (by decide) (backOf (W := 0) (HL _ _ Kk hxx) hZ (wd61 hw) (wd60 hw) (by decide) (by decide)) (g := (mkF m 17 #[.val (.ref x), .val (.int p1), .val (.int (0 : Int32))] [(.int (Int32.ofNat cs.length)), (.int (0 : Int32)), (.int p1), (.ref tv)])) rfl (by rw [hml]; rfl) (argsL := [(.ref tv), (.int p1), (.int (0 : Int32)), (.int (Int32.ofNat cs.length))]) (rest := []) (lenOf pd_lc rfl) rfl (by show 2 * 0 + _ ≤ _; exact Nat.le_of_eq rfl) (hb hby d7_17) (fun _ _ => ⟨rfl, q4, (by decide : 0 + 0 ≤ _), (by decide : 0 + 0 ≤ _)⟩)
  dsimp only [Pt.U, Pt.locs, Pt.cells, Pt.slots] at X5 l5 y5 z5 st5 hQ5
  subst l5 y5 z5
  obtain ⟨r5, rfl, N5q, q5, hr5⟩ := hQ5
  have N5 := Fr.app N4 N5q
  have pre6 : ∀ t, Steps p.tables e below (T5.setTop (mkF m 36 #[.val (.ref x), .val (.int p1), .val (.int (0 : Int32))] [(.int r5)])) t → Steps p.tables e below (s₁.setTop (entryFrame m #[(.ref x), (.int p1), (.int (0 : Int32))] 3)) t := fun t k => pre1 t (by
   show Steps p.tables e below (s₁.setTop (mkF m 1 #[.val (.ref x), .val (.int p1), .val (.int (0 : Int32))] [(.ref x)])) _
   refine st2.trans ?_
   refine XS.ifNo X2.here hx rfl (hb hby d7_4) rfl ((if0 _ _).trans (feq (by decide : ¬ ((1 : Int32) = (0 : Int32)))).1) ?_
   refine XS.aloadN X2.here hx rfl (hb hby d7_7) rfl rfl ?_
   refine st3 _ ?_
   refine XS.iloadN X3.here hx rfl (hb hby d7_11) rfl ?_
   refine XS.iloadN X3.here hx rfl (hb hby d7_12) rfl ?_
   refine XS.aloadN X3.here hx rfl (hb hby d7_13) rfl rfl ?_
   refine st4.trans ?_
   refine st5 _ ?_
   refine XS.goto X5.here hx rfl (pc0 := 20) (pc' := 36) rfl (hb hby d7_20) (by decide) (by decide) ?_
   exact k)
  obtain ⟨fs7, hr7, hrun7, hended7, hW7, hsame7⟩ := X5.leave (v := some (.int r5)) (fun h => by rw [Bd.returns] at h; cases h)
  refine ⟨_, _, pre6 _ ?_, hrun7, hended7, _, _, rfl, ?_, ⟨_, rfl⟩, hW7, hsame7.mono (by decide) (by decide)⟩
  ·show Steps p.tables e below (T5.setTop (mkF m 36 #[.val (.ref x), .val (.int p1), .val (.int (0 : Int32))] [(.int r5)])) _
   exact retOut X5 hx (t := .int) Bd.returns rfl (Or.inl ⟨rfl, Or.inl rfl, _, rfl⟩) (hb hby d7_36) hr7
  ·show Qxg Z x cs cd p1 P h0 n0 _ T5.heap _
   rw [q5]
   exact ⟨_, rfl, N5, rfl, hr5⟩
 ·have Cz := Cc
  rw [hcz] at Cz
  obtain ⟨cq8, kq8, qa8, qb8, qc8⟩ := isOf hZ e0 Ex
  obtain ⟨_, _, ⟨T8, L8, k8, n8⟩, -, X8, ⟨Lc8, hQ8, l8, y8, z8⟩, st8⟩ := X0.virtualBack hx (y := own_z7) (z := own_z7) hown (mvT hZ (wd42 hw)) (mvT hZ (wd43 hw)) (notFace_of_selects (args := #[]) (mvT hZ (wd45 hw))) (mvT hZ (wd45 hw)) (mvT hZ (wd44 hw)) (by decide) (backOf (W := 0) (rml1w l Z a0 hw [] x h0 n0 Z0 EN Cz) hZ (wd46 hw) (wd8 hw) (by decide) (by decide)) qa8 qc8 (g := (mkF m 1 #[.val (.ref x), .val (.int p1), .val (.int (0 : Int32))] [(.ref x)])) rfl (by rw [hml]; rfl) (Steps.refl _) (argsL := []) (rest := []) (lenOf pd_l1 rfl) rfl (by show 2 * 0 + _ ≤ _; exact Nat.le_of_eq rfl) (hb hby d7_1) (fun _ _ => ⟨rfl, e0, (by decide : 0 + 0 ≤ _), (by decide : 0 + 0 ≤ _)⟩)
  dsimp only [Pt.U, Pt.locs, Pt.cells, Pt.slots] at X8 l8 y8 z8 st8 hQ8
  subst l8 y8 z8
  obtain ⟨rfl, N8q, q8⟩ := hQ8
  have N8 := Fr.app N0 N8q
  obtain ⟨T9, X9, e9, st9⟩ := getF X8 hx hZ hown (host := "") (Or.inl (wd26 hw)) Via.refl q8 Vv (g := (mkF m 24 #[.val (.ref x), .val (.int p1), .val (.int (0 : Int32))] [(.ref x)])) rfl rfl (hb hby d7_24)
  obtain ⟨cq10, kq10, qa10, qb10, qc10⟩ := isOf hZ e9 Ex
  obtain ⟨_, _, ⟨T10, L10, k10, n10⟩, -, X10, ⟨Lc10, hQ10, l10, y10, z10⟩, st10⟩ := X9.virtualBack hx (y := own_z26) (z := own_z26) hown (mvT hZ (wd48 hw)) (mvT hZ (wd49 hw)) (notFace_of_selects (args := #[]) (mvT hZ (wd51 hw))) (mvT hZ (wd51 hw)) (mvT hZ (wd50 hw)) (by decide) (StrChars.Road.lenW (W := 3) hZ hln (kI := 4) (wd7 hw) Ex Vv Cc Kk hcd hbd Sz hz hle (by decide) (by decide)) qa10 qc10 (g := (mkF m 30 #[.val (.ref x), .val (.int p1), .val (.int (0 : Int32))] [(.ref x), (.int (0 : Int32)), (.int p1), (.ref tv)])) rfl (by rw [hml]; rfl) (Steps.refl _) (argsL := []) (rest := [(.int (0 : Int32)), (.int p1), (.ref tv)]) (lenOf pd_len rfl) rfl (by show 2 * 0 + _ ≤ _; exact Nat.le_of_eq rfl) (hb hby d7_30) (fun _ _ => ⟨rfl, e9, (by decide : 0 + 0 ≤ _), (by decide : 0 + 0 ≤ _)⟩)
  dsimp only [Pt.U, Pt.locs, Pt.cells, Pt.slots] at X10 l10 y10 z10 st10 hQ10
  subst l10 y10 z10
  obtain ⟨rfl, rfl, q10⟩ := hQ10
  have N10 := Fr.app N8 (Fr.nil n0)
  obtain ⟨_, _, ⟨T11, L11, k11, n11⟩, -, X11, ⟨Lc11, hQ11, l11, y11, z11⟩, st11⟩ := Jvm.LawKit.callS X10 hx (y := own_z24) hown (mvT hZ (wd107 hw)) (mvT hZ (wd108 hw)) (mvT hZ (wd74 hw)) (mvT hZ (wd109 hw)) (by decide) (backOf (W := 0) (HU _ _ Kk hxx) hZ (wd109 hw) (wd74 hw) (by decide) (by decide)) (g := (mkF m 33 #[.val (.ref x), .val (.int p1), .val (.int (0 : Int32))] [(.int (Int32.ofNat cs.length)), (.int (0 : Int32)), (.int p1), (.ref tv)])) rfl (by rw [hml]; rfl) (argsL := [(.ref tv), (.int p1), (.int (0 : Int32)), (.int (Int32.ofNat cs.length))]) (rest := []) (lenOf pd_lc rfl) rfl (by show 2 * 0 + _ ≤ _; exact Nat.le_of_eq rfl) (hb hby d7_33) (fun _ _ => ⟨rfl, q10, (by decide : 0 + 0 ≤ _), (by decide : 0 + 0 ≤ _)⟩)
  dsimp only [Pt.U, Pt.locs, Pt.cells, Pt.slots] at X11 l11 y11 z11 st11 hQ11
  subst l11 y11 z11
  obtain ⟨r11, rfl, N11q, q11, hr11⟩ := hQ11
  have N11 := Fr.app N10 N11q
  have pre12 : ∀ t, Steps p.tables e below (T11.setTop (mkF m 36 #[.val (.ref x), .val (.int p1), .val (.int (0 : Int32))] [(.int r11)])) t → Steps p.tables e below (s₁.setTop (entryFrame m #[(.ref x), (.int p1), (.int (0 : Int32))] 3)) t := fun t k => pre1 t (by
   show Steps p.tables e below (s₁.setTop (mkF m 1 #[.val (.ref x), .val (.int p1), .val (.int (0 : Int32))] [(.ref x)])) _
   refine st8.trans ?_
   refine XS.ifYes X8.here hx rfl (pc0 := 4) (pc' := 23) rfl (hb hby d7_4) rfl ((if0 _ _).trans (teq (by decide : (0 : Int32) = (0 : Int32))).1) (by decide) (by decide) ?_
   refine XS.aloadN X8.here hx rfl (hb hby d7_23) rfl rfl ?_
   refine st9 _ ?_
   refine XS.iloadN X9.here hx rfl (hb hby d7_27) rfl ?_
   refine XS.iloadN X9.here hx rfl (hb hby d7_28) rfl ?_
   refine XS.aloadN X9.here hx rfl (hb hby d7_29) rfl rfl ?_
   refine st10.trans ?_
   refine st11 _ ?_
   exact k)
  obtain ⟨fs13, hr13, hrun13, hended13, hW13, hsame13⟩ := X11.leave (v := some (.int r11)) (fun h => by rw [Bd.returns] at h; cases h)
  refine ⟨_, _, pre12 _ ?_, hrun13, hended13, _, _, rfl, ?_, ⟨_, rfl⟩, hW13, hsame13.mono (by decide) (by decide)⟩
  ·show Steps p.tables e below (T11.setTop (mkF m 36 #[.val (.ref x), .val (.int p1), .val (.int (0 : Int32))] [(.int r11)])) _
   exact retOut X11 hx (t := .int) Bd.returns rfl (Or.inl ⟨rfl, Or.inl rfl, _, rfl⟩) (hb hby d7_36) hr13
  ·show Qxg Z x cs cd p1 P h0 n0 _ T11.heap _
   rw [q11]
   exact ⟨_, rfl, N11, rfl, hr11⟩

theorem d6_0 : decode jdk_42_method_79_code 0 = .ok (.aload_n 0, 1) := by decide +kernel
theorem d6_1 : decode jdk_42_method_79_code 1 = .ok (.iload_n 1, 1) := by decide +kernel
theorem d6_2 : decode jdk_42_method_79_code 2 = .ok (.iconst 0, 1) := by decide +kernel
theorem d6_3 : decode jdk_42_method_79_code 3 = .ok (.invokevirtual 633, 3) := by decide +kernel
theorem d6_6 : decode jdk_42_method_79_code 6 = .ok (.ireturn, 1) := by decide +kernel


def Qyg (Z : State) (x : Addr) (cs : List Int32) (cd p1 : Int32) (P : Prop) (h0 : Heap) (n0 : Nat) (v : Option Value) (h : Heap) (L : List Loc) : Prop := own_QI h0 n0 P v h L
set_option maxRecDepth 65536 in
set_option maxHeartbeats 40000000 in
theorem rmyg (l : Launch) (Z : State) (a0 : Array Value) (hw : ∀ d ∈ tables_1, d.before a0 Z = true) (ws : List Jvm.Cond) (x : Addr) (cs : List Int32) (cd p1 : Int32) (P : Prop) (h0 : Heap) (n0 : Nat) (Z0 : n0 ≤ h0.size) (SX : own_s Z h0 x cs cd) (EN : own_env Z h0) (hbd : ∀ c ∈ cs, ¬ c < 0 ∧ ¬ (65535 : Int32) < c) (hle : cs.length ≤ 4000) (HL : ∀ a1 k1, Arv Z h0 a1 k1 .byte (Int32.ofNat cs.length) (cs.map fun c => Value.int (StrChars.lo8 c)) (.int 0) → (∀ c ∈ cs, ¬ 255 < c) → own_M l Z own_z21 jdk_43_method_22_code 4 (some .int) ({ frames := 1, cells := 0, slots := 0, locals := 18 } : Room) [] #[(.ref a1), (.int p1), (.int (0 : Int32)), (.int (Int32.ofNat cs.length))] h0 (own_QI h0 n0 (P))) (HU : ∀ a1 k1, Arv Z h0 a1 k1 .byte (Int32.ofNat (2 * cs.length)) (StrChars.Road.wideBytes cs) (.int 0) → (∃ c ∈ cs, 255 < c) → own_M l Z own_z24 jdk_52_method_40_code 4 (some .int) ({ frames := 4, cells := 0, slots := 0, locals := 59 } : Room) [] #[(.ref a1), (.int p1), (.int (0 : Int32)), (.int (Int32.ofNat cs.length))] h0 (own_QI h0 n0 (P))) :
  own_M l Z own_z27 jdk_42_method_79_code 2 (some .int) ({ frames := 6, cells := 0, slots := 0, locals := 88 } : Room) ws #[(.ref x), (.int p1)] h0 (Qyg Z x cs cd p1 P h0 n0) := by
 refine MetFree.of_bodySF (plainFor_of_name pn_k2) hisR ?_
 intro p e s m args below meth c s₁ Bd hml0 hP hK
 obtain ⟨rfl, hZ, hh⟩ := hP
 have hx := Bd.exec
 have hby := Bd.bytes
 have hml : c.maxLocals = 2 := hml0
 have hown : s.vm.findClass "java/lang/String" = some m.cls := findClass_of_methodNamed Bd.named
 have hnm := (name_of_methodNamed Bd.named Bd.method).1
 have X0 : Stand p l e ({ frames := 6, cells := 0, slots := 0, locals := 88 } : Room) s m #[(.ref x), (.int p1)] below meth c s₁ [] 0 0 := Stand.of_body Bd
 have e0 : s₁.heap = h0 := by rw [← hh, Bd.state]; rfl
 have N0 := Fr.nil n0
 have pre0 : ∀ t, Steps p.tables e below (s₁.setTop (mkF m 0 #[.val (.ref x), .val (.int p1)] [])) t → Steps p.tables e below (s₁.setTop (entryFrame m #[(.ref x), (.int p1)] 2)) t := fun t k => castTop (ef_gc m x p1) k
 have SX0 := SX
 obtain ⟨tv, kb, N, vs, Ex, Vv, Cc, Kk, hcd⟩ := SX0
 obtain ⟨cq1, kq1, qa1, qb1, qc1⟩ := isOf hZ e0 Ex
 obtain ⟨_, _, ⟨T1, L1, k1, n1⟩, -, X1, ⟨Lc1, hQ1, l1, y1, z1⟩, st1⟩ := X0.virtualBack hx (y := own_z25) (z := own_z25) hown (mvT hZ (wd37 hw)) (mvT hZ (wd38 hw)) (notFace_of_selects (args := #[]) (mvT hZ (wd40 hw))) (mvT hZ (wd40 hw)) (mvT hZ (wd39 hw)) (by decide) (backOf (W := 0) (rmxg l Z a0 hw [] x cs cd p1 P h0 n0 Z0 SX EN hbd hle HL HU) hZ (wd41 hw) (wd8 hw) (by decide) (by decide)) qa1 qc1 (g := (mkF m 3 #[.val (.ref x), .val (.int p1)] [(.int (0 : Int32)), (.int p1), (.ref x)])) rfl (by rw [hml]; rfl) (Steps.refl _) (argsL := [(.int p1), (.int (0 : Int32))]) (rest := []) (lenOf pd_mx rfl) rfl (by show 2 * 0 + _ ≤ _; exact Nat.le_of_eq rfl) (hb hby d6_3) (fun _ _ => ⟨rfl, e0, (by decide : 0 + 0 ≤ _), (by decide : 0 + 0 ≤ _)⟩)
 dsimp only [Pt.U, Pt.locs, Pt.cells, Pt.slots] at X1 l1 y1 z1 st1 hQ1
 subst l1 y1 z1
 obtain ⟨r1, rfl, N1q, q1, hr1⟩ := hQ1
 have N1 := Fr.app N0 N1q
 have pre2 : ∀ t, Steps p.tables e below (T1.setTop (mkF m 6 #[.val (.ref x), .val (.int p1)] [(.int r1)])) t → Steps p.tables e below (s₁.setTop (entryFrame m #[(.ref x), (.int p1)] 2)) t := fun t k => pre0 t (by
  show Steps p.tables e below (s₁.setTop (mkF m 0 #[.val (.ref x), .val (.int p1)] [])) _
  refine XS.aloadN X0.here hx rfl (hb hby d6_0) rfl rfl ?_
  refine XS.iloadN X0.here hx rfl (hb hby d6_1) rfl ?_
  refine XS.iconst X0.here hx rfl (hb hby d6_2) ?_
  refine st1.trans ?_
  exact k)
 obtain ⟨fs3, hr3, hrun3, hended3, hW3, hsame3⟩ := X1.leave (v := some (.int r1)) (fun h => by rw [Bd.returns] at h; cases h)
 refine ⟨_, _, pre2 _ ?_, hrun3, hended3, _, _, rfl, ?_, ⟨_, rfl⟩, hW3, hsame3.mono (by decide) (by decide)⟩
 ·show Steps p.tables e below (T1.setTop (mkF m 6 #[.val (.ref x), .val (.int p1)] [(.int r1)])) _
  exact retOut X1 hx (t := .int) Bd.returns rfl (Or.inl ⟨rfl, Or.inl rfl, _, rfl⟩) (hb hby d6_6) hr3
 ·show Qyg Z x cs cd p1 P h0 n0 _ T1.heap _
  rw [q1]
  exact ⟨_, rfl, N1, rfl, hr1⟩

theorem d5_0 : decode prog_5_method_7_code 0 = .ok (.aload_n 0, 1) := by decide +kernel
theorem d5_1 : decode prog_5_method_7_code 1 = .ok (.bipush 36, 2) := by decide +kernel
theorem d5_3 : decode prog_5_method_7_code 3 = .ok (.invokevirtual 7, 3) := by decide +kernel
theorem d5_6 : decode prog_5_method_7_code 6 = .ok (.ifCond .ge 16, 3) := by decide +kernel
theorem d5_9 : decode prog_5_method_7_code 9 = .ok (.aload_n 0, 1) := by decide +kernel
theorem d5_10 : decode prog_5_method_7_code 10 = .ok (.bipush 92, 2) := by decide +kernel
theorem d5_12 : decode prog_5_method_7_code 12 = .ok (.invokevirtual 7, 3) := by decide +kernel
theorem d5_15 : decode prog_5_method_7_code 15 = .ok (.ifCond .ge 7, 3) := by decide +kernel
theorem d5_18 : decode prog_5_method_7_code 18 = .ok (.iconst 1, 1) := by decide +kernel
theorem d5_19 : decode prog_5_method_7_code 19 = .ok (.goto 4, 3) := by decide +kernel
theorem d5_22 : decode prog_5_method_7_code 22 = .ok (.iconst 0, 1) := by decide +kernel
theorem d5_23 : decode prog_5_method_7_code 23 = .ok (.ireturn, 1) := by decide +kernel

theorem pd_tg : parseMethodDescriptor "(Ljava/lang/String;)Z" = some ⟨[(.object "java/lang/String")], some .boolean⟩ := by decide +kernel

def Qtg (Z : State) (x : Addr) (P1 P2 : Prop) (h0 : Heap) (n0 : Nat) (v : Option Value) (h : Heap) (L : List Loc) : Prop := ∃ t, v = some (.int t) ∧ Fr n0 L ∧ h = h0 ∧ ((t = (1 : Int32) ∧ (¬ P1 ∧ ¬ P2)) ∨ (t = (0 : Int32) ∧ ¬ (¬ P1 ∧ ¬ P2)))
set_option maxRecDepth 65536 in
set_option maxHeartbeats 40000000 in
theorem rmtg (l : Launch) (Z : State) (a0 : Array Value) (hw : ∀ d ∈ tables_1, d.before a0 Z = true) (ws : List Jvm.Cond) (x : Addr) (P1 P2 : Prop) (h0 : Heap) (n0 : Nat) (Z0 : n0 ≤ h0.size) (Ex : Exa Z h0 x "java/lang/String") (H36 : own_M l Z own_z27 jdk_42_method_79_code 2 (some .int) ({ frames := 6, cells := 0, slots := 0, locals := 88 } : Room) [] #[(.ref x), (.int (36 : Int32))] h0 (own_QI h0 n0 (P1))) (H92 : own_M l Z own_z27 jdk_42_method_79_code 2 (some .int) ({ frames := 6, cells := 0, slots := 0, locals := 88 } : Room) [] #[(.ref x), (.int (92 : Int32))] h0 (own_QI h0 n0 (P2))) :
  own_M l Z own_z28 prog_5_method_7_code 1 (some .boolean) ({ frames := 7, cells := 0, slots := 0, locals := 101 } : Room) ws #[(.ref x)] h0 (Qtg Z x P1 P2 h0 n0) := by
 refine MetFree.of_bodySF (plainFor_of_name pn_k1) hisR ?_
 intro p e s m args below meth c s₁ Bd hml0 hP hK
 obtain ⟨rfl, hZ, hh⟩ := hP
 have hx := Bd.exec
 have hby := Bd.bytes
 have hml : c.maxLocals = 1 := hml0
 have hown : s.vm.findClass "com/example/oxpecker/oxpecker/MessageTemplate" = some m.cls := findClass_of_methodNamed Bd.named
 have hnm := (name_of_methodNamed Bd.named Bd.method).1
 have X0 : Stand p l e ({ frames := 7, cells := 0, slots := 0, locals := 101 } : Room) s m #[(.ref x)] below meth c s₁ [] 0 0 := Stand.of_body Bd
 have e0 : s₁.heap = h0 := by rw [← hh, Bd.state]; rfl
 have N0 := Fr.nil n0
 have pre0 : ∀ t, Steps p.tables e below (s₁.setTop (mkF m 0 #[.val (.ref x)] [])) t → Steps p.tables e below (s₁.setTop (entryFrame m #[(.ref x)] 1)) t := fun t k => castTop (ef_l1 m x) k
 obtain ⟨cq1, kq1, qa1, qb1, qc1⟩ := isOf hZ e0 Ex
 obtain ⟨_, _, ⟨T1, L1, k1, n1⟩, -, X1, ⟨Lc1, hQ1, l1, y1, z1⟩, st1⟩ := X0.virtualBack hx (y := own_z27) (z := own_z27) hown (mvT hZ (wd32 hw)) (mvT hZ (wd33 hw)) (notFace_of_selects (args := #[]) (mvT hZ (wd35 hw))) (mvT hZ (wd35 hw)) (mvT hZ (wd34 hw)) (by decide) (backOf (W := 0) H36 hZ (wd36 hw) (wd8 hw) (by decide) (by decide)) qa1 qc1 (g := (mkF m 3 #[.val (.ref x)] [(.int (36 : Int32)), (.ref x)])) rfl (by rw [hml]; rfl) (Steps.refl _) (argsL := [(.int (36 : Int32))]) (rest := []) (lenOf pd_bl1 rfl) rfl (by show 2 * 0 + _ ≤ _; exact Nat.le_of_eq rfl) (hb hby d5_3) (fun _ _ => ⟨rfl, e0, (by decide : 0 + 0 ≤ _), (by decide : 0 + 0 ≤ _)⟩)
 dsimp only [Pt.U, Pt.locs, Pt.cells, Pt.slots] at X1 l1 y1 z1 st1 hQ1
 subst l1 y1 z1
 obtain ⟨r1, rfl, N1q, q1, hr1⟩ := hQ1
 have N1 := Fr.app N0 N1q
 have pre2 : ∀ t, Steps p.tables e below (T1.setTop (mkF m 6 #[.val (.ref x)] [(.int r1)])) t → Steps p.tables e below (s₁.setTop (entryFrame m #[(.ref x)] 1)) t := fun t k => pre0 t (by
  show Steps p.tables e below (s₁.setTop (mkF m 0 #[.val (.ref x)] [])) _
  refine XS.aloadN X0.here hx rfl (hb hby d5_0) rfl rfl ?_
  refine XS.bipush X0.here hx rfl (hb hby d5_1) ?_
  refine st1.trans ?_
  exact k)
 by_cases hc6 : r1 < (0 : Int32)
 ·obtain ⟨cq3, kq3, qa3, qb3, qc3⟩ := isOf hZ q1 Ex
  obtain ⟨_, _, ⟨T3, L3, k3, n3⟩, -, X3, ⟨Lc3, hQ3, l3, y3, z3⟩, st3⟩ := X1.virtualBack hx (y := own_z27) (z := own_z27) hown (mvT hZ (wd32 hw)) (mvT hZ (wd33 hw)) (notFace_of_selects (args := #[]) (mvT hZ (wd35 hw))) (mvT hZ (wd35 hw)) (mvT hZ (wd34 hw)) (by decide) (backOf (W := 0) H92 hZ (wd36 hw) (wd8 hw) (by decide) (by decide)) qa3 qc3 (g := (mkF m 12 #[.val (.ref x)] [(.int (92 : Int32)), (.ref x)])) rfl (by rw [hml]; rfl) (Steps.refl _) (argsL := [(.int (92 : Int32))]) (rest := []) (lenOf pd_bl1 rfl) rfl (by show 2 * 0 + _ ≤ _; exact Nat.le_of_eq rfl) (hb hby d5_12) (fun _ _ => ⟨rfl, q1, (by decide : 0 + 0 ≤ _), (by decide : 0 + 0 ≤ _)⟩)
  dsimp only [Pt.U, Pt.locs, Pt.cells, Pt.slots] at X3 l3 y3 z3 st3 hQ3
  subst l3 y3 z3
  obtain ⟨r3, rfl, N3q, q3, hr3⟩ := hQ3
  have N3 := Fr.app N1 N3q
  have pre4 : ∀ t, Steps p.tables e below (T3.setTop (mkF m 15 #[.val (.ref x)] [(.int r3)])) t → Steps p.tables e below (s₁.setTop (entryFrame m #[(.ref x)] 1)) t := fun t k => pre2 t (by
   show Steps p.tables e below (T1.setTop (mkF m 6 #[.val (.ref x)] [(.int r1)])) _
   refine XS.ifNo X1.here hx rfl (hb hby d5_6) rfl ((if0 _ _).trans (tlt hc6).2.1) ?_
   refine XS.aloadN X1.here hx rfl (hb hby d5_9) rfl rfl ?_
   refine XS.bipush X1.here hx rfl (hb hby d5_10) ?_
   refine st3.trans ?_
   exact k)
  by_cases hc15 : r3 < (0 : Int32)
  ·have pre5 : ∀ t, Steps p.tables e below (T3.setTop (mkF m 23 #[.val (.ref x)] [(.int (1 : Int32))])) t → Steps p.tables e below (s₁.setTop (entryFrame m #[(.ref x)] 1)) t := fun t k => pre4 t (by
    show Steps p.tables e below (T3.setTop (mkF m 15 #[.val (.ref x)] [(.int r3)])) _
    refine XS.ifNo X3.here hx rfl (hb hby d5_15) rfl ((if0 _ _).trans (tlt hc15).2.1) ?_
    refine XS.iconst X3.here hx rfl (hb hby d5_18) ?_
    refine XS.goto X3.here hx rfl (pc0 := 19) (pc' := 23) rfl (hb hby d5_19) (by decide) (by decide) ?_
    exact k)
   obtain ⟨fs6, hr6, hrun6, hended6, hW6, hsame6⟩ := X3.leave (v := some (.int (1 : Int32))) (fun h => by rw [Bd.returns] at h; cases h)
   refine ⟨_, _, pre5 _ ?_, hrun6, hended6, _, _, rfl, ?_, ⟨_, rfl⟩, hW6, hsame6.mono (by decide) (by decide)⟩
   ·show Steps p.tables e below (T3.setTop (mkF m 23 #[.val (.ref x)] [(.int (1 : Int32))])) _
    exact retN X3 hx (t := .boolean) Bd.returns (by simp) (hb hby d5_23) hr6
   ·show Qtg Z x P1 P2 h0 n0 _ T3.heap _
    rw [q3]
    exact ⟨_, rfl, N3, rfl, Or.inl ⟨rfl, hr1.mp hc6, hr3.mp hc15⟩⟩
  have pre7 : ∀ t, Steps p.tables e below (T3.setTop (mkF m 23 #[.val (.ref x)] [(.int (0 : Int32))])) t → Steps p.tables e below (s₁.setTop (entryFrame m #[(.ref x)] 1)) t := fun t k => pre4 t (by
   show Steps p.tables e below (T3.setTop (mkF m 15 #[.val (.ref x)] [(.int r3)])) _
   refine XS.ifYes X3.here hx rfl (pc0 := 15) (pc' := 22) rfl (hb hby d5_15) rfl ((if0 _ _).trans (flt hc15).2.1) (by decide) (by decide) ?_
   refine XS.iconst X3.here hx rfl (hb hby d5_22) ?_
   exact k)
  obtain ⟨fs8, hr8, hrun8, hended8, hW8, hsame8⟩ := X3.leave (v := some (.int (0 : Int32))) (fun h => by rw [Bd.returns] at h; cases h)
  refine ⟨_, _, pre7 _ ?_, hrun8, hended8, _, _, rfl, ?_, ⟨_, rfl⟩, hW8, hsame8.mono (by decide) (by decide)⟩
  ·show Steps p.tables e below (T3.setTop (mkF m 23 #[.val (.ref x)] [(.int (0 : Int32))])) _
   exact retN X3 hx (t := .boolean) Bd.returns (by simp) (hb hby d5_23) hr8
  ·show Qtg Z x P1 P2 h0 n0 _ T3.heap _
   rw [q3]
   exact ⟨_, rfl, N3, rfl, Or.inr ⟨rfl, fun q => hc15 (hr3.mpr q.2)⟩⟩
 have pre9 : ∀ t, Steps p.tables e below (T1.setTop (mkF m 23 #[.val (.ref x)] [(.int (0 : Int32))])) t → Steps p.tables e below (s₁.setTop (entryFrame m #[(.ref x)] 1)) t := fun t k => pre2 t (by
  show Steps p.tables e below (T1.setTop (mkF m 6 #[.val (.ref x)] [(.int r1)])) _
  refine XS.ifYes X1.here hx rfl (pc0 := 6) (pc' := 22) rfl (hb hby d5_6) rfl ((if0 _ _).trans (flt hc6).2.1) (by decide) (by decide) ?_
  refine XS.iconst X1.here hx rfl (hb hby d5_22) ?_
  exact k)
 obtain ⟨fs10, hr10, hrun10, hended10, hW10, hsame10⟩ := X1.leave (v := some (.int (0 : Int32))) (fun h => by rw [Bd.returns] at h; cases h)
 refine ⟨_, _, pre9 _ ?_, hrun10, hended10, _, _, rfl, ?_, ⟨_, rfl⟩, hW10, hsame10.mono (by decide) (by decide)⟩
 ·show Steps p.tables e below (T1.setTop (mkF m 23 #[.val (.ref x)] [(.int (0 : Int32))])) _
  exact retN X1 hx (t := .boolean) Bd.returns (by simp) (hb hby d5_23) hr10
 ·show Qtg Z x P1 P2 h0 n0 _ T1.heap _
  rw [q1]
  exact ⟨_, rfl, N1, rfl, Or.inr ⟨rfl, fun q => hc6 (hr1.mpr q.1)⟩⟩

def own_EL : List (String × Nat) := [("java/lang/String", 7)]
theorem own_EW {Z : State} {a0 : Array Value} (hw : ∀ d ∈ tables_1, d.before a0 Z = true) : EW Z a0 own_EL := EW.cons (hw _ (List.mem_of_getElem? (i := 20) rfl)) (by decide) EW.nil
theorem own_sb {Z : State} {h : Heap} {a b : Addr} {k : ClassId} {z : Int32} {vs : List Value} {d : Value} {n : Nat} {a0 : Array Value} (E : Exa Z h a "java/lang/String") (w : (Jvm.Cond.instantiable "java/lang/String" n).before a0 Z = true) (F : Arv Z h b k .byte z vs d) : a ≠ b := E.neArv F w
theorem own_safe {Z : State} {EL : List (String × Nat)} {vm : Vm} {h : Heap} {x : Addr} {a0 : Array Value} {n : Nat} (hal : Z.vm.Alike vm) (wi : (Jvm.Cond.instantiable "java/lang/String" n).before a0 Z = true) (E : Exa Z h x "java/lang/String") (V : Fld Z h x "java/lang/String" "value" "[B" .null) : Safe Z EL vm h x := fun B => by
 obtain ⟨p, hp, u, a, hb, q, hq, F, hx⟩ := B
 obtain ⟨cS, ⟨⟨s1, s2, s3, ⟨cv, kv, iv, s4, s4'⟩, ⟨cc, kc, ic, s5, s5'⟩, s6, s7, s8, s9, s10, s11, s12, s13, s14, s15, s16⟩, hfS, hcS⟩, r⟩ := F
 rcases hx with hx | hx
 ·subst hx
  obtain ⟨kv', z4⟩ := ff_back (U := Wst Z vm h) hal s4
  obtain ⟨cell, cf, k, i, f, h1, h2, h3, h4, h5, h6, h7⟩ := V
  cases h1.symm.trans s1
  cases h2.symm.trans z4
  rw [s8] at h7
  cases h7
 ·subst hx
  obtain ⟨c1, k1, e1, e2, e3, -⟩ := E
  cases e1.symm.trans s10
  obtain ⟨c2, k2, i1, i2, i3, -⟩ := Cond.instantiable_spec wi
  cases e2.symm.trans i1
  obtain ⟨k', q1, q2⟩ := hal.2.2 _ _ i2
  obtain ⟨hst, k9, hk9, comp, hkind9⟩ := s11
  have hk9 : vm.classes[q.SA.cls]? = some k9 := hk9
  have e9 : k9 = k' := Option.some.inj (hk9.symm.trans q1)
  have q4 : k'.kind = .ordinary := by rw [q2]; exact i3
  rw [e9, q4] at hkind9
  cases hkind9
theorem own_m0 : ∀ c ∈ ([] : List Int32), ¬ c < 0 ∧ ¬ (65535 : Int32) < c := fun _ q => nomatch q
theorem own_m1 {a : Int32} (ha : own_b a) {cs : List Int32} (h : ∀ c ∈ cs, ¬ c < 0 ∧ ¬ (65535 : Int32) < c) : ∀ c ∈ a :: cs, ¬ c < 0 ∧ ¬ (65535 : Int32) < c := fun c hc => by
 rcases List.mem_cons.mp hc with rfl | q
 ·exact ha
 ·exact h c q

theorem own_y0 (l : Launch) (Z : State) (a0 : Array Value) (hw : ∀ d ∈ tables_1, d.before a0 Z = true) (x : Addr)  (cd p1 : Int32) (h0 : Heap) (n0 : Nat) (Z0 : n0 ≤ h0.size) (SX : own_s Z h0 x [] cd) (EN : own_env Z h0)  (hp : ¬ p1 < 0 ∧ ¬ (255 : Int32) < p1) : own_M l Z own_z27 jdk_42_method_79_code 2 (some .int) ({ frames := 6, cells := 0, slots := 0, locals := 88 } : Room) [] #[(.ref x), (.int p1)] h0 (own_QI h0 n0 (False)) := rmyg l Z a0 hw [] x _ cd p1 _ h0 n0 Z0 SX EN (own_m0) (Nat.le_of_ble_eq_true rfl) (fun a1 k1 K _ => rmli0 l Z a0 hw [] a1 k1 _ p1 h0 n0 Z0 K hp) (fun a1 k1 K q => by obtain ⟨_, q, -⟩ := q; exact nomatch q)
theorem own_y1 (l : Launch) (Z : State) (a0 : Array Value) (hw : ∀ d ∈ tables_1, d.before a0 Z = true) (x : Addr) (c0 : Int32) (cd p1 : Int32) (h0 : Heap) (n0 : Nat) (Z0 : n0 ≤ h0.size) (SX : own_s Z h0 x [c0] cd) (EN : own_env Z h0) (hb0 : own_b c0) (hp : ¬ p1 < 0 ∧ ¬ (255 : Int32) < p1) : own_M l Z own_z27 jdk_42_method_79_code 2 (some .int) ({ frames := 6, cells := 0, slots := 0, locals := 88 } : Room) [] #[(.ref x), (.int p1)] h0 (own_QI h0 n0 (c0 = p1)) := rmyg l Z a0 hw [] x _ cd p1 _ h0 n0 Z0 SX EN (own_m1 hb0 (own_m0)) (Nat.le_of_ble_eq_true rfl) (fun a1 k1 K hm => rmli l Z a0 hw [] a1 k1 _ _ p1 _ h0 n0 Z0 K (by decide : (0 : Int32) < (1 : Int32)) hp (rmlc1 l Z a0 hw [] a1 k1 c0 p1 h0 n0 Z0 K hb0 (hm _ (List.mem_of_getElem? (i := 0) rfl)) hp)) (fun a1 k1 K _ => rmui l Z a0 hw [] a1 k1 _ _ _ p1 _ h0 n0 Z0 K (by decide : (2 : Int32) >>> ((1 : Int32) &&& 31) = (1 : Int32)) (by decide : (0 : Int32) < (1 : Int32)) (own_w hp) (rmuc l Z a0 hw [] a1 _ p1 _ h0 n0 Z0 (rmub l Z a0 hw [] a1 k1 _ _ _ h0 n0 Z0 K EN (by decide : (2 : Int32) >>> ((1 : Int32) &&& 31) = (1 : Int32)) (by decide : ¬ (1 : Int32) < 0)) (rmuu1 l Z a0 hw [] a1 k1 c0 p1 h0 n0 Z0 K EN hb0)))
theorem own_y2 (l : Launch) (Z : State) (a0 : Array Value) (hw : ∀ d ∈ tables_1, d.before a0 Z = true) (x : Addr) (c0 c1 : Int32) (cd p1 : Int32) (h0 : Heap) (n0 : Nat) (Z0 : n0 ≤ h0.size) (SX : own_s Z h0 x [c0, c1] cd) (EN : own_env Z h0) (hb0 : own_b c0) (hb1 : own_b c1) (hp : ¬ p1 < 0 ∧ ¬ (255 : Int32) < p1) : own_M l Z own_z27 jdk_42_method_79_code 2 (some .int) ({ frames := 6, cells := 0, slots := 0, locals := 88 } : Room) [] #[(.ref x), (.int p1)] h0 (own_QI h0 n0 (c0 = p1 ∨ c1 = p1)) := rmyg l Z a0 hw [] x _ cd p1 _ h0 n0 Z0 SX EN (own_m1 hb0 (own_m1 hb1 (own_m0))) (Nat.le_of_ble_eq_true rfl) (fun a1 k1 K hm => rmli l Z a0 hw [] a1 k1 _ _ p1 _ h0 n0 Z0 K (by decide : (0 : Int32) < (2 : Int32)) hp (rmlc2 l Z a0 hw [] a1 k1 c0 c1 p1 h0 n0 Z0 K hb0 hb1 (hm _ (List.mem_of_getElem? (i := 0) rfl)) (hm _ (List.mem_of_getElem? (i := 1) rfl)) hp)) (fun a1 k1 K _ => rmui l Z a0 hw [] a1 k1 _ _ _ p1 _ h0 n0 Z0 K (by decide : (4 : Int32) >>> ((1 : Int32) &&& 31) = (2 : Int32)) (by decide : (0 : Int32) < (2 : Int32)) (own_w hp) (rmuc l Z a0 hw [] a1 _ p1 _ h0 n0 Z0 (rmub l Z a0 hw [] a1 k1 _ _ _ h0 n0 Z0 K EN (by decide : (4 : Int32) >>> ((1 : Int32) &&& 31) = (2 : Int32)) (by decide : ¬ (2 : Int32) < 0)) (rmuu2 l Z a0 hw [] a1 k1 c0 c1 p1 h0 n0 Z0 K EN hb0 hb1)))
theorem own_y3 (l : Launch) (Z : State) (a0 : Array Value) (hw : ∀ d ∈ tables_1, d.before a0 Z = true) (x : Addr) (c0 c1 c2 : Int32) (cd p1 : Int32) (h0 : Heap) (n0 : Nat) (Z0 : n0 ≤ h0.size) (SX : own_s Z h0 x [c0, c1, c2] cd) (EN : own_env Z h0) (hb0 : own_b c0) (hb1 : own_b c1) (hb2 : own_b c2) (hp : ¬ p1 < 0 ∧ ¬ (255 : Int32) < p1) : own_M l Z own_z27 jdk_42_method_79_code 2 (some .int) ({ frames := 6, cells := 0, slots := 0, locals := 88 } : Room) [] #[(.ref x), (.int p1)] h0 (own_QI h0 n0 (c0 = p1 ∨ c1 = p1 ∨ c2 = p1)) := rmyg l Z a0 hw [] x _ cd p1 _ h0 n0 Z0 SX EN (own_m1 hb0 (own_m1 hb1 (own_m1 hb2 (own_m0)))) (Nat.le_of_ble_eq_true rfl) (fun a1 k1 K hm => rmli l Z a0 hw [] a1 k1 _ _ p1 _ h0 n0 Z0 K (by decide : (0 : Int32) < (3 : Int32)) hp (rmlc3 l Z a0 hw [] a1 k1 c0 c1 c2 p1 h0 n0 Z0 K hb0 hb1 hb2 (hm _ (List.mem_of_getElem? (i := 0) rfl)) (hm _ (List.mem_of_getElem? (i := 1) rfl)) (hm _ (List.mem_of_getElem? (i := 2) rfl)) hp)) (fun a1 k1 K _ => rmui l Z a0 hw [] a1 k1 _ _ _ p1 _ h0 n0 Z0 K (by decide : (6 : Int32) >>> ((1 : Int32) &&& 31) = (3 : Int32)) (by decide : (0 : Int32) < (3 : Int32)) (own_w hp) (rmuc l Z a0 hw [] a1 _ p1 _ h0 n0 Z0 (rmub l Z a0 hw [] a1 k1 _ _ _ h0 n0 Z0 K EN (by decide : (6 : Int32) >>> ((1 : Int32) &&& 31) = (3 : Int32)) (by decide : ¬ (3 : Int32) < 0)) (rmuu3 l Z a0 hw [] a1 k1 c0 c1 c2 p1 h0 n0 Z0 K EN hb0 hb1 hb2)))
theorem own_y4 (l : Launch) (Z : State) (a0 : Array Value) (hw : ∀ d ∈ tables_1, d.before a0 Z = true) (x : Addr) (c0 c1 c2 c3 : Int32) (cd p1 : Int32) (h0 : Heap) (n0 : Nat) (Z0 : n0 ≤ h0.size) (SX : own_s Z h0 x [c0, c1, c2, c3] cd) (EN : own_env Z h0) (hb0 : own_b c0) (hb1 : own_b c1) (hb2 : own_b c2) (hb3 : own_b c3) (hp : ¬ p1 < 0 ∧ ¬ (255 : Int32) < p1) : own_M l Z own_z27 jdk_42_method_79_code 2 (some .int) ({ frames := 6, cells := 0, slots := 0, locals := 88 } : Room) [] #[(.ref x), (.int p1)] h0 (own_QI h0 n0 (c0 = p1 ∨ c1 = p1 ∨ c2 = p1 ∨ c3 = p1)) := rmyg l Z a0 hw [] x _ cd p1 _ h0 n0 Z0 SX EN (own_m1 hb0 (own_m1 hb1 (own_m1 hb2 (own_m1 hb3 (own_m0))))) (Nat.le_of_ble_eq_true rfl) (fun a1 k1 K hm => rmli l Z a0 hw [] a1 k1 _ _ p1 _ h0 n0 Z0 K (by decide : (0 : Int32) < (4 : Int32)) hp (rmlc4 l Z a0 hw [] a1 k1 c0 c1 c2 c3 p1 h0 n0 Z0 K hb0 hb1 hb2 hb3 (hm _ (List.mem_of_getElem? (i := 0) rfl)) (hm _ (List.mem_of_getElem? (i := 1) rfl)) (hm _ (List.mem_of_getElem? (i := 2) rfl)) (hm _ (List.mem_of_getElem? (i := 3) rfl)) hp)) (fun a1 k1 K _ => rmui l Z a0 hw [] a1 k1 _ _ _ p1 _ h0 n0 Z0 K (by decide : (8 : Int32) >>> ((1 : Int32) &&& 31) = (4 : Int32)) (by decide : (0 : Int32) < (4 : Int32)) (own_w hp) (rmuc l Z a0 hw [] a1 _ p1 _ h0 n0 Z0 (rmub l Z a0 hw [] a1 k1 _ _ _ h0 n0 Z0 K EN (by decide : (8 : Int32) >>> ((1 : Int32) &&& 31) = (4 : Int32)) (by decide : ¬ (4 : Int32) < 0)) (rmuu4 l Z a0 hw [] a1 k1 c0 c1 c2 c3 p1 h0 n0 Z0 K EN hb0 hb1 hb2 hb3)))

def Qi4 (Z : State) (a1 a2 : Addr) (h0 : Heap) (n0 : Nat) (v : Option Value) (h : Heap) (L : List Loc) : Prop := v = none ∧ Fr n0 L ∧ Keep h0 h [a1] ∧ ∃ cd, own_s Z h a1 [] cd
set_option maxRecDepth 65536 in
set_option maxHeartbeats 40000000 in
theorem rmi4 (l : Launch) (Z : State) (a0 : Array Value) (hw : ∀ d ∈ tables_1, d.before a0 Z = true) (ws : List Jvm.Cond) (a1 a2 : Addr) (h0 : Heap) (n0 : Nat) (Z0 : n0 ≤ h0.size) (F1 : Fld Z h0 a1 "java/lang/String" "value" "[B" .null) (C1 : Fld Z h0 a1 "java/lang/String" "coder" "B" (.int 0)) (E1 : Exa Z h0 a1 "java/lang/String") (g1 : n0 ≤ a1) :
  MetFree l own_z18 (head1 (Jvm.Cond.code own_z18 jdk_42_method_149_code 6 none :: ws) ({ frames := 1, cells := 4, slots := 8, locals := 12 } : Room)) (fun a U => a = #[(.ref a1), (.ref a2), (.int (0 : Int32)), (.int (0 : Int32)), .null] ∧ Z.Warmed39 U.vm ∧ U.heap = h0 ∧ CHv Z own_EL U.vm h0) (fun _ _ _ _ _ => True) (fun _ U o U' => ∃ v L, o = .returned v ∧ Qi4 Z a1 a2 h0 n0 v U'.heap L ∧ CHr Z own_EL U.vm U.heap U'.vm U'.heap ∧ ReturnedEndW U o U' L ({ frames := 1, cells := 4, slots := 8, locals := 12 } : Room).cells ({ frames := 1, cells := 4, slots := 8, locals := 12 } : Room).slots) := by
 refine MetFree.of_bodySF (plainFor_of_name pn_k2) hisR ?_
 intro p e s m args below meth c s₁ Bd hml0 hP hK
 obtain ⟨rfl, hZ, hh, hCH⟩ := hP
 have hx := Bd.exec
 have hby := Bd.bytes
 have hml : c.maxLocals = 6 := hml0
 have hown : s.vm.findClass "java/lang/String" = some m.cls := findClass_of_methodNamed Bd.named
 have hnm := (name_of_methodNamed Bd.named Bd.method).1
 have X0 : Stand p l e ({ frames := 1, cells := 4, slots := 8, locals := 12 } : Room) (s.setVm s.vm) m #[(.ref a1), (.ref a2), (.int (0 : Int32)), (.int (0 : Int32)), .null] below meth c s₁ [] 0 0 := Stand.of_body Bd
 have e0 : s₁.heap = h0 := by rw [← hh, Bd.state]; rfl
 have N0 := Fr.nil n0
 have hZ0 : Z.Warmed39 (s.setVm s.vm).vm := hZ
 have ho0 : (s.setVm s.vm).vm.findClass "java/lang/String" = some m.cls := hown
 have hS0 : s.Since s.vm h0.size := (State.WarmedH.refl s).since _
 have hEL : EW Z a0 own_EL := own_EW hw
 have wS : ∀ a ∈ Bundle.stringAtoms, a.before a0 Z = true := fun d hd => hw d ((by decide +kernel : ∀ d ∈ Bundle.stringAtoms, d ∈ tables_1) d hd)
 have pre0 : ∀ t, Steps p.tables e below (s₁.setTop (mkF m 0 #[.val (.ref a1), .val (.ref a2), .val (.int (0 : Int32)), .val (.int (0 : Int32)), .val .null, .unset] [])) t → Steps p.tables e below (s₁.setTop (entryFrame m #[(.ref a1), (.ref a2), (.int (0 : Int32)), (.int (0 : Int32)), .null] 6)) t := fun t k => castTop (ef_w41 m a1 a2 (0 : Int32) (0 : Int32)) k
 have sf0 : Safe Z own_EL s.vm h0 a1 := own_safe hZ0.alike (wd7 hw) E1 F1
 obtain ⟨T1, X1, e1, st1⟩ := initO X0 hx hZ0 ho0 (wd17 hw) (wd18 hw) (wd19 hw) e0 (g := (mkF m 1 #[.val (.ref a1), .val (.ref a2), .val (.int (0 : Int32)), .val (.int (0 : Int32)), .val .null, .unset] [(.ref a1)])) rfl (by rw [hml]; rfl) rfl (hb hby d3_1) (by decide) (W := 0) (by show 2 * 0 + _ ≤ _; exact Nat.le_of_eq rfl) (by decide)
 obtain ⟨la2, T2, h2, k2, b2, kc2, X2, e2, E2, hS2, hk2, hZ2, ho2, A2, C2, V2, K2_, lt2, lb2, CQ2, Lt2, sf2, st2⟩ := ldcCH X1 hx hZ0 ho0 (wd20 hw) wS e1 hS0 (Nat.le_refl _) hEL (by decide) hCH (vs := []) (z := (0 : Int32)) ⟨by decide, rfl⟩ (by decide) rfl (g := (mkF m 9 #[.val (.ref a1), .val (.ref a2), .val (.int (0 : Int32)), .val (.int (0 : Int32)), .val .null, .unset] [(.ref a1)])) rfl (hb hby d3_9) (n := 0) (by decide) (by decide) (by decide) (by decide)
 have CR2 := (CHr.refl hCH).trans CQ2
 have CH2 := CQ2.1
 have F1_2 := F1.ext E2
 have C1_2 := C1.ext E2
 have E1_2 := E1.ext E2
 have K2 := (Keep.refl h0 []).ext E2
 have sfa := CHr.safe CQ2 F1.lt sf0
 obtain ⟨T3, X3, e3, st3⟩ := getF X2 hx hZ2 ho2 (host := "") (Or.inl (wd26 hw)) Via.refl e2 V2 (g := (mkF m 11 #[.val (.ref a1), .val (.ref a2), .val (.int (0 : Int32)), .val (.int (0 : Int32)), .val .null, .unset] [(.ref la2), (.ref a1)])) rfl rfl (hb hby d3_11)
 obtain ⟨T4, h4, X4, e4, W4, st4⟩ := putF X3 hx hZ2 ho2 (host := "") (Or.inl (wd26 hw)) Via.refl e3 F1_2 E1_2 (Or.inr ⟨(wd22 hw), rfl, hnm⟩) (wd7 hw) (ty := (.array .byte)) (by decide) rfl rfl (g := (mkF m 14 #[.val (.ref a1), .val (.ref a2), .val (.int (0 : Int32)), .val (.int (0 : Int32)), .val .null, .unset] [(.ref b2), (.ref a1)])) rfl rfl (hb hby d3_14)
 have N4 := Fr.snoc X4 N0 g1
 have F1_4 := F1_2.same W4
 have C1_4 := C1_2.other W4 (Or.inr (slot_ne (Or.inr (wd23 hw)) (Or.inr (wd22 hw)) (by decide) (t := .byte) (t' := (.array .byte)) (by decide) (by decide)))
 have E1_4 := E1_2.wr W4
 have K2__4 := K2_.other W4 (Ne.symm (sf2 _ sfa).2)
 have CR4 := CR2.trans (CHr.wr W4 sfa CH2)
 have CH4 := CHv.wr W4 sfa CH2
 have sfb := Safe.wr W4 sfa CH2 sfa
 obtain ⟨la5, T5, h5, k5, b5, kc5, X5, e5, E5, hS5, hk5, hZ5, ho5, A5, C5, V5, K5_, lt5, lb5, CQ5, Lt5, sf5, st5⟩ := ldcCH X4 hx hZ2 ho2 (wd20 hw) wS e4 hS2 (Nat.le_trans hk2 (Nat.le_of_eq W4.size.symm)) hEL (by decide) CH4 (vs := []) (z := (0 : Int32)) ⟨by decide, rfl⟩ (by decide) rfl (g := (mkF m 18 #[.val (.ref a1), .val (.ref a2), .val (.int (0 : Int32)), .val (.int (0 : Int32)), .val .null, .unset] [(.ref a1)])) rfl (hb hby d3_18) (n := 0) (by decide) (by decide) (by decide) (by decide)
 have CR5 := CR4.trans CQ5
 have CH5 := CQ5.1
 have F1_5 := F1_4.ext E5
 have C1_5 := C1_4.ext E5
 have E1_5 := E1_4.ext E5
 have K2__5 := K2__4.ext E5
 have sfc := CHr.safe CQ5 F1_4.lt sfb
 obtain ⟨T6, X6, e6, st6⟩ := getF X5 hx hZ5 ho5 (host := "") (Or.inl (wd27 hw)) Via.refl e5 C5 (g := (mkF m 20 #[.val (.ref a1), .val (.ref a2), .val (.int (0 : Int32)), .val (.int (0 : Int32)), .val .null, .unset] [(.ref la5), (.ref a1)])) rfl rfl (hb hby d3_20)
 have nbb : b2 ≠ a1 := fun q => own_sb E1_5 (wd7 hw) K2__5 q.symm
 obtain ⟨T7, h7, X7, e7, W7, st7⟩ := putFN X6 hx hZ5 ho5 (wd27 hw) Via.refl e6 C1_5 E1_5 (Or.inr ⟨(wd23 hw), rfl, hnm⟩) (wd7 hw) (ty := .byte) (v' := (.int (0 : Int32))) (by decide) rfl rfl (g := (mkF m 23 #[.val (.ref a1), .val (.ref a2), .val (.int (0 : Int32)), .val (.int (0 : Int32)), .val .null, .unset] [(.int (0 : Int32)), (.ref a1)])) rfl rfl (hb hby d3_23)
 have N7 := Fr.snoc X7 N4 g1
 have F1_7 := F1_5.other W7 (Or.inr (slot_ne (Or.inr (wd22 hw)) (Or.inr (wd23 hw)) (by decide) (t := (.array .byte)) (t' := .byte) (by decide) (by decide)))
 have C1_7 := C1_5.same W7
 have E1_7 := E1_5.wr W7
 have K2__7 := K2__5.other W7 nbb
 have CR7 := CR5.trans (CHr.wr W7 sfc CH5)
 have CH7 := CHv.wr W7 sfc CH5
 have pre8 : ∀ t, Steps p.tables e below (T7.setTop (mkF m 26 #[.val (.ref a1), .val (.ref a2), .val (.int (0 : Int32)), .val (.int (0 : Int32)), .val .null, .unset] [])) t → Steps p.tables e below (s₁.setTop (entryFrame m #[(.ref a1), (.ref a2), (.int (0 : Int32)), (.int (0 : Int32)), .null] 6)) t := fun t k => pre0 t (by
  show Steps p.tables e below (s₁.setTop (mkF m 0 #[.val (.ref a1), .val (.ref a2), .val (.int (0 : Int32)), .val (.int (0 : Int32)), .val .null, .unset] [])) _
  refine XS.aloadN X0.here hx rfl (hb hby d3_0) rfl rfl ?_
  refine st1 _ ?_
  refine XS.iloadN X1.here hx rfl (hb hby d3_4) rfl ?_
  refine XS.ifNo X1.here hx rfl (hb hby d3_5) rfl ((if0 _ _).trans (teq (by decide : (0 : Int32) = (0 : Int32))).2) ?_
  refine XS.aloadN X1.here hx rfl (hb hby d3_8) rfl rfl ?_
  refine st2 _ ?_
  refine st3 _ ?_
  refine st4 _ ?_
  refine XS.aloadN X4.here hx rfl (hb hby d3_17) rfl rfl ?_
  refine st5 _ ?_
  refine st6 _ ?_
  refine st7 _ ?_
  exact k)
 obtain ⟨fs9, hr9, hrun9, hended9, hE9⟩ := X7.leaveW hS5 (by first | exact (Nat.le_trans hk5 (Nat.le_of_eq W7.size.symm)) | (rw [e7]; exact (Nat.le_trans hk5 (Nat.le_of_eq W7.size.symm)))) (v := none) (fun _ => rfl)
 refine ⟨_, _, pre8 _ ?_, hrun9, hended9, _, _, rfl, ?_, ?_, hE9.1, hE9.2.1, hE9.2.2.1, hE9.2.2.2.mono (by decide) (by decide)⟩
 ·show Steps p.tables e below (T7.setTop (mkF m 26 #[.val (.ref a1), .val (.ref a2), .val (.int (0 : Int32)), .val (.int (0 : Int32)), .val .null, .unset] [])) _
  exact X7.returnOut hx Bd.returns (hb hby d3_26) hr9
 ·show Qi4 Z a1 a2 h0 n0 _ T7.heap _
  rw [e7]
  exact ⟨rfl, N7, ((((Keep.refl h0 [a1]).ext E2).wr W4 (Or.inl (List.mem_singleton.mpr rfl))).ext E5).wr W7 (Or.inl (List.mem_singleton.mpr rfl)), 0, b2, _, _, _, E1_7, F1_7, C1_7, K2__7, Or.inl ⟨rfl, rfl, rfl, fun _ q => nomatch q⟩⟩
 ·show CHr Z own_EL s.vm s.heap T7.vm T7.heap
  rw [e7]
  rw [hh]
  exact CR7.trans (CHv.at X7 hZ5 hEL CH7)


def Qi1 (Z : State) (a1 a2 : Addr) (k2 : ClassId) (h0 : Heap) (n0 : Nat) (v : Option Value) (h : Heap) (L : List Loc) : Prop := v = none ∧ Fr n0 L ∧ Keep h0 h [a1] ∧ ∃ cd, own_s Z h a1 [] cd
set_option maxRecDepth 65536 in
set_option maxHeartbeats 40000000 in
theorem rmi1 (l : Launch) (Z : State) (a0 : Array Value) (hw : ∀ d ∈ tables_1, d.before a0 Z = true) (ws : List Jvm.Cond) (a1 a2 : Addr) (k2 : ClassId) (h0 : Heap) (n0 : Nat) (Z0 : n0 ≤ h0.size) (F1 : Fld Z h0 a1 "java/lang/String" "value" "[B" .null) (C1 : Fld Z h0 a1 "java/lang/String" "coder" "B" (.int 0)) (E1 : Exa Z h0 a1 "java/lang/String") (g1 : n0 ≤ a1) (A2 : Arv Z h0 a2 k2 .char (0 : Int32) [] (.int 0)) :
  MetFree l own_z19 (head1 (Jvm.Cond.code own_z19 jdk_42_method_3_code 2 none :: ws) ({ frames := 2, cells := 4, slots := 8, locals := 30 } : Room)) (fun a U => a = #[(.ref a1), (.ref a2)] ∧ Z.Warmed39 U.vm ∧ U.heap = h0 ∧ CHv Z own_EL U.vm h0) (fun _ _ _ _ _ => True) (fun _ U o U' => ∃ v L, o = .returned v ∧ Qi1 Z a1 a2 k2 h0 n0 v U'.heap L ∧ CHr Z own_EL U.vm U.heap U'.vm U'.heap ∧ ReturnedEndW U o U' L ({ frames := 2, cells := 4, slots := 8, locals := 30 } : Room).cells ({ frames := 2, cells := 4, slots := 8, locals := 30 } : Room).slots) := by
 refine MetFree.of_bodySF (plainFor_of_name pn_k2) hisR ?_
 intro p e s m args below meth c s₁ Bd hml0 hP hK
 obtain ⟨rfl, hZ, hh, hCH⟩ := hP
 have hx := Bd.exec
 have hby := Bd.bytes
 have hml : c.maxLocals = 2 := hml0
 have hown : s.vm.findClass "java/lang/String" = some m.cls := findClass_of_methodNamed Bd.named
 have hnm := (name_of_methodNamed Bd.named Bd.method).1
 have X0 : Stand p l e ({ frames := 2, cells := 4, slots := 8, locals := 30 } : Room) (s.setVm s.vm) m #[(.ref a1), (.ref a2)] below meth c s₁ [] 0 0 := Stand.of_body Bd
 have e0 : s₁.heap = h0 := by rw [← hh, Bd.state]; rfl
 have N0 := Fr.nil n0
 have hZ0 : Z.Warmed39 (s.setVm s.vm).vm := hZ
 have ho0 : (s.setVm s.vm).vm.findClass "java/lang/String" = some m.cls := hown
 have hS0 : s.Since s.vm h0.size := (State.WarmedH.refl s).since _
 have hEL : EW Z a0 own_EL := own_EW hw
 have wS : ∀ a ∈ Bundle.stringAtoms, a.before a0 Z = true := fun d hd => hw d ((by decide +kernel : ∀ d ∈ Bundle.stringAtoms, d ∈ tables_1) d hd)
 have pre0 : ∀ t, Steps p.tables e below (s₁.setTop (mkF m 0 #[.val (.ref a1), .val (.ref a2)] [])) t → Steps p.tables e below (s₁.setTop (entryFrame m #[(.ref a1), (.ref a2)] 2)) t := fun t k => castTop (ef_w11 m a1 a2) k
 have Vc1 := A2
 obtain ⟨cl1, Ar1, qq1, sz1, nn1, Ha1, Gf1⟩ := Vc1
 obtain ⟨_, _, ⟨T2, L2, k2, n2⟩, -, Y2, hSq2, hgq2, ⟨Lc2, hQ2, l2, y2, z2, CQ2⟩, st2⟩ := X0.specialBackS hx (y := own_z18) rfl ho0 (mvT hZ0 (wd13 hw)) (mvT hZ0 (wd14 hw)) (mvT hZ0 (wd16 hw)) (by decide) (backOfSH (W := 0) (rmi4 l Z a0 hw [] a1 a2 h0 n0 Z0 F1 C1 E1 g1) hZ0 (wd16 hw) (wd8 hw) (by decide) (by decide) hEL hCH) (g := (mkF m 6 #[.val (.ref a1), .val (.ref a2)] [.null, (.int (0 : Int32)), (.int (0 : Int32)), (.ref a2), (.ref a1)])) rfl (by rw [hml]; rfl) (Steps.refl _) (a := a1) (argsL := [(.ref a2), (.int (0 : Int32)), (.int (0 : Int32)), .null]) (rest := []) (lenOf pd_w41 rfl) rfl (by show 2 * 0 + _ ≤ _; exact Nat.le_of_eq rfl) (hb hby d2_6) (fun _ _ => ⟨rfl, e0, (by decide : 0 + 4 ≤ _), (by decide : 0 + 8 ≤ _)⟩)
 dsimp only [Pt.U, Pt.locs, Pt.cells, Pt.slots] at Y2 hSq2 hgq2 l2 y2 z2 st2 hQ2 CQ2
 subst l2 y2 z2
 obtain ⟨X2, hS2, hZ2, ho2⟩ := rebS hS0 (by first | exact (Nat.le_refl _) | (rw [e0]; exact (Nat.le_refl _))) Y2 hSq2 hgq2 hZ0 ho0
 obtain ⟨rfl, N2q, Kp2, S2⟩ := hQ2
 have N2 := Fr.app N0 N2q
 have CR2 := (CHr.refl hCH).trans CQ2
 have CH2 := CQ2.1
 have pre3 : ∀ t, Steps p.tables e below (T2.setTop (mkF m 9 #[.val (.ref a1), .val (.ref a2)] [])) t → Steps p.tables e below (s₁.setTop (entryFrame m #[(.ref a1), (.ref a2)] 2)) t := fun t k => pre0 t (by
  show Steps p.tables e below (s₁.setTop (mkF m 0 #[.val (.ref a1), .val (.ref a2)] [])) _
  refine XS.aloadN X0.here hx rfl (hb hby d2_0) rfl rfl ?_
  refine XS.aloadN X0.here hx rfl (hb hby d2_1) rfl rfl ?_
  refine XS.iconst X0.here hx rfl (hb hby d2_2) ?_
  refine XS.aloadN X0.here hx rfl (hb hby d2_3) rfl rfl ?_
  refine X0.arraylength hx (by rw [e0]; exact Ar1.1) (State.isArrayOf_alike hZ0.alike Ar1.2.1) (g := (mkF m 4 #[.val (.ref a1), .val (.ref a2)] [(.ref a2), (.int (0 : Int32)), (.ref a2), (.ref a1)])) rfl rfl (hb hby d2_4) _ ?_
  rw [len_of sz1 nn1]
  refine XS.aconstNull X0.here hx rfl (hb hby d2_5) ?_
  refine st2.trans ?_
  exact k)
 obtain ⟨fs4, hr4, hrun4, hended4, hE4⟩ := X2.leaveW hS2 (by first | exact (Nat.le_refl _) | (rw [rfl]; exact (Nat.le_refl _))) (v := none) (fun _ => rfl)
 refine ⟨_, _, pre3 _ ?_, hrun4, hended4, _, _, rfl, ?_, ?_, hE4.1, hE4.2.1, hE4.2.2.1, hE4.2.2.2.mono (by decide) (by decide)⟩
 ·show Steps p.tables e below (T2.setTop (mkF m 9 #[.val (.ref a1), .val (.ref a2)] [])) _
  exact X2.returnOut hx Bd.returns (hb hby d2_9) hr4
 ·show Qi1 Z a1 a2 k2 h0 n0 _ T2.heap _
  exact ⟨rfl, N2, Kp2, S2⟩
 ·show CHr Z own_EL s.vm s.heap T2.vm T2.heap
  rw [hh]
  exact CR2.trans (CHv.at X2 hZ2 hEL CH2)

theorem own_n5 (x : Int32) : ((x &&& (2147483647 : Int32)) % (5 : Int32)) = 0 ∨ ((x &&& (2147483647 : Int32)) % (5 : Int32)) = 1 ∨ ((x &&& (2147483647 : Int32)) % (5 : Int32)) = 2 ∨ ((x &&& (2147483647 : Int32)) % (5 : Int32)) = 3 ∨ ((x &&& (2147483647 : Int32)) % (5 : Int32)) = 4 := by
 have h1 := c_mask x 2147483647 31 (by decide) (by decide)
 have h2 := (c_irem (x &&& (2147483647 : Int32)) 5 5 (by decide)).1
 generalize (x &&& (2147483647 : Int32)) = y at h1 h2 ⊢
 have h3 := h2 (by omega)
 generalize y % (5 : Int32) = r at h3 ⊢
 rcases (by omega : r.toInt = 0 ∨ r.toInt = 1 ∨ r.toInt = 2 ∨ r.toInt = 3 ∨ r.toInt = 4) with h | h | h | h | h
 ·have e : r = 0 := Int32.toInt_inj.mp (h.trans rfl)
  subst e; decide
 ·have e : r = 1 := Int32.toInt_inj.mp (h.trans rfl)
  subst e; decide
 ·have e : r = 2 := Int32.toInt_inj.mp (h.trans rfl)
  subst e; decide
 ·have e : r = 3 := Int32.toInt_inj.mp (h.trans rfl)
  subst e; decide
 ·have e : r = 4 := Int32.toInt_inj.mp (h.trans rfl)
  subst e; decide
theorem own_pl0 {c : Int32} (h : own_pl c = 0) : c = 36 ∨ c = 92 := by
 unfold own_pl at h
 split at h
 ·exact Or.inl (by assumption)
 split at h
 ·exact Or.inr (by assumption)
 exact absurd h (by decide)
theorem own_pl1 {c : Int32} (h : ¬ own_pl c = 0) : ¬ c = 36 ∧ ¬ c = 92 := by
 unfold own_pl at h
 split at h
 ·exact absurd rfl h
 split at h
 ·exact absurd rfl h
 exact ⟨by assumption, by assumption⟩

theorem pd_0 : parseMethodDescriptor "(IIIII)Z" = some ⟨[.int, .int, .int, .int, .int], some .boolean⟩ := by decide +kernel

theorem ef_0 (m : MethodId) (x0 : Int32) (x1 : Int32) (x2 : Int32) (x3 : Int32) (x4 : Int32)  : entryFrame m #[(.int x0), (.int x1), (.int x2), (.int x3), (.int x4)] maxLocals = mkF m 0 #[.val (.int x0), .val (.int x1), .val (.int x2), .val (.int x3), .val (.int x4), .unset, .unset, .unset, .unset, .unset, .unset, .unset] [] := by first | (simp [entryFrame, mkF, argsToLocals, Value.category, maxLocals]; done) | rfl
def Q0 (Z : State) (p1 p2 p3 p4 p5 : Int32) (h0 : Heap) (n0 : Nat) (v : Option Value) (h : Heap) (L : List Loc) : Prop := v = some (.int (1 : Int32)) ∧ Fr n0 L
set_option maxRecDepth 65536 in
set_option maxHeartbeats 40000000 in
theorem rm0 (l : Launch) (Z : State) (a0 : Array Value) (hw : ∀ d ∈ tables_1, d.before a0 Z = true) (ws : List Jvm.Cond) (p1 p2 p3 p4 p5 : Int32) (h0 : Heap) (n0 : Nat) (Z0 : n0 ≤ h0.size) (EN : own_env Z h0) :
  MetFree l x (head1 (Jvm.Cond.code x code maxLocals ret :: ws) room_1) (fun a U => a = #[(.int p1), (.int p2), (.int p3), (.int p4), (.int p5)] ∧ Z.Warmed39 U.vm ∧ U.heap = h0 ∧ CHv Z own_EL U.vm h0) (fun _ _ _ _ _ => True) (fun _ U o U' => ∃ v L, o = .returned v ∧ Q0 Z p1 p2 p3 p4 p5 h0 n0 v U'.heap L ∧ CHr Z own_EL U.vm U.heap U'.vm U'.heap ∧ ReturnedEndW U o U' L room_1.cells room_1.slots) := by
 refine MetFree.of_bodySF (plainFor_of_name pn_k0) hisR ?_
 intro p e s m args below meth c s₁ Bd hml0 hP hK
 obtain ⟨rfl, hZ, hh, hCH⟩ := hP
 have hx := Bd.exec
 have hby := Bd.bytes
 have hml : c.maxLocals = 12 := hml0
 have hown : s.vm.findClass "com/example/oxpecker/oxpecker/MessageTemplateIsTextAlonePinLaw" = some m.cls := findClass_of_methodNamed Bd.named
 have hnm := (name_of_methodNamed Bd.named Bd.method).1
 have X0 : Stand p l e room_1 (s.setVm s.vm) m #[(.int p1), (.int p2), (.int p3), (.int p4), (.int p5)] below meth c s₁ [] 0 0 := Stand.of_body Bd
 have e0 : s₁.heap = h0 := by rw [← hh, Bd.state]; rfl
 have N0 := Fr.nil n0
 have hZ0 : Z.Warmed39 (s.setVm s.vm).vm := hZ
 have ho0 : (s.setVm s.vm).vm.findClass "com/example/oxpecker/oxpecker/MessageTemplateIsTextAlonePinLaw" = some m.cls := hown
 have hS0 : s.Since s.vm h0.size := (State.WarmedH.refl s).since _
 have hEL : EW Z a0 own_EL := own_EW hw
 have wS : ∀ a ∈ Bundle.stringAtoms, a.before a0 Z = true := fun d hd => hw d ((by decide +kernel : ∀ d ∈ Bundle.stringAtoms, d ∈ tables_1) d hd)
 have pre0 : ∀ t, Steps p.tables e below (s₁.setTop (mkF m 0 #[.val (.int p1), .val (.int p2), .val (.int p3), .val (.int p4), .val (.int p5), .unset, .unset, .unset, .unset, .unset, .unset, .unset] [])) t → Steps p.tables e below (s₁.setTop (entryFrame m #[(.int p1), (.int p2), (.int p3), (.int p4), (.int p5)] maxLocals)) t := fun t k => castTop (ef_0 m p1 p2 p3 p4 p5) k
 obtain ⟨_, _, ⟨T1, L1, k1, n1⟩, -, X1, ⟨Lc1, hQ1, l1, y1, z1⟩, st1⟩ := Jvm.LawKit.callS X0 hx (y := own_z0) ho0 (mvT hZ0 (wd1 hw)) (mvT hZ0 (wd2 hw)) (mvT hZ0 (wd3 hw)) (mvT hZ0 (wd4 hw)) (by decide) (backOf (W := 0) (rmpk l Z a0 hw [] p2 h0 n0 Z0) hZ0 (wd4 hw) (wd3 hw) (by decide) (by decide)) (g := (mkF m 9 #[.val (.int p1), .val (.int p2), .val (.int p3), .val (.int p4), .val (.int p5), .val (.int ((p1 &&& (2147483647 : Int32)) % (5 : Int32))), .unset, .unset, .unset, .unset, .unset, .unset] [(.int p2)])) rfl (by rw [hml]; rfl) (argsL := [(.int p2)]) (rest := []) (lenOf pd_pk rfl) rfl (by show 2 * 0 + _ ≤ _; exact Nat.le_of_eq rfl) (hb hby at_9) (fun _ _ => ⟨rfl, e0, (by decide : 0 + 0 ≤ _), (by decide : 0 + 0 ≤ _)⟩)
 dsimp only [Pt.U, Pt.locs, Pt.cells, Pt.slots] at X1 l1 y1 z1 st1 hQ1
 subst l1 y1 z1
 obtain ⟨rfl, N1q, q1⟩ := hQ1
 have N1 := Fr.app N0 N1q
 obtain ⟨_, _, ⟨T2, L2, k2, n2⟩, -, X2, ⟨Lc2, hQ2, l2, y2, z2⟩, st2⟩ := Jvm.LawKit.callS X1 hx (y := own_z0) ho0 (mvT hZ0 (wd1 hw)) (mvT hZ0 (wd2 hw)) (mvT hZ0 (wd3 hw)) (mvT hZ0 (wd4 hw)) (by decide) (backOf (W := 0) (rmpk l Z a0 hw [] p3 h0 n0 Z0) hZ0 (wd4 hw) (wd3 hw) (by decide) (by decide)) (g := (mkF m 15 #[.val (.int p1), .val (.int p2), .val (.int p3), .val (.int p4), .val (.int p5), .val (.int ((p1 &&& (2147483647 : Int32)) % (5 : Int32))), .val (.int (own_pk p2)), .unset, .unset, .unset, .unset, .unset] [(.int p3)])) rfl (by rw [hml]; rfl) (argsL := [(.int p3)]) (rest := []) (lenOf pd_pk rfl) rfl (by show 2 * 0 + _ ≤ _; exact Nat.le_of_eq rfl) (hb hby at_15) (fun _ _ => ⟨rfl, q1, (by decide : 0 + 0 ≤ _), (by decide : 0 + 0 ≤ _)⟩)
 dsimp only [Pt.U, Pt.locs, Pt.cells, Pt.slots] at X2 l2 y2 z2 st2 hQ2
 subst l2 y2 z2
 obtain ⟨rfl, N2q, q2⟩ := hQ2
 have N2 := Fr.app N1 N2q
 obtain ⟨_, _, ⟨T3, L3, k3, n3⟩, -, X3, ⟨Lc3, hQ3, l3, y3, z3⟩, st3⟩ := Jvm.LawKit.callS X2 hx (y := own_z0) ho0 (mvT hZ0 (wd1 hw)) (mvT hZ0 (wd2 hw)) (mvT hZ0 (wd3 hw)) (mvT hZ0 (wd4 hw)) (by decide) (backOf (W := 0) (rmpk l Z a0 hw [] p4 h0 n0 Z0) hZ0 (wd4 hw) (wd3 hw) (by decide) (by decide)) (g := (mkF m 21 #[.val (.int p1), .val (.int p2), .val (.int p3), .val (.int p4), .val (.int p5), .val (.int ((p1 &&& (2147483647 : Int32)) % (5 : Int32))), .val (.int (own_pk p2)), .val (.int (own_pk p3)), .unset, .unset, .unset, .unset] [(.int p4)])) rfl (by rw [hml]; rfl) (argsL := [(.int p4)]) (rest := []) (lenOf pd_pk rfl) rfl (by show 2 * 0 + _ ≤ _; exact Nat.le_of_eq rfl) (hb hby at_21) (fun _ _ => ⟨rfl, q2, (by decide : 0 + 0 ≤ _), (by decide : 0 + 0 ≤ _)⟩)
 dsimp only [Pt.U, Pt.locs, Pt.cells, Pt.slots] at X3 l3 y3 z3 st3 hQ3
 subst l3 y3 z3
 obtain ⟨rfl, N3q, q3⟩ := hQ3
 have N3 := Fr.app N2 N3q
 obtain ⟨_, _, ⟨T4, L4, k4, n4⟩, -, X4, ⟨Lc4, hQ4, l4, y4, z4⟩, st4⟩ := Jvm.LawKit.callS X3 hx (y := own_z0) ho0 (mvT hZ0 (wd1 hw)) (mvT hZ0 (wd2 hw)) (mvT hZ0 (wd3 hw)) (mvT hZ0 (wd4 hw)) (by decide) (backOf (W := 0) (rmpk l Z a0 hw [] p5 h0 n0 Z0) hZ0 (wd4 hw) (wd3 hw) (by decide) (by decide)) (g := (mkF m 28 #[.val (.int p1), .val (.int p2), .val (.int p3), .val (.int p4), .val (.int p5), .val (.int ((p1 &&& (2147483647 : Int32)) % (5 : Int32))), .val (.int (own_pk p2)), .val (.int (own_pk p3)), .val (.int (own_pk p4)), .unset, .unset, .unset] [(.int p5)])) rfl (by rw [hml]; rfl) (argsL := [(.int p5)]) (rest := []) (lenOf pd_pk rfl) rfl (by show 2 * 0 + _ ≤ _; exact Nat.le_of_eq rfl) (hb hby at_28) (fun _ _ => ⟨rfl, q3, (by decide : 0 + 0 ≤ _), (by decide : 0 + 0 ≤ _)⟩)
 dsimp only [Pt.U, Pt.locs, Pt.cells, Pt.slots] at X4 l4 y4 z4 st4 hQ4
 subst l4 y4 z4
 obtain ⟨rfl, N4q, q4⟩ := hQ4
 have N4 := Fr.app N3 N4q
 have pre5 : ∀ t, Steps p.tables e below (T4.setTop (mkF m 33 #[.val (.int p1), .val (.int p2), .val (.int p3), .val (.int p4), .val (.int p5), .val (.int ((p1 &&& (2147483647 : Int32)) % (5 : Int32))), .val (.int (own_pk p2)), .val (.int (own_pk p3)), .val (.int (own_pk p4)), .val (.int (own_pk p5)), .unset, .unset] [])) t → Steps p.tables e below (s₁.setTop (entryFrame m #[(.int p1), (.int p2), (.int p3), (.int p4), (.int p5)] maxLocals)) t := fun t k => pre0 t (by
  show Steps p.tables e below (s₁.setTop (mkF m 0 #[.val (.int p1), .val (.int p2), .val (.int p3), .val (.int p4), .val (.int p5), .unset, .unset, .unset, .unset, .unset, .unset, .unset] [])) _
  refine XS.iloadN X0.here hx rfl (hb hby at_0) rfl ?_
  refine X0.ldcI hx ho0 (mvT hZ0 (wd0 hw)) (g := (mkF m 1 #[.val (.int p1), .val (.int p2), .val (.int p3), .val (.int p4), .val (.int p5), .unset, .unset, .unset, .unset, .unset, .unset, .unset] [(.int p1)])) rfl (hb hby at_1) ?_
  refine XS.iand X0.here hx rfl (hb hby at_3) rfl ?_
  refine XS.iconst X0.here hx rfl (hb hby at_4) ?_
  refine iremM (g := (mkF m 5 #[.val (.int p1), .val (.int p2), .val (.int p3), .val (.int p4), .val (.int p5), .unset, .unset, .unset, .unset, .unset, .unset, .unset] [(.int (5 : Int32)), (.int (p1 &&& (2147483647 : Int32)))])) X0 hx rfl (hb hby at_5) rfl (by decide) ?_
  refine XS.istore X0.here hx rfl (hb hby at_6) rfl (l' := #[.val (.int p1), .val (.int p2), .val (.int p3), .val (.int p4), .val (.int p5), .val (.int ((p1 &&& (2147483647 : Int32)) % (5 : Int32))), .unset, .unset, .unset, .unset, .unset, .unset]) rfl ?_
  refine XS.iloadN X0.here hx rfl (hb hby at_8) rfl ?_
  refine st1 _ ?_
  refine XS.istore X1.here hx rfl (hb hby at_12) rfl (l' := #[.val (.int p1), .val (.int p2), .val (.int p3), .val (.int p4), .val (.int p5), .val (.int ((p1 &&& (2147483647 : Int32)) % (5 : Int32))), .val (.int (own_pk p2)), .unset, .unset, .unset, .unset, .unset]) rfl ?_
  refine XS.iloadN X1.here hx rfl (hb hby at_14) rfl ?_
  refine st2 _ ?_
  refine XS.istore X2.here hx rfl (hb hby at_18) rfl (l' := #[.val (.int p1), .val (.int p2), .val (.int p3), .val (.int p4), .val (.int p5), .val (.int ((p1 &&& (2147483647 : Int32)) % (5 : Int32))), .val (.int (own_pk p2)), .val (.int (own_pk p3)), .unset, .unset, .unset, .unset]) rfl ?_
  refine XS.iloadN X2.here hx rfl (hb hby at_20) rfl ?_
  refine st3 _ ?_
  refine XS.istore X3.here hx rfl (hb hby at_24) rfl (l' := #[.val (.int p1), .val (.int p2), .val (.int p3), .val (.int p4), .val (.int p5), .val (.int ((p1 &&& (2147483647 : Int32)) % (5 : Int32))), .val (.int (own_pk p2)), .val (.int (own_pk p3)), .val (.int (own_pk p4)), .unset, .unset, .unset]) rfl ?_
  refine XS.iload X3.here hx rfl (hb hby at_26) rfl ?_
  refine st4 _ ?_
  refine XS.istore X4.here hx rfl (hb hby at_31) rfl (l' := #[.val (.int p1), .val (.int p2), .val (.int p3), .val (.int p4), .val (.int p5), .val (.int ((p1 &&& (2147483647 : Int32)) % (5 : Int32))), .val (.int (own_pk p2)), .val (.int (own_pk p3)), .val (.int (own_pk p4)), .val (.int (own_pk p5)), .unset, .unset]) rfl ?_
  exact k)
 rcases own_n5 p1 with hn | hn | hn | hn | hn
 ·obtain ⟨T6, h6, X6, e6, E6, A6, D6, -, st6⟩ := newO X4 hx hZ0 ho0 (wd6 hw) (wd7 hw) (wd8 hw) q4 (g := (mkF m 38 #[.val (.int p1), .val (.int p2), .val (.int p3), .val (.int p4), .val (.int p5), .val (.int ((p1 &&& (2147483647 : Int32)) % (5 : Int32))), .val (.int (own_pk p2)), .val (.int (own_pk p3)), .val (.int (own_pk p4)), .val (.int (own_pk p5)), .unset, .unset] [])) rfl (hb hby at_38) (by decide) (by decide)
  obtain ⟨b6, gb6⟩ : ∃ z, z = h0.size := ⟨_, rfl⟩
  rw [← gb6] at A6 D6 st6
  have gn6 : n0 ≤ b6 := Nat.le_trans Z0 (Nat.le_of_eq gb6.symm)
  have sz6_b : h0.size ≤ b6 := Nat.le_trans (Keep.refl h0 []).1 (Nat.le_of_eq gb6.symm)
  have EN_6 := EN.ext E6
  have K6 := (Keep.refl h0 []).ext E6
  have F_value_b6 : Fld Z h6 b6 "java/lang/String" "value" "[B" .null := D6 (Or.inr (wd22 hw)) (ty := (.array .byte)) (by decide)
  have F_coder_b6 : Fld Z h6 b6 "java/lang/String" "coder" "B" (.int (0 : Int32)) := D6 (Or.inr (wd23 hw)) (ty := .byte) (by decide)
  obtain ⟨T7, h7, k7, X7, e7, E7, A7, st7⟩ := newP (aty := .char) X6 hx hZ0 (wd9 hw) e6 (g := (mkF m 43 #[.val (.int p1), .val (.int p2), .val (.int p3), .val (.int p4), .val (.int p5), .val (.int ((p1 &&& (2147483647 : Int32)) % (5 : Int32))), .val (.int (own_pk p2)), .val (.int (own_pk p3)), .val (.int (own_pk p4)), .val (.int (own_pk p5)), .unset, .unset] [(.int (0 : Int32)), (.ref b6), (.ref b6)])) rfl (hb hby at_43) rfl (by decide) (cap := 0) (by decide) (by decide) (by decide) (by decide)
  obtain ⟨b7, gb7⟩ : ∃ z, z = h6.size := ⟨_, rfl⟩
  rw [← gb7] at A7 st7
  have gn7 : n0 ≤ b7 := Nat.le_trans (Nat.le_trans Z0 E6.1) (Nat.le_of_eq gb7.symm)
  have sz7_b : h0.size ≤ b7 := Nat.le_trans K6.1 (Nat.le_of_eq gb7.symm)
  have ne_b6_b7 : b6 ≠ b7 := Nat.ne_of_lt (Nat.lt_of_lt_of_le A6.lt (Nat.le_of_eq gb7.symm))
  have EN_7 := EN_6.ext E7
  have A6_7 := A6.ext E7
  have F_value_b6_7 := F_value_b6.ext E7
  have F_coder_b6_7 := F_coder_b6.ext E7
  have K7 := K6.ext E7
  have V7 : Arv Z h7 b7 k7 .char (0 : Int32) [] (.int (0 : Int32)) := (Arv.new A7 (by decide)).pad (pad_rep [] (.int (0 : Int32)) 0)
  obtain ⟨_, _, ⟨T8, L8, k8, n8⟩, -, Y8, hSq8, hgq8, ⟨Lc8, hQ8, l8, y8, z8, CQ8⟩, st8⟩ := X7.specialBackS hx (y := own_z19) rfl ho0 (mvT hZ0 (wd10 hw)) (mvT hZ0 (wd11 hw)) (mvT hZ0 (wd12 hw)) (by decide) (backOfSH (W := 1) (rmi1 l Z a0 hw [] b6 b7 k7 h7 n0 (Nat.le_trans (Nat.le_trans Z0 E6.1) E7.1) F_value_b6_7 F_coder_b6_7 A6_7 gn6 V7) hZ0 (wd12 hw) (wd8 hw) (by decide) (by decide) hEL (CHv.ext (own_ext K7) hCH)) (g := (mkF m 45 #[.val (.int p1), .val (.int p2), .val (.int p3), .val (.int p4), .val (.int p5), .val (.int ((p1 &&& (2147483647 : Int32)) % (5 : Int32))), .val (.int (own_pk p2)), .val (.int (own_pk p3)), .val (.int (own_pk p4)), .val (.int (own_pk p5)), .unset, .unset] [(.ref b7), (.ref b6), (.ref b6)])) rfl (by rw [hml]; rfl) (Steps.refl _) (a := b6) (argsL := [(.ref b7)]) (rest := [(.ref b6)]) (lenOf pd_w11 rfl) rfl (by show 2 * 0 + _ ≤ _; exact Nat.le_of_eq rfl) (hb hby at_45) (fun _ _ => ⟨rfl, e7, (by decide : 2 + 4 ≤ _), (by decide : 4 + 8 ≤ _)⟩)
  dsimp only [Pt.U, Pt.locs, Pt.cells, Pt.slots] at Y8 hSq8 hgq8 l8 y8 z8 st8 hQ8 CQ8
  subst l8 y8 z8
  obtain ⟨X8, hS8, hZ8, ho8⟩ := rebS hS0 (by first | exact K7.1 | (rw [e7]; exact K7.1)) Y8 hSq8 hgq8 hZ0 ho0
  obtain ⟨rfl, N8q, Kp8, cd8, S8⟩ := hQ8
  have N8 := Fr.app N4 N8q
  have CR8 := (CHr.ext (own_ext K7) hCH).trans CQ8
  have CH8 := CQ8.1
  have EN_8 := EN_7.keep Kp8 A6_7.nostat
  have K8 := K7.trans Kp8 (fun x hx => by cases List.mem_singleton.mp hx; exact Or.inr sz6_b)
  have Y36 := own_y0 l Z a0 hw b6  cd8 36 T8.heap n0 (Nat.le_trans (Nat.le_trans (Nat.le_trans Z0 E6.1) E7.1) Kp8.1) S8 EN_8  ⟨by decide, by decide⟩
  have Y92 := own_y0 l Z a0 hw b6  cd8 92 T8.heap n0 (Nat.le_trans (Nat.le_trans (Nat.le_trans Z0 E6.1) E7.1) Kp8.1) S8 EN_8  ⟨by decide, by decide⟩
  obtain ⟨t9, kb9, N9, vs9, Ex9, -⟩ := S8
  obtain ⟨_, _, ⟨T9, L9, k9, n9⟩, -, X9, ⟨Lc9, hQ9, l9, y9, z9⟩, st9⟩ := Jvm.LawKit.callS X8 hx (y := own_z28) ho8 (mvT hZ8 (wd28 hw)) (mvT hZ8 (wd29 hw)) (mvT hZ8 (wd30 hw)) (mvT hZ8 (wd31 hw)) (by decide) (backOf (W := 0) (rmtg l Z a0 hw [] b6 _ _ T8.heap n0 (Nat.le_trans (Nat.le_trans (Nat.le_trans Z0 E6.1) E7.1) Kp8.1) Ex9 Y36 Y92) hZ8 (wd31 hw) (wd30 hw) (by decide) (by decide)) (g := (mkF m 243 #[.val (.int p1), .val (.int p2), .val (.int p3), .val (.int p4), .val (.int p5), .val (.int ((p1 &&& (2147483647 : Int32)) % (5 : Int32))), .val (.int (own_pk p2)), .val (.int (own_pk p3)), .val (.int (own_pk p4)), .val (.int (own_pk p5)), .val (.ref b6), .val (.int (1 : Int32))] [(.ref b6)])) rfl (by rw [hml]; rfl) (argsL := [(.ref b6)]) (rest := []) (lenOf pd_tg rfl) rfl (by show 2 * 0 + _ ≤ _; exact Nat.le_of_eq rfl) (hb hby at_243) (fun _ _ => ⟨rfl, rfl, (by decide : 6 + 0 ≤ _), (by decide : 12 + 0 ≤ _)⟩)
  dsimp only [Pt.U, Pt.locs, Pt.cells, Pt.slots] at X9 l9 y9 z9 st9 hQ9
  subst l9 y9 z9
  obtain ⟨t9, rfl, N9q, q9, hd9⟩ := hQ9
  have N9 := Fr.app N8 N9q
  have pre10 : ∀ t, Steps p.tables e below (T9.setTop (mkF m 246 #[.val (.int p1), .val (.int p2), .val (.int p3), .val (.int p4), .val (.int p5), .val (.int ((p1 &&& (2147483647 : Int32)) % (5 : Int32))), .val (.int (own_pk p2)), .val (.int (own_pk p3)), .val (.int (own_pk p4)), .val (.int (own_pk p5)), .val (.ref b6), .val (.int (1 : Int32))] [(.int t9)])) t → Steps p.tables e below (s₁.setTop (entryFrame m #[(.int p1), (.int p2), (.int p3), (.int p4), (.int p5)] maxLocals)) t := fun t k => pre5 t (by
   show Steps p.tables e below (T4.setTop (mkF m 33 #[.val (.int p1), .val (.int p2), .val (.int p3), .val (.int p4), .val (.int p5), .val (.int ((p1 &&& (2147483647 : Int32)) % (5 : Int32))), .val (.int (own_pk p2)), .val (.int (own_pk p3)), .val (.int (own_pk p4)), .val (.int (own_pk p5)), .unset, .unset] [])) _
   refine XS.iload X4.here hx rfl (hb hby at_33) rfl ?_
   refine XS.ifNo X4.here hx rfl (hb hby at_35) rfl ((if0 _ _).trans (teq hn).2) ?_
   refine st6 _ ?_
   refine XS.dup X6.here hx rfl (hb hby at_41) rfl rfl ?_
   refine XS.iconst X6.here hx rfl (hb hby at_42) ?_
   refine st7 _ ?_
   refine st8.trans ?_
   refine XS.astore X8.here hx rfl (hb hby at_48) rfl rfl (l' := #[.val (.int p1), .val (.int p2), .val (.int p3), .val (.int p4), .val (.int p5), .val (.int ((p1 &&& (2147483647 : Int32)) % (5 : Int32))), .val (.int (own_pk p2)), .val (.int (own_pk p3)), .val (.int (own_pk p4)), .val (.int (own_pk p5)), .val (.ref b6), .unset]) rfl ?_
   refine XS.goto X8.here hx rfl (pc0 := 50) (pc' := 178) rfl (hb hby at_50) (by decide) (by decide) ?_
   refine XS.iload X8.here hx rfl (hb hby at_178) rfl ?_
   refine XS.iconst X8.here hx rfl (hb hby at_180) ?_
   refine XS.icmpYes X8.here hx rfl (pc0 := 181) (pc' := 192) rfl (hb hby at_181) rfl (tlt (by rw [hn]; decide)).1 (by decide) (by decide) ?_
   refine XS.iload X8.here hx rfl (hb hby at_192) rfl ?_
   refine XS.iconst X8.here hx rfl (hb hby at_194) ?_
   refine XS.icmpYes X8.here hx rfl (pc0 := 195) (pc' := 206) rfl (hb hby at_195) rfl (tlt (by rw [hn]; decide)).1 (by decide) (by decide) ?_
   refine XS.iload X8.here hx rfl (hb hby at_206) rfl ?_
   refine XS.iconst X8.here hx rfl (hb hby at_208) ?_
   refine XS.icmpYes X8.here hx rfl (pc0 := 209) (pc' := 220) rfl (hb hby at_209) rfl (tlt (by rw [hn]; decide)).1 (by decide) (by decide) ?_
   refine XS.iload X8.here hx rfl (hb hby at_220) rfl ?_
   refine XS.iconst X8.here hx rfl (hb hby at_222) ?_
   refine XS.icmpYes X8.here hx rfl (pc0 := 223) (pc' := 234) rfl (hb hby at_223) rfl (tlt (by rw [hn]; decide)).1 (by decide) (by decide) ?_
   refine XS.iconst X8.here hx rfl (hb hby at_234) ?_
   refine XS.goto X8.here hx rfl (pc0 := 235) (pc' := 239) rfl (hb hby at_235) (by decide) (by decide) ?_
   refine XS.istore X8.here hx rfl (hb hby at_239) rfl (l' := #[.val (.int p1), .val (.int p2), .val (.int p3), .val (.int p4), .val (.int p5), .val (.int ((p1 &&& (2147483647 : Int32)) % (5 : Int32))), .val (.int (own_pk p2)), .val (.int (own_pk p3)), .val (.int (own_pk p4)), .val (.int (own_pk p5)), .val (.ref b6), .val (.int (1 : Int32))]) rfl ?_
   refine XS.aload X8.here hx rfl (hb hby at_241) rfl rfl ?_
   refine st9 _ ?_
   exact k)
  rcases hd9 with ⟨rfl, hd⟩ | ⟨rfl, hd⟩
  ·have pre11 : ∀ t, Steps p.tables e below (T9.setTop (mkF m 256 #[.val (.int p1), .val (.int p2), .val (.int p3), .val (.int p4), .val (.int p5), .val (.int ((p1 &&& (2147483647 : Int32)) % (5 : Int32))), .val (.int (own_pk p2)), .val (.int (own_pk p3)), .val (.int (own_pk p4)), .val (.int (own_pk p5)), .val (.ref b6), .val (.int (1 : Int32))] [(.int (1 : Int32))])) t → Steps p.tables e below (s₁.setTop (entryFrame m #[(.int p1), (.int p2), (.int p3), (.int p4), (.int p5)] maxLocals)) t := fun t k => pre10 t (by
    show Steps p.tables e below (T9.setTop (mkF m 246 #[.val (.int p1), .val (.int p2), .val (.int p3), .val (.int p4), .val (.int p5), .val (.int ((p1 &&& (2147483647 : Int32)) % (5 : Int32))), .val (.int (own_pk p2)), .val (.int (own_pk p3)), .val (.int (own_pk p4)), .val (.int (own_pk p5)), .val (.ref b6), .val (.int (1 : Int32))] [(.int (1 : Int32))])) _
    refine XS.iload X9.here hx rfl (hb hby at_246) rfl ?_
    refine XS.icmpNo X9.here hx rfl (hb hby at_248) rfl (teq (by decide : (1 : Int32) = (1 : Int32))).2 ?_
    refine XS.iconst X9.here hx rfl (hb hby at_251) ?_
    refine XS.goto X9.here hx rfl (pc0 := 252) (pc' := 256) rfl (hb hby at_252) (by decide) (by decide) ?_
    exact k)
   obtain ⟨fs12, hr12, hrun12, hended12, hE12⟩ := X9.leaveW hS8 (by first | exact (Nat.le_refl _) | (rw [q9]; exact (Nat.le_refl _))) (v := some (.int (1 : Int32))) (fun h => by rw [Bd.returns] at h; cases h)
   refine ⟨_, _, pre11 _ ?_, hrun12, hended12, _, _, rfl, ?_, ?_, hE12.1, hE12.2.1, hE12.2.2.1, hE12.2.2.2.mono (by decide) (by decide)⟩
   ·show Steps p.tables e below (T9.setTop (mkF m 256 #[.val (.int p1), .val (.int p2), .val (.int p3), .val (.int p4), .val (.int p5), .val (.int ((p1 &&& (2147483647 : Int32)) % (5 : Int32))), .val (.int (own_pk p2)), .val (.int (own_pk p3)), .val (.int (own_pk p4)), .val (.int (own_pk p5)), .val (.ref b6), .val (.int (1 : Int32))] [(.int (1 : Int32))])) _
    exact retN X9 hx (t := .boolean) Bd.returns (by simp) (hb hby at_256) hr12
   ·show Q0 Z p1 p2 p3 p4 p5 h0 n0 _ T9.heap _
    rw [q9]
    exact ⟨rfl, N9⟩
   ·show CHr Z own_EL s.vm s.heap T9.vm T9.heap
    rw [q9]
    rw [hh]
    exact CR8.trans (CHv.at X9 hZ8 hEL CH8)
  ·have e1 : ¬ (False) := fun q => q
   have e2 : ¬ (False) := fun q => q
   exact absurd ⟨e1, e2⟩ hd
 ·obtain ⟨T13, h13, X13, e13, E13, A13, D13, -, st13⟩ := newO X4 hx hZ0 ho0 (wd6 hw) (wd7 hw) (wd8 hw) q4 (g := (mkF m 59 #[.val (.int p1), .val (.int p2), .val (.int p3), .val (.int p4), .val (.int p5), .val (.int ((p1 &&& (2147483647 : Int32)) % (5 : Int32))), .val (.int (own_pk p2)), .val (.int (own_pk p3)), .val (.int (own_pk p4)), .val (.int (own_pk p5)), .unset, .unset] [])) rfl (hb hby at_59) (by decide) (by decide)
  obtain ⟨b13, gb13⟩ : ∃ z, z = h0.size := ⟨_, rfl⟩
  rw [← gb13] at A13 D13 st13
  have gn13 : n0 ≤ b13 := Nat.le_trans Z0 (Nat.le_of_eq gb13.symm)
  have sz13_b : h0.size ≤ b13 := Nat.le_trans (Keep.refl h0 []).1 (Nat.le_of_eq gb13.symm)
  have EN_13 := EN.ext E13
  have K13 := (Keep.refl h0 []).ext E13
  have F_value_b13 : Fld Z h13 b13 "java/lang/String" "value" "[B" .null := D13 (Or.inr (wd22 hw)) (ty := (.array .byte)) (by decide)
  have F_coder_b13 : Fld Z h13 b13 "java/lang/String" "coder" "B" (.int (0 : Int32)) := D13 (Or.inr (wd23 hw)) (ty := .byte) (by decide)
  obtain ⟨T14, h14, k14, X14, e14, E14, A14, st14⟩ := newP (aty := .char) X13 hx hZ0 (wd9 hw) e13 (g := (mkF m 64 #[.val (.int p1), .val (.int p2), .val (.int p3), .val (.int p4), .val (.int p5), .val (.int ((p1 &&& (2147483647 : Int32)) % (5 : Int32))), .val (.int (own_pk p2)), .val (.int (own_pk p3)), .val (.int (own_pk p4)), .val (.int (own_pk p5)), .unset, .unset] [(.int (1 : Int32)), (.ref b13), (.ref b13)])) rfl (hb hby at_64) rfl (by decide) (cap := 1) (by decide) (by decide) (by decide) (by decide)
  obtain ⟨b14, gb14⟩ : ∃ z, z = h13.size := ⟨_, rfl⟩
  rw [← gb14] at A14 st14
  have gn14 : n0 ≤ b14 := Nat.le_trans (Nat.le_trans Z0 E13.1) (Nat.le_of_eq gb14.symm)
  have sz14_b : h0.size ≤ b14 := Nat.le_trans K13.1 (Nat.le_of_eq gb14.symm)
  have ne_b13_b14 : b13 ≠ b14 := Nat.ne_of_lt (Nat.lt_of_lt_of_le A13.lt (Nat.le_of_eq gb14.symm))
  have EN_14 := EN_13.ext E14
  have A13_14 := A13.ext E14
  have F_value_b13_14 := F_value_b13.ext E14
  have F_coder_b13_14 := F_coder_b13.ext E14
  have K14 := K13.ext E14
  have V14 : Arv Z h14 b14 k14 .char (1 : Int32) [(.int (0 : Int32))] (.int (0 : Int32)) := (Arv.new A14 (by decide)).pad (pad_rep [] (.int (0 : Int32)) 1)
  have Vc15 := V14
  obtain ⟨cl15, Ar15, qq15, sz15, nn15, Ha15, Gf15⟩ := Vc15
  have hin15 : ¬ ((0 : Int32) < 0 ∨ cl15.slots.size ≤ ((0 : Int32)).toNatClampNeg) := inb_of sz15 ⟨by decide, by decide⟩
  obtain ⟨T16, h16, X16, e16, W16, st16⟩ := stC X14 hx hZ0 e14 Ar15 (j := (0 : Int32)) hin15 (g := (mkF m 70 #[.val (.int p1), .val (.int p2), .val (.int p3), .val (.int p4), .val (.int p5), .val (.int ((p1 &&& (2147483647 : Int32)) % (5 : Int32))), .val (.int (own_pk p2)), .val (.int (own_pk p3)), .val (.int (own_pk p4)), .val (.int (own_pk p5)), .unset, .unset] [(.int (own_pk p2)), (.int (0 : Int32)), (.ref b14), (.ref b14), (.ref b13), (.ref b13)])) rfl rfl (hb hby at_70)
  have N16 := Fr.snoc X16 N4 gn14
  have EN_16 := EN_14.wr W16 trivial
  have A13_16 := A13_14.wr W16
  have F_value_b13_16 := F_value_b13_14.other W16 (Or.inl ne_b13_b14)
  have F_coder_b13_16 := F_coder_b13_14.other W16 (Or.inl ne_b13_b14)
  have V14_16 := Arv.set Ar15 qq15 sz15 nn15 Ha15 Gf15 (fits_nar_char _) W16 0 rfl (Nat.le_of_ble_eq_true rfl)
  have K16 := K14.wr W16 (Or.inr sz14_b)
  have Kc : Arv Z h16 b14 k14 .char (1 : Int32) ([nar .char (own_pk p2)].map Value.int) (.int 0) := V14_16
  rw [own_nar (own_pkb p2)] at Kc
  obtain ⟨_, _, ⟨T17, L17, k17, n17⟩, -, X17, ⟨Lc17, hQ17, l17, y17, z17⟩, st17⟩ := X16.specialBack hx (y := own_z19) rfl ho0 (mvT hZ0 (wd10 hw)) (mvT hZ0 (wd11 hw)) (mvT hZ0 (wd12 hw)) (by decide) (backOf (W := 1) (rmw11 l Z a0 hw [] b13 b14 k14 (own_pk p2) h16 n0 (Nat.le_trans (Nat.le_trans (Nat.le_trans Z0 E13.1) E14.1) (Nat.le_of_eq W16.size.symm)) F_value_b13_16 F_coder_b13_16 A13_16 gn13 Kc EN_16 (own_pkb p2)) hZ0 (wd12 hw) (wd8 hw) (by decide) (by decide)) (g := (mkF m 71 #[.val (.int p1), .val (.int p2), .val (.int p3), .val (.int p4), .val (.int p5), .val (.int ((p1 &&& (2147483647 : Int32)) % (5 : Int32))), .val (.int (own_pk p2)), .val (.int (own_pk p3)), .val (.int (own_pk p4)), .val (.int (own_pk p5)), .unset, .unset] [(.ref b14), (.ref b13), (.ref b13)])) rfl (by rw [hml]; rfl) (Steps.refl _) (a := b13) (argsL := [(.ref b14)]) (rest := [(.ref b13)]) (lenOf pd_w11 rfl) rfl (by show 2 * 0 + _ ≤ _; exact Nat.le_of_eq rfl) (hb hby at_71) (fun _ _ => ⟨rfl, e16, (by decide : 2 + 2 ≤ _), (by decide : 5 + 3 ≤ _)⟩)
  dsimp only [Pt.U, Pt.locs, Pt.cells, Pt.slots] at X17 l17 y17 z17 st17 hQ17
  subst l17 y17 z17
  obtain ⟨rfl, N17q, Kp17, cd17, S17⟩ := hQ17
  have N17 := Fr.app N16 N17q
  have EN_17 := EN_16.keep Kp17 A13_16.nostat
  have K17 := K16.trans Kp17 (fun x hx => by cases List.mem_singleton.mp hx; exact Or.inr sz13_b)
  have Y36 := own_y1 l Z a0 hw b13 (own_pk p2) cd17 36 T17.heap n0 (Nat.le_trans (Nat.le_trans (Nat.le_trans (Nat.le_trans Z0 E13.1) E14.1) (Nat.le_of_eq W16.size.symm)) Kp17.1) S17 EN_17 (own_pkb p2) ⟨by decide, by decide⟩
  have Y92 := own_y1 l Z a0 hw b13 (own_pk p2) cd17 92 T17.heap n0 (Nat.le_trans (Nat.le_trans (Nat.le_trans (Nat.le_trans Z0 E13.1) E14.1) (Nat.le_of_eq W16.size.symm)) Kp17.1) S17 EN_17 (own_pkb p2) ⟨by decide, by decide⟩
  obtain ⟨t9, kb9, N9, vs9, Ex9, -⟩ := S17
  obtain ⟨_, _, ⟨T18, L18, k18, n18⟩, -, X18, ⟨Lc18, hQ18, l18, y18, z18⟩, st18⟩ := Jvm.LawKit.callS X17 hx (y := own_z1) ho0 (mvT hZ0 (wd82 hw)) (mvT hZ0 (wd83 hw)) (mvT hZ0 (wd3 hw)) (mvT hZ0 (wd84 hw)) (by decide) (backOf (W := 0) (rmpl l Z a0 hw [] (own_pk p2) T17.heap n0 (Nat.le_trans (Nat.le_trans (Nat.le_trans (Nat.le_trans Z0 E13.1) E14.1) (Nat.le_of_eq W16.size.symm)) Kp17.1)) hZ0 (wd84 hw) (wd3 hw) (by decide) (by decide)) (g := (mkF m 186 #[.val (.int p1), .val (.int p2), .val (.int p3), .val (.int p4), .val (.int p5), .val (.int ((p1 &&& (2147483647 : Int32)) % (5 : Int32))), .val (.int (own_pk p2)), .val (.int (own_pk p3)), .val (.int (own_pk p4)), .val (.int (own_pk p5)), .val (.ref b13), .unset] [(.int (own_pk p2))])) rfl (by rw [hml]; rfl) (argsL := [(.int (own_pk p2))]) (rest := []) (lenOf pd_pl rfl) rfl (by show 2 * 0 + _ ≤ _; exact Nat.le_of_eq rfl) (hb hby at_186) (fun _ _ => ⟨rfl, rfl, (by decide : 4 + 0 ≤ _), (by decide : 8 + 0 ≤ _)⟩)
  dsimp only [Pt.U, Pt.locs, Pt.cells, Pt.slots] at X18 l18 y18 z18 st18 hQ18
  subst l18 y18 z18
  obtain ⟨rfl, N18q, q18⟩ := hQ18
  have N18 := Fr.app N17 N18q
  have pre19 : ∀ t, Steps p.tables e below (T18.setTop (mkF m 189 #[.val (.int p1), .val (.int p2), .val (.int p3), .val (.int p4), .val (.int p5), .val (.int ((p1 &&& (2147483647 : Int32)) % (5 : Int32))), .val (.int (own_pk p2)), .val (.int (own_pk p3)), .val (.int (own_pk p4)), .val (.int (own_pk p5)), .val (.ref b13), .unset] [(.int (own_pl (own_pk p2)))])) t → Steps p.tables e below (s₁.setTop (entryFrame m #[(.int p1), (.int p2), (.int p3), (.int p4), (.int p5)] maxLocals)) t := fun t k => pre5 t (by
   show Steps p.tables e below (T4.setTop (mkF m 33 #[.val (.int p1), .val (.int p2), .val (.int p3), .val (.int p4), .val (.int p5), .val (.int ((p1 &&& (2147483647 : Int32)) % (5 : Int32))), .val (.int (own_pk p2)), .val (.int (own_pk p3)), .val (.int (own_pk p4)), .val (.int (own_pk p5)), .unset, .unset] [])) _
   refine XS.iload X4.here hx rfl (hb hby at_33) rfl ?_
   refine XS.ifYes X4.here hx rfl (pc0 := 35) (pc' := 53) rfl (hb hby at_35) rfl ((if0 _ _).trans (feq (by rw [hn]; decide)).2) (by decide) (by decide) ?_
   refine XS.iload X4.here hx rfl (hb hby at_53) rfl ?_
   refine XS.iconst X4.here hx rfl (hb hby at_55) ?_
   refine XS.icmpNo X4.here hx rfl (hb hby at_56) rfl (teq hn).2 ?_
   refine st13 _ ?_
   refine XS.dup X13.here hx rfl (hb hby at_62) rfl rfl ?_
   refine XS.iconst X13.here hx rfl (hb hby at_63) ?_
   refine st14 _ ?_
   refine XS.dup X14.here hx rfl (hb hby at_66) rfl rfl ?_
   refine XS.iconst X14.here hx rfl (hb hby at_67) ?_
   refine XS.iload X14.here hx rfl (hb hby at_68) rfl ?_
   refine st16 _ ?_
   refine st17.trans ?_
   refine XS.astore X17.here hx rfl (hb hby at_74) rfl rfl (l' := #[.val (.int p1), .val (.int p2), .val (.int p3), .val (.int p4), .val (.int p5), .val (.int ((p1 &&& (2147483647 : Int32)) % (5 : Int32))), .val (.int (own_pk p2)), .val (.int (own_pk p3)), .val (.int (own_pk p4)), .val (.int (own_pk p5)), .val (.ref b13), .unset]) rfl ?_
   refine XS.goto X17.here hx rfl (pc0 := 76) (pc' := 178) rfl (hb hby at_76) (by decide) (by decide) ?_
   refine XS.iload X17.here hx rfl (hb hby at_178) rfl ?_
   refine XS.iconst X17.here hx rfl (hb hby at_180) ?_
   refine XS.icmpNo X17.here hx rfl (hb hby at_181) rfl (flt (by rw [hn]; decide)).1 ?_
   refine XS.iload X17.here hx rfl (hb hby at_184) rfl ?_
   refine st18 _ ?_
   exact k)
  by_cases hc189 : (own_pl (own_pk p2)) = (0 : Int32)
  ·obtain ⟨_, _, ⟨T20, L20, k20, n20⟩, -, X20, ⟨Lc20, hQ20, l20, y20, z20⟩, st20⟩ := Jvm.LawKit.callS X18 hx (y := own_z28) ho0 (mvT hZ0 (wd28 hw)) (mvT hZ0 (wd29 hw)) (mvT hZ0 (wd30 hw)) (mvT hZ0 (wd31 hw)) (by decide) (backOf (W := 0) (rmtg l Z a0 hw [] b13 _ _ T17.heap n0 (Nat.le_trans (Nat.le_trans (Nat.le_trans (Nat.le_trans Z0 E13.1) E14.1) (Nat.le_of_eq W16.size.symm)) Kp17.1) Ex9 Y36 Y92) hZ0 (wd31 hw) (wd30 hw) (by decide) (by decide)) (g := (mkF m 243 #[.val (.int p1), .val (.int p2), .val (.int p3), .val (.int p4), .val (.int p5), .val (.int ((p1 &&& (2147483647 : Int32)) % (5 : Int32))), .val (.int (own_pk p2)), .val (.int (own_pk p3)), .val (.int (own_pk p4)), .val (.int (own_pk p5)), .val (.ref b13), .val (.int (0 : Int32))] [(.ref b13)])) rfl (by rw [hml]; rfl) (argsL := [(.ref b13)]) (rest := []) (lenOf pd_tg rfl) rfl (by show 2 * 0 + _ ≤ _; exact Nat.le_of_eq rfl) (hb hby at_243) (fun _ _ => ⟨rfl, q18, (by decide : 4 + 0 ≤ _), (by decide : 8 + 0 ≤ _)⟩)
   dsimp only [Pt.U, Pt.locs, Pt.cells, Pt.slots] at X20 l20 y20 z20 st20 hQ20
   subst l20 y20 z20
   obtain ⟨t20, rfl, N20q, q20, hd20⟩ := hQ20
   have N20 := Fr.app N18 N20q
   have pre21 : ∀ t, Steps p.tables e below (T20.setTop (mkF m 246 #[.val (.int p1), .val (.int p2), .val (.int p3), .val (.int p4), .val (.int p5), .val (.int ((p1 &&& (2147483647 : Int32)) % (5 : Int32))), .val (.int (own_pk p2)), .val (.int (own_pk p3)), .val (.int (own_pk p4)), .val (.int (own_pk p5)), .val (.ref b13), .val (.int (0 : Int32))] [(.int t20)])) t → Steps p.tables e below (s₁.setTop (entryFrame m #[(.int p1), (.int p2), (.int p3), (.int p4), (.int p5)] maxLocals)) t := fun t k => pre19 t (by
    show Steps p.tables e below (T18.setTop (mkF m 189 #[.val (.int p1), .val (.int p2), .val (.int p3), .val (.int p4), .val (.int p5), .val (.int ((p1 &&& (2147483647 : Int32)) % (5 : Int32))), .val (.int (own_pk p2)), .val (.int (own_pk p3)), .val (.int (own_pk p4)), .val (.int (own_pk p5)), .val (.ref b13), .unset] [(.int (own_pl (own_pk p2)))])) _
    refine XS.ifYes X18.here hx rfl (pc0 := 189) (pc' := 238) rfl (hb hby at_189) rfl ((if0 _ _).trans (teq hc189).1) (by decide) (by decide) ?_
    refine XS.iconst X18.here hx rfl (hb hby at_238) ?_
    refine XS.istore X18.here hx rfl (hb hby at_239) rfl (l' := #[.val (.int p1), .val (.int p2), .val (.int p3), .val (.int p4), .val (.int p5), .val (.int ((p1 &&& (2147483647 : Int32)) % (5 : Int32))), .val (.int (own_pk p2)), .val (.int (own_pk p3)), .val (.int (own_pk p4)), .val (.int (own_pk p5)), .val (.ref b13), .val (.int (0 : Int32))]) rfl ?_
    refine XS.aload X18.here hx rfl (hb hby at_241) rfl rfl ?_
    refine st20 _ ?_
    exact k)
   rcases hd20 with ⟨rfl, hd⟩ | ⟨rfl, hd⟩
   ·rcases own_pl0 hc189 with q | q
    ·exact absurd q hd.1
    ·exact absurd q hd.2
   ·have pre22 : ∀ t, Steps p.tables e below (T20.setTop (mkF m 256 #[.val (.int p1), .val (.int p2), .val (.int p3), .val (.int p4), .val (.int p5), .val (.int ((p1 &&& (2147483647 : Int32)) % (5 : Int32))), .val (.int (own_pk p2)), .val (.int (own_pk p3)), .val (.int (own_pk p4)), .val (.int (own_pk p5)), .val (.ref b13), .val (.int (0 : Int32))] [(.int (1 : Int32))])) t → Steps p.tables e below (s₁.setTop (entryFrame m #[(.int p1), (.int p2), (.int p3), (.int p4), (.int p5)] maxLocals)) t := fun t k => pre21 t (by
     show Steps p.tables e below (T20.setTop (mkF m 246 #[.val (.int p1), .val (.int p2), .val (.int p3), .val (.int p4), .val (.int p5), .val (.int ((p1 &&& (2147483647 : Int32)) % (5 : Int32))), .val (.int (own_pk p2)), .val (.int (own_pk p3)), .val (.int (own_pk p4)), .val (.int (own_pk p5)), .val (.ref b13), .val (.int (0 : Int32))] [(.int (0 : Int32))])) _
     refine XS.iload X20.here hx rfl (hb hby at_246) rfl ?_
     refine XS.icmpNo X20.here hx rfl (hb hby at_248) rfl (teq (by decide : (0 : Int32) = (0 : Int32))).2 ?_
     refine XS.iconst X20.here hx rfl (hb hby at_251) ?_
     refine XS.goto X20.here hx rfl (pc0 := 252) (pc' := 256) rfl (hb hby at_252) (by decide) (by decide) ?_
     exact k)
    obtain ⟨fs23, hr23, hrun23, hended23, hE23⟩ := X20.leaveW hS0 (by first | exact K17.1 | (rw [q20]; exact K17.1)) (v := some (.int (1 : Int32))) (fun h => by rw [Bd.returns] at h; cases h)
    refine ⟨_, _, pre22 _ ?_, hrun23, hended23, _, _, rfl, ?_, ?_, hE23.1, hE23.2.1, hE23.2.2.1, hE23.2.2.2.mono (by decide) (by decide)⟩
    ·show Steps p.tables e below (T20.setTop (mkF m 256 #[.val (.int p1), .val (.int p2), .val (.int p3), .val (.int p4), .val (.int p5), .val (.int ((p1 &&& (2147483647 : Int32)) % (5 : Int32))), .val (.int (own_pk p2)), .val (.int (own_pk p3)), .val (.int (own_pk p4)), .val (.int (own_pk p5)), .val (.ref b13), .val (.int (0 : Int32))] [(.int (1 : Int32))])) _
     exact retN X20 hx (t := .boolean) Bd.returns (by simp) (hb hby at_256) hr23
    ·show Q0 Z p1 p2 p3 p4 p5 h0 n0 _ T20.heap _
     rw [q20]
     exact ⟨rfl, N20⟩
    ·show CHr Z own_EL s.vm s.heap T20.vm T20.heap
     rw [q20]
     rw [hh]
     exact (CHr.ext (own_ext K17) hCH).trans (CHv.at X20 hZ0 hEL (CHv.ext (own_ext K17) hCH))
  obtain ⟨_, _, ⟨T24, L24, k24, n24⟩, -, X24, ⟨Lc24, hQ24, l24, y24, z24⟩, st24⟩ := Jvm.LawKit.callS X18 hx (y := own_z28) ho0 (mvT hZ0 (wd28 hw)) (mvT hZ0 (wd29 hw)) (mvT hZ0 (wd30 hw)) (mvT hZ0 (wd31 hw)) (by decide) (backOf (W := 0) (rmtg l Z a0 hw [] b13 _ _ T17.heap n0 (Nat.le_trans (Nat.le_trans (Nat.le_trans (Nat.le_trans Z0 E13.1) E14.1) (Nat.le_of_eq W16.size.symm)) Kp17.1) Ex9 Y36 Y92) hZ0 (wd31 hw) (wd30 hw) (by decide) (by decide)) (g := (mkF m 243 #[.val (.int p1), .val (.int p2), .val (.int p3), .val (.int p4), .val (.int p5), .val (.int ((p1 &&& (2147483647 : Int32)) % (5 : Int32))), .val (.int (own_pk p2)), .val (.int (own_pk p3)), .val (.int (own_pk p4)), .val (.int (own_pk p5)), .val (.ref b13), .val (.int (1 : Int32))] [(.ref b13)])) rfl (by rw [hml]; rfl) (argsL := [(.ref b13)]) (rest := []) (lenOf pd_tg rfl) rfl (by show 2 * 0 + _ ≤ _; exact Nat.le_of_eq rfl) (hb hby at_243) (fun _ _ => ⟨rfl, q18, (by decide : 4 + 0 ≤ _), (by decide : 8 + 0 ≤ _)⟩)
  dsimp only [Pt.U, Pt.locs, Pt.cells, Pt.slots] at X24 l24 y24 z24 st24 hQ24
  subst l24 y24 z24
  obtain ⟨t24, rfl, N24q, q24, hd24⟩ := hQ24
  have N24 := Fr.app N18 N24q
  have pre25 : ∀ t, Steps p.tables e below (T24.setTop (mkF m 246 #[.val (.int p1), .val (.int p2), .val (.int p3), .val (.int p4), .val (.int p5), .val (.int ((p1 &&& (2147483647 : Int32)) % (5 : Int32))), .val (.int (own_pk p2)), .val (.int (own_pk p3)), .val (.int (own_pk p4)), .val (.int (own_pk p5)), .val (.ref b13), .val (.int (1 : Int32))] [(.int t24)])) t → Steps p.tables e below (s₁.setTop (entryFrame m #[(.int p1), (.int p2), (.int p3), (.int p4), (.int p5)] maxLocals)) t := fun t k => pre19 t (by
   show Steps p.tables e below (T18.setTop (mkF m 189 #[.val (.int p1), .val (.int p2), .val (.int p3), .val (.int p4), .val (.int p5), .val (.int ((p1 &&& (2147483647 : Int32)) % (5 : Int32))), .val (.int (own_pk p2)), .val (.int (own_pk p3)), .val (.int (own_pk p4)), .val (.int (own_pk p5)), .val (.ref b13), .unset] [(.int (own_pl (own_pk p2)))])) _
   refine XS.ifNo X18.here hx rfl (hb hby at_189) rfl ((if0 _ _).trans (feq hc189).1) ?_
   refine XS.iload X18.here hx rfl (hb hby at_192) rfl ?_
   refine XS.iconst X18.here hx rfl (hb hby at_194) ?_
   refine XS.icmpYes X18.here hx rfl (pc0 := 195) (pc' := 206) rfl (hb hby at_195) rfl (tlt (by rw [hn]; decide)).1 (by decide) (by decide) ?_
   refine XS.iload X18.here hx rfl (hb hby at_206) rfl ?_
   refine XS.iconst X18.here hx rfl (hb hby at_208) ?_
   refine XS.icmpYes X18.here hx rfl (pc0 := 209) (pc' := 220) rfl (hb hby at_209) rfl (tlt (by rw [hn]; decide)).1 (by decide) (by decide) ?_
   refine XS.iload X18.here hx rfl (hb hby at_220) rfl ?_
   refine XS.iconst X18.here hx rfl (hb hby at_222) ?_
   refine XS.icmpYes X18.here hx rfl (pc0 := 223) (pc' := 234) rfl (hb hby at_223) rfl (tlt (by rw [hn]; decide)).1 (by decide) (by decide) ?_
   refine XS.iconst X18.here hx rfl (hb hby at_234) ?_
   refine XS.goto X18.here hx rfl (pc0 := 235) (pc' := 239) rfl (hb hby at_235) (by decide) (by decide) ?_
   refine XS.istore X18.here hx rfl (hb hby at_239) rfl (l' := #[.val (.int p1), .val (.int p2), .val (.int p3), .val (.int p4), .val (.int p5), .val (.int ((p1 &&& (2147483647 : Int32)) % (5 : Int32))), .val (.int (own_pk p2)), .val (.int (own_pk p3)), .val (.int (own_pk p4)), .val (.int (own_pk p5)), .val (.ref b13), .val (.int (1 : Int32))]) rfl ?_
   refine XS.aload X18.here hx rfl (hb hby at_241) rfl rfl ?_
   refine st24 _ ?_
   exact k)
  rcases hd24 with ⟨rfl, hd⟩ | ⟨rfl, hd⟩
  ·have pre26 : ∀ t, Steps p.tables e below (T24.setTop (mkF m 256 #[.val (.int p1), .val (.int p2), .val (.int p3), .val (.int p4), .val (.int p5), .val (.int ((p1 &&& (2147483647 : Int32)) % (5 : Int32))), .val (.int (own_pk p2)), .val (.int (own_pk p3)), .val (.int (own_pk p4)), .val (.int (own_pk p5)), .val (.ref b13), .val (.int (1 : Int32))] [(.int (1 : Int32))])) t → Steps p.tables e below (s₁.setTop (entryFrame m #[(.int p1), (.int p2), (.int p3), (.int p4), (.int p5)] maxLocals)) t := fun t k => pre25 t (by
    show Steps p.tables e below (T24.setTop (mkF m 246 #[.val (.int p1), .val (.int p2), .val (.int p3), .val (.int p4), .val (.int p5), .val (.int ((p1 &&& (2147483647 : Int32)) % (5 : Int32))), .val (.int (own_pk p2)), .val (.int (own_pk p3)), .val (.int (own_pk p4)), .val (.int (own_pk p5)), .val (.ref b13), .val (.int (1 : Int32))] [(.int (1 : Int32))])) _
    refine XS.iload X24.here hx rfl (hb hby at_246) rfl ?_
    refine XS.icmpNo X24.here hx rfl (hb hby at_248) rfl (teq (by decide : (1 : Int32) = (1 : Int32))).2 ?_
    refine XS.iconst X24.here hx rfl (hb hby at_251) ?_
    refine XS.goto X24.here hx rfl (pc0 := 252) (pc' := 256) rfl (hb hby at_252) (by decide) (by decide) ?_
    exact k)
   obtain ⟨fs27, hr27, hrun27, hended27, hE27⟩ := X24.leaveW hS0 (by first | exact K17.1 | (rw [q24]; exact K17.1)) (v := some (.int (1 : Int32))) (fun h => by rw [Bd.returns] at h; cases h)
   refine ⟨_, _, pre26 _ ?_, hrun27, hended27, _, _, rfl, ?_, ?_, hE27.1, hE27.2.1, hE27.2.2.1, hE27.2.2.2.mono (by decide) (by decide)⟩
   ·show Steps p.tables e below (T24.setTop (mkF m 256 #[.val (.int p1), .val (.int p2), .val (.int p3), .val (.int p4), .val (.int p5), .val (.int ((p1 &&& (2147483647 : Int32)) % (5 : Int32))), .val (.int (own_pk p2)), .val (.int (own_pk p3)), .val (.int (own_pk p4)), .val (.int (own_pk p5)), .val (.ref b13), .val (.int (1 : Int32))] [(.int (1 : Int32))])) _
    exact retN X24 hx (t := .boolean) Bd.returns (by simp) (hb hby at_256) hr27
   ·show Q0 Z p1 p2 p3 p4 p5 h0 n0 _ T24.heap _
    rw [q24]
    exact ⟨rfl, N24⟩
   ·show CHr Z own_EL s.vm s.heap T24.vm T24.heap
    rw [q24]
    rw [hh]
    exact (CHr.ext (own_ext K17) hCH).trans (CHv.at X24 hZ0 hEL (CHv.ext (own_ext K17) hCH))
  ·have e1 : ¬ ((own_pk p2) = 36) := fun q => (own_pl1 hc189).1 q
   have e2 : ¬ ((own_pk p2) = 92) := fun q => (own_pl1 hc189).2 q
   exact absurd ⟨e1, e2⟩ hd
 ·obtain ⟨T28, h28, X28, e28, E28, A28, D28, -, st28⟩ := newO X4 hx hZ0 ho0 (wd6 hw) (wd7 hw) (wd8 hw) q4 (g := (mkF m 85 #[.val (.int p1), .val (.int p2), .val (.int p3), .val (.int p4), .val (.int p5), .val (.int ((p1 &&& (2147483647 : Int32)) % (5 : Int32))), .val (.int (own_pk p2)), .val (.int (own_pk p3)), .val (.int (own_pk p4)), .val (.int (own_pk p5)), .unset, .unset] [])) rfl (hb hby at_85) (by decide) (by decide)
  obtain ⟨b28, gb28⟩ : ∃ z, z = h0.size := ⟨_, rfl⟩
  rw [← gb28] at A28 D28 st28
  have gn28 : n0 ≤ b28 := Nat.le_trans Z0 (Nat.le_of_eq gb28.symm)
  have sz28_b : h0.size ≤ b28 := Nat.le_trans (Keep.refl h0 []).1 (Nat.le_of_eq gb28.symm)
  have EN_28 := EN.ext E28
  have K28 := (Keep.refl h0 []).ext E28
  have F_value_b28 : Fld Z h28 b28 "java/lang/String" "value" "[B" .null := D28 (Or.inr (wd22 hw)) (ty := (.array .byte)) (by decide)
  have F_coder_b28 : Fld Z h28 b28 "java/lang/String" "coder" "B" (.int (0 : Int32)) := D28 (Or.inr (wd23 hw)) (ty := .byte) (by decide)
  obtain ⟨T29, h29, k29, X29, e29, E29, A29, st29⟩ := newP (aty := .char) X28 hx hZ0 (wd9 hw) e28 (g := (mkF m 90 #[.val (.int p1), .val (.int p2), .val (.int p3), .val (.int p4), .val (.int p5), .val (.int ((p1 &&& (2147483647 : Int32)) % (5 : Int32))), .val (.int (own_pk p2)), .val (.int (own_pk p3)), .val (.int (own_pk p4)), .val (.int (own_pk p5)), .unset, .unset] [(.int (2 : Int32)), (.ref b28), (.ref b28)])) rfl (hb hby at_90) rfl (by decide) (cap := 2) (by decide) (by decide) (by decide) (by decide)
  obtain ⟨b29, gb29⟩ : ∃ z, z = h28.size := ⟨_, rfl⟩
  rw [← gb29] at A29 st29
  have gn29 : n0 ≤ b29 := Nat.le_trans (Nat.le_trans Z0 E28.1) (Nat.le_of_eq gb29.symm)
  have sz29_b : h0.size ≤ b29 := Nat.le_trans K28.1 (Nat.le_of_eq gb29.symm)
  have ne_b28_b29 : b28 ≠ b29 := Nat.ne_of_lt (Nat.lt_of_lt_of_le A28.lt (Nat.le_of_eq gb29.symm))
  have EN_29 := EN_28.ext E29
  have A28_29 := A28.ext E29
  have F_value_b28_29 := F_value_b28.ext E29
  have F_coder_b28_29 := F_coder_b28.ext E29
  have K29 := K28.ext E29
  have V29 : Arv Z h29 b29 k29 .char (2 : Int32) [(.int (0 : Int32)), (.int (0 : Int32))] (.int (0 : Int32)) := (Arv.new A29 (by decide)).pad (pad_rep [] (.int (0 : Int32)) 2)
  have Vc30 := V29
  obtain ⟨cl30, Ar30, qq30, sz30, nn30, Ha30, Gf30⟩ := Vc30
  have hin30 : ¬ ((0 : Int32) < 0 ∨ cl30.slots.size ≤ ((0 : Int32)).toNatClampNeg) := inb_of sz30 ⟨by decide, by decide⟩
  obtain ⟨T31, h31, X31, e31, W31, st31⟩ := stC X29 hx hZ0 e29 Ar30 (j := (0 : Int32)) hin30 (g := (mkF m 96 #[.val (.int p1), .val (.int p2), .val (.int p3), .val (.int p4), .val (.int p5), .val (.int ((p1 &&& (2147483647 : Int32)) % (5 : Int32))), .val (.int (own_pk p2)), .val (.int (own_pk p3)), .val (.int (own_pk p4)), .val (.int (own_pk p5)), .unset, .unset] [(.int (own_pk p2)), (.int (0 : Int32)), (.ref b29), (.ref b29), (.ref b28), (.ref b28)])) rfl rfl (hb hby at_96)
  have N31 := Fr.snoc X31 N4 gn29
  have EN_31 := EN_29.wr W31 trivial
  have A28_31 := A28_29.wr W31
  have F_value_b28_31 := F_value_b28_29.other W31 (Or.inl ne_b28_b29)
  have F_coder_b28_31 := F_coder_b28_29.other W31 (Or.inl ne_b28_b29)
  have V29_31 := Arv.set Ar30 qq30 sz30 nn30 Ha30 Gf30 (fits_nar_char _) W31 0 rfl (Nat.le_of_ble_eq_true rfl)
  have K31 := K29.wr W31 (Or.inr sz29_b)
  have Vc32 := V29_31
  obtain ⟨cl32, Ar32, qq32, sz32, nn32, Ha32, Gf32⟩ := Vc32
  have hin32 : ¬ ((1 : Int32) < 0 ∨ cl32.slots.size ≤ ((1 : Int32)).toNatClampNeg) := inb_of sz32 ⟨by decide, by decide⟩
  obtain ⟨T33, h33, X33, e33, W33, st33⟩ := stC X31 hx hZ0 e31 Ar32 (j := (1 : Int32)) hin32 (g := (mkF m 101 #[.val (.int p1), .val (.int p2), .val (.int p3), .val (.int p4), .val (.int p5), .val (.int ((p1 &&& (2147483647 : Int32)) % (5 : Int32))), .val (.int (own_pk p2)), .val (.int (own_pk p3)), .val (.int (own_pk p4)), .val (.int (own_pk p5)), .unset, .unset] [(.int (own_pk p3)), (.int (1 : Int32)), (.ref b29), (.ref b29), (.ref b28), (.ref b28)])) rfl rfl (hb hby at_101)
  have N33 := Fr.snoc X33 N31 gn29
  have EN_33 := EN_31.wr W33 trivial
  have A28_33 := A28_31.wr W33
  have F_value_b28_33 := F_value_b28_31.other W33 (Or.inl ne_b28_b29)
  have F_coder_b28_33 := F_coder_b28_31.other W33 (Or.inl ne_b28_b29)
  have V29_33 := Arv.set Ar32 qq32 sz32 nn32 Ha32 Gf32 (fits_nar_char _) W33 1 rfl (Nat.le_of_ble_eq_true rfl)
  have K33 := K31.wr W33 (Or.inr sz29_b)
  have Kc : Arv Z h33 b29 k29 .char (2 : Int32) ([nar .char (own_pk p2), nar .char (own_pk p3)].map Value.int) (.int 0) := V29_33
  rw [own_nar (own_pkb p2), own_nar (own_pkb p3)] at Kc
  obtain ⟨_, _, ⟨T34, L34, k34, n34⟩, -, X34, ⟨Lc34, hQ34, l34, y34, z34⟩, st34⟩ := X33.specialBack hx (y := own_z19) rfl ho0 (mvT hZ0 (wd10 hw)) (mvT hZ0 (wd11 hw)) (mvT hZ0 (wd12 hw)) (by decide) (backOf (W := 1) (rmw12 l Z a0 hw [] b28 b29 k29 (own_pk p2) (own_pk p3) h33 n0 (Nat.le_trans (Nat.le_trans (Nat.le_trans (Nat.le_trans Z0 E28.1) E29.1) (Nat.le_of_eq W31.size.symm)) (Nat.le_of_eq W33.size.symm)) F_value_b28_33 F_coder_b28_33 A28_33 gn28 Kc EN_33 (own_pkb p2) (own_pkb p3)) hZ0 (wd12 hw) (wd8 hw) (by decide) (by decide)) (g := (mkF m 102 #[.val (.int p1), .val (.int p2), .val (.int p3), .val (.int p4), .val (.int p5), .val (.int ((p1 &&& (2147483647 : Int32)) % (5 : Int32))), .val (.int (own_pk p2)), .val (.int (own_pk p3)), .val (.int (own_pk p4)), .val (.int (own_pk p5)), .unset, .unset] [(.ref b29), (.ref b28), (.ref b28)])) rfl (by rw [hml]; rfl) (Steps.refl _) (a := b28) (argsL := [(.ref b29)]) (rest := [(.ref b28)]) (lenOf pd_w11 rfl) rfl (by show 2 * 0 + _ ≤ _; exact Nat.le_of_eq rfl) (hb hby at_102) (fun _ _ => ⟨rfl, e33, (by decide : 2 + 2 ≤ _), (by decide : 6 + 6 ≤ _)⟩)
  dsimp only [Pt.U, Pt.locs, Pt.cells, Pt.slots] at X34 l34 y34 z34 st34 hQ34
  subst l34 y34 z34
  obtain ⟨rfl, N34q, Kp34, cd34, S34⟩ := hQ34
  have N34 := Fr.app N33 N34q
  have EN_34 := EN_33.keep Kp34 A28_33.nostat
  have K34 := K33.trans Kp34 (fun x hx => by cases List.mem_singleton.mp hx; exact Or.inr sz28_b)
  have Y36 := own_y2 l Z a0 hw b28 (own_pk p2) (own_pk p3) cd34 36 T34.heap n0 (Nat.le_trans (Nat.le_trans (Nat.le_trans (Nat.le_trans (Nat.le_trans Z0 E28.1) E29.1) (Nat.le_of_eq W31.size.symm)) (Nat.le_of_eq W33.size.symm)) Kp34.1) S34 EN_34 (own_pkb p2) (own_pkb p3) ⟨by decide, by decide⟩
  have Y92 := own_y2 l Z a0 hw b28 (own_pk p2) (own_pk p3) cd34 92 T34.heap n0 (Nat.le_trans (Nat.le_trans (Nat.le_trans (Nat.le_trans (Nat.le_trans Z0 E28.1) E29.1) (Nat.le_of_eq W31.size.symm)) (Nat.le_of_eq W33.size.symm)) Kp34.1) S34 EN_34 (own_pkb p2) (own_pkb p3) ⟨by decide, by decide⟩
  obtain ⟨t9, kb9, N9, vs9, Ex9, -⟩ := S34
  obtain ⟨_, _, ⟨T35, L35, k35, n35⟩, -, X35, ⟨Lc35, hQ35, l35, y35, z35⟩, st35⟩ := Jvm.LawKit.callS X34 hx (y := own_z1) ho0 (mvT hZ0 (wd82 hw)) (mvT hZ0 (wd83 hw)) (mvT hZ0 (wd3 hw)) (mvT hZ0 (wd84 hw)) (by decide) (backOf (W := 0) (rmpl l Z a0 hw [] (own_pk p2) T34.heap n0 (Nat.le_trans (Nat.le_trans (Nat.le_trans (Nat.le_trans (Nat.le_trans Z0 E28.1) E29.1) (Nat.le_of_eq W31.size.symm)) (Nat.le_of_eq W33.size.symm)) Kp34.1)) hZ0 (wd84 hw) (wd3 hw) (by decide) (by decide)) (g := (mkF m 186 #[.val (.int p1), .val (.int p2), .val (.int p3), .val (.int p4), .val (.int p5), .val (.int ((p1 &&& (2147483647 : Int32)) % (5 : Int32))), .val (.int (own_pk p2)), .val (.int (own_pk p3)), .val (.int (own_pk p4)), .val (.int (own_pk p5)), .val (.ref b28), .unset] [(.int (own_pk p2))])) rfl (by rw [hml]; rfl) (argsL := [(.int (own_pk p2))]) (rest := []) (lenOf pd_pl rfl) rfl (by show 2 * 0 + _ ≤ _; exact Nat.le_of_eq rfl) (hb hby at_186) (fun _ _ => ⟨rfl, rfl, (by decide : 4 + 0 ≤ _), (by decide : 12 + 0 ≤ _)⟩)
  dsimp only [Pt.U, Pt.locs, Pt.cells, Pt.slots] at X35 l35 y35 z35 st35 hQ35
  subst l35 y35 z35
  obtain ⟨rfl, N35q, q35⟩ := hQ35
  have N35 := Fr.app N34 N35q
  have pre36 : ∀ t, Steps p.tables e below (T35.setTop (mkF m 189 #[.val (.int p1), .val (.int p2), .val (.int p3), .val (.int p4), .val (.int p5), .val (.int ((p1 &&& (2147483647 : Int32)) % (5 : Int32))), .val (.int (own_pk p2)), .val (.int (own_pk p3)), .val (.int (own_pk p4)), .val (.int (own_pk p5)), .val (.ref b28), .unset] [(.int (own_pl (own_pk p2)))])) t → Steps p.tables e below (s₁.setTop (entryFrame m #[(.int p1), (.int p2), (.int p3), (.int p4), (.int p5)] maxLocals)) t := fun t k => pre5 t (by
   show Steps p.tables e below (T4.setTop (mkF m 33 #[.val (.int p1), .val (.int p2), .val (.int p3), .val (.int p4), .val (.int p5), .val (.int ((p1 &&& (2147483647 : Int32)) % (5 : Int32))), .val (.int (own_pk p2)), .val (.int (own_pk p3)), .val (.int (own_pk p4)), .val (.int (own_pk p5)), .unset, .unset] [])) _
   refine XS.iload X4.here hx rfl (hb hby at_33) rfl ?_
   refine XS.ifYes X4.here hx rfl (pc0 := 35) (pc' := 53) rfl (hb hby at_35) rfl ((if0 _ _).trans (feq (by rw [hn]; decide)).2) (by decide) (by decide) ?_
   refine XS.iload X4.here hx rfl (hb hby at_53) rfl ?_
   refine XS.iconst X4.here hx rfl (hb hby at_55) ?_
   refine XS.icmpYes X4.here hx rfl (pc0 := 56) (pc' := 79) rfl (hb hby at_56) rfl (feq (by rw [hn]; decide)).2 (by decide) (by decide) ?_
   refine XS.iload X4.here hx rfl (hb hby at_79) rfl ?_
   refine XS.iconst X4.here hx rfl (hb hby at_81) ?_
   refine XS.icmpNo X4.here hx rfl (hb hby at_82) rfl (teq hn).2 ?_
   refine st28 _ ?_
   refine XS.dup X28.here hx rfl (hb hby at_88) rfl rfl ?_
   refine XS.iconst X28.here hx rfl (hb hby at_89) ?_
   refine st29 _ ?_
   refine XS.dup X29.here hx rfl (hb hby at_92) rfl rfl ?_
   refine XS.iconst X29.here hx rfl (hb hby at_93) ?_
   refine XS.iload X29.here hx rfl (hb hby at_94) rfl ?_
   refine st31 _ ?_
   refine XS.dup X31.here hx rfl (hb hby at_97) rfl rfl ?_
   refine XS.iconst X31.here hx rfl (hb hby at_98) ?_
   refine XS.iload X31.here hx rfl (hb hby at_99) rfl ?_
   refine st33 _ ?_
   refine st34.trans ?_
   refine XS.astore X34.here hx rfl (hb hby at_105) rfl rfl (l' := #[.val (.int p1), .val (.int p2), .val (.int p3), .val (.int p4), .val (.int p5), .val (.int ((p1 &&& (2147483647 : Int32)) % (5 : Int32))), .val (.int (own_pk p2)), .val (.int (own_pk p3)), .val (.int (own_pk p4)), .val (.int (own_pk p5)), .val (.ref b28), .unset]) rfl ?_
   refine XS.goto X34.here hx rfl (pc0 := 107) (pc' := 178) rfl (hb hby at_107) (by decide) (by decide) ?_
   refine XS.iload X34.here hx rfl (hb hby at_178) rfl ?_
   refine XS.iconst X34.here hx rfl (hb hby at_180) ?_
   refine XS.icmpNo X34.here hx rfl (hb hby at_181) rfl (flt (by rw [hn]; decide)).1 ?_
   refine XS.iload X34.here hx rfl (hb hby at_184) rfl ?_
   refine st35 _ ?_
   exact k)
  by_cases hc189 : (own_pl (own_pk p2)) = (0 : Int32)
  ·obtain ⟨_, _, ⟨T37, L37, k37, n37⟩, -, X37, ⟨Lc37, hQ37, l37, y37, z37⟩, st37⟩ := Jvm.LawKit.callS X35 hx (y := own_z28) ho0 (mvT hZ0 (wd28 hw)) (mvT hZ0 (wd29 hw)) (mvT hZ0 (wd30 hw)) (mvT hZ0 (wd31 hw)) (by decide) (backOf (W := 0) (rmtg l Z a0 hw [] b28 _ _ T34.heap n0 (Nat.le_trans (Nat.le_trans (Nat.le_trans (Nat.le_trans (Nat.le_trans Z0 E28.1) E29.1) (Nat.le_of_eq W31.size.symm)) (Nat.le_of_eq W33.size.symm)) Kp34.1) Ex9 Y36 Y92) hZ0 (wd31 hw) (wd30 hw) (by decide) (by decide)) (g := (mkF m 243 #[.val (.int p1), .val (.int p2), .val (.int p3), .val (.int p4), .val (.int p5), .val (.int ((p1 &&& (2147483647 : Int32)) % (5 : Int32))), .val (.int (own_pk p2)), .val (.int (own_pk p3)), .val (.int (own_pk p4)), .val (.int (own_pk p5)), .val (.ref b28), .val (.int (0 : Int32))] [(.ref b28)])) rfl (by rw [hml]; rfl) (argsL := [(.ref b28)]) (rest := []) (lenOf pd_tg rfl) rfl (by show 2 * 0 + _ ≤ _; exact Nat.le_of_eq rfl) (hb hby at_243) (fun _ _ => ⟨rfl, q35, (by decide : 4 + 0 ≤ _), (by decide : 12 + 0 ≤ _)⟩)
   dsimp only [Pt.U, Pt.locs, Pt.cells, Pt.slots] at X37 l37 y37 z37 st37 hQ37
   subst l37 y37 z37
   obtain ⟨t37, rfl, N37q, q37, hd37⟩ := hQ37
   have N37 := Fr.app N35 N37q
   have pre38 : ∀ t, Steps p.tables e below (T37.setTop (mkF m 246 #[.val (.int p1), .val (.int p2), .val (.int p3), .val (.int p4), .val (.int p5), .val (.int ((p1 &&& (2147483647 : Int32)) % (5 : Int32))), .val (.int (own_pk p2)), .val (.int (own_pk p3)), .val (.int (own_pk p4)), .val (.int (own_pk p5)), .val (.ref b28), .val (.int (0 : Int32))] [(.int t37)])) t → Steps p.tables e below (s₁.setTop (entryFrame m #[(.int p1), (.int p2), (.int p3), (.int p4), (.int p5)] maxLocals)) t := fun t k => pre36 t (by
    show Steps p.tables e below (T35.setTop (mkF m 189 #[.val (.int p1), .val (.int p2), .val (.int p3), .val (.int p4), .val (.int p5), .val (.int ((p1 &&& (2147483647 : Int32)) % (5 : Int32))), .val (.int (own_pk p2)), .val (.int (own_pk p3)), .val (.int (own_pk p4)), .val (.int (own_pk p5)), .val (.ref b28), .unset] [(.int (own_pl (own_pk p2)))])) _
    refine XS.ifYes X35.here hx rfl (pc0 := 189) (pc' := 238) rfl (hb hby at_189) rfl ((if0 _ _).trans (teq hc189).1) (by decide) (by decide) ?_
    refine XS.iconst X35.here hx rfl (hb hby at_238) ?_
    refine XS.istore X35.here hx rfl (hb hby at_239) rfl (l' := #[.val (.int p1), .val (.int p2), .val (.int p3), .val (.int p4), .val (.int p5), .val (.int ((p1 &&& (2147483647 : Int32)) % (5 : Int32))), .val (.int (own_pk p2)), .val (.int (own_pk p3)), .val (.int (own_pk p4)), .val (.int (own_pk p5)), .val (.ref b28), .val (.int (0 : Int32))]) rfl ?_
    refine XS.aload X35.here hx rfl (hb hby at_241) rfl rfl ?_
    refine st37 _ ?_
    exact k)
   rcases hd37 with ⟨rfl, hd⟩ | ⟨rfl, hd⟩
   ·rcases own_pl0 hc189 with q | q
    ·exact absurd (Or.inl q) hd.1
    ·exact absurd (Or.inl q) hd.2
   ·have pre39 : ∀ t, Steps p.tables e below (T37.setTop (mkF m 256 #[.val (.int p1), .val (.int p2), .val (.int p3), .val (.int p4), .val (.int p5), .val (.int ((p1 &&& (2147483647 : Int32)) % (5 : Int32))), .val (.int (own_pk p2)), .val (.int (own_pk p3)), .val (.int (own_pk p4)), .val (.int (own_pk p5)), .val (.ref b28), .val (.int (0 : Int32))] [(.int (1 : Int32))])) t → Steps p.tables e below (s₁.setTop (entryFrame m #[(.int p1), (.int p2), (.int p3), (.int p4), (.int p5)] maxLocals)) t := fun t k => pre38 t (by
     show Steps p.tables e below (T37.setTop (mkF m 246 #[.val (.int p1), .val (.int p2), .val (.int p3), .val (.int p4), .val (.int p5), .val (.int ((p1 &&& (2147483647 : Int32)) % (5 : Int32))), .val (.int (own_pk p2)), .val (.int (own_pk p3)), .val (.int (own_pk p4)), .val (.int (own_pk p5)), .val (.ref b28), .val (.int (0 : Int32))] [(.int (0 : Int32))])) _
     refine XS.iload X37.here hx rfl (hb hby at_246) rfl ?_
     refine XS.icmpNo X37.here hx rfl (hb hby at_248) rfl (teq (by decide : (0 : Int32) = (0 : Int32))).2 ?_
     refine XS.iconst X37.here hx rfl (hb hby at_251) ?_
     refine XS.goto X37.here hx rfl (pc0 := 252) (pc' := 256) rfl (hb hby at_252) (by decide) (by decide) ?_
     exact k)
    obtain ⟨fs40, hr40, hrun40, hended40, hE40⟩ := X37.leaveW hS0 (by first | exact K34.1 | (rw [q37]; exact K34.1)) (v := some (.int (1 : Int32))) (fun h => by rw [Bd.returns] at h; cases h)
    refine ⟨_, _, pre39 _ ?_, hrun40, hended40, _, _, rfl, ?_, ?_, hE40.1, hE40.2.1, hE40.2.2.1, hE40.2.2.2.mono (by decide) (by decide)⟩
    ·show Steps p.tables e below (T37.setTop (mkF m 256 #[.val (.int p1), .val (.int p2), .val (.int p3), .val (.int p4), .val (.int p5), .val (.int ((p1 &&& (2147483647 : Int32)) % (5 : Int32))), .val (.int (own_pk p2)), .val (.int (own_pk p3)), .val (.int (own_pk p4)), .val (.int (own_pk p5)), .val (.ref b28), .val (.int (0 : Int32))] [(.int (1 : Int32))])) _
     exact retN X37 hx (t := .boolean) Bd.returns (by simp) (hb hby at_256) hr40
    ·show Q0 Z p1 p2 p3 p4 p5 h0 n0 _ T37.heap _
     rw [q37]
     exact ⟨rfl, N37⟩
    ·show CHr Z own_EL s.vm s.heap T37.vm T37.heap
     rw [q37]
     rw [hh]
     exact (CHr.ext (own_ext K34) hCH).trans (CHv.at X37 hZ0 hEL (CHv.ext (own_ext K34) hCH))
  obtain ⟨_, _, ⟨T41, L41, k41, n41⟩, -, X41, ⟨Lc41, hQ41, l41, y41, z41⟩, st41⟩ := Jvm.LawKit.callS X35 hx (y := own_z1) ho0 (mvT hZ0 (wd82 hw)) (mvT hZ0 (wd83 hw)) (mvT hZ0 (wd3 hw)) (mvT hZ0 (wd84 hw)) (by decide) (backOf (W := 0) (rmpl l Z a0 hw [] (own_pk p3) T34.heap n0 (Nat.le_trans (Nat.le_trans (Nat.le_trans (Nat.le_trans (Nat.le_trans Z0 E28.1) E29.1) (Nat.le_of_eq W31.size.symm)) (Nat.le_of_eq W33.size.symm)) Kp34.1)) hZ0 (wd84 hw) (wd3 hw) (by decide) (by decide)) (g := (mkF m 200 #[.val (.int p1), .val (.int p2), .val (.int p3), .val (.int p4), .val (.int p5), .val (.int ((p1 &&& (2147483647 : Int32)) % (5 : Int32))), .val (.int (own_pk p2)), .val (.int (own_pk p3)), .val (.int (own_pk p4)), .val (.int (own_pk p5)), .val (.ref b28), .unset] [(.int (own_pk p3))])) rfl (by rw [hml]; rfl) (argsL := [(.int (own_pk p3))]) (rest := []) (lenOf pd_pl rfl) rfl (by show 2 * 0 + _ ≤ _; exact Nat.le_of_eq rfl) (hb hby at_200) (fun _ _ => ⟨rfl, q35, (by decide : 4 + 0 ≤ _), (by decide : 12 + 0 ≤ _)⟩)
  dsimp only [Pt.U, Pt.locs, Pt.cells, Pt.slots] at X41 l41 y41 z41 st41 hQ41
  subst l41 y41 z41
  obtain ⟨rfl, N41q, q41⟩ := hQ41
  have N41 := Fr.app N35 N41q
  have pre42 : ∀ t, Steps p.tables e below (T41.setTop (mkF m 203 #[.val (.int p1), .val (.int p2), .val (.int p3), .val (.int p4), .val (.int p5), .val (.int ((p1 &&& (2147483647 : Int32)) % (5 : Int32))), .val (.int (own_pk p2)), .val (.int (own_pk p3)), .val (.int (own_pk p4)), .val (.int (own_pk p5)), .val (.ref b28), .unset] [(.int (own_pl (own_pk p3)))])) t → Steps p.tables e below (s₁.setTop (entryFrame m #[(.int p1), (.int p2), (.int p3), (.int p4), (.int p5)] maxLocals)) t := fun t k => pre36 t (by
   show Steps p.tables e below (T35.setTop (mkF m 189 #[.val (.int p1), .val (.int p2), .val (.int p3), .val (.int p4), .val (.int p5), .val (.int ((p1 &&& (2147483647 : Int32)) % (5 : Int32))), .val (.int (own_pk p2)), .val (.int (own_pk p3)), .val (.int (own_pk p4)), .val (.int (own_pk p5)), .val (.ref b28), .unset] [(.int (own_pl (own_pk p2)))])) _
   refine XS.ifNo X35.here hx rfl (hb hby at_189) rfl ((if0 _ _).trans (feq hc189).1) ?_
   refine XS.iload X35.here hx rfl (hb hby at_192) rfl ?_
   refine XS.iconst X35.here hx rfl (hb hby at_194) ?_
   refine XS.icmpNo X35.here hx rfl (hb hby at_195) rfl (flt (by rw [hn]; decide)).1 ?_
   refine XS.iload X35.here hx rfl (hb hby at_198) rfl ?_
   refine st41 _ ?_
   exact k)
  by_cases hc203 : (own_pl (own_pk p3)) = (0 : Int32)
  ·obtain ⟨_, _, ⟨T43, L43, k43, n43⟩, -, X43, ⟨Lc43, hQ43, l43, y43, z43⟩, st43⟩ := Jvm.LawKit.callS X41 hx (y := own_z28) ho0 (mvT hZ0 (wd28 hw)) (mvT hZ0 (wd29 hw)) (mvT hZ0 (wd30 hw)) (mvT hZ0 (wd31 hw)) (by decide) (backOf (W := 0) (rmtg l Z a0 hw [] b28 _ _ T34.heap n0 (Nat.le_trans (Nat.le_trans (Nat.le_trans (Nat.le_trans (Nat.le_trans Z0 E28.1) E29.1) (Nat.le_of_eq W31.size.symm)) (Nat.le_of_eq W33.size.symm)) Kp34.1) Ex9 Y36 Y92) hZ0 (wd31 hw) (wd30 hw) (by decide) (by decide)) (g := (mkF m 243 #[.val (.int p1), .val (.int p2), .val (.int p3), .val (.int p4), .val (.int p5), .val (.int ((p1 &&& (2147483647 : Int32)) % (5 : Int32))), .val (.int (own_pk p2)), .val (.int (own_pk p3)), .val (.int (own_pk p4)), .val (.int (own_pk p5)), .val (.ref b28), .val (.int (0 : Int32))] [(.ref b28)])) rfl (by rw [hml]; rfl) (argsL := [(.ref b28)]) (rest := []) (lenOf pd_tg rfl) rfl (by show 2 * 0 + _ ≤ _; exact Nat.le_of_eq rfl) (hb hby at_243) (fun _ _ => ⟨rfl, q41, (by decide : 4 + 0 ≤ _), (by decide : 12 + 0 ≤ _)⟩)
   dsimp only [Pt.U, Pt.locs, Pt.cells, Pt.slots] at X43 l43 y43 z43 st43 hQ43
   subst l43 y43 z43
   obtain ⟨t43, rfl, N43q, q43, hd43⟩ := hQ43
   have N43 := Fr.app N41 N43q
   have pre44 : ∀ t, Steps p.tables e below (T43.setTop (mkF m 246 #[.val (.int p1), .val (.int p2), .val (.int p3), .val (.int p4), .val (.int p5), .val (.int ((p1 &&& (2147483647 : Int32)) % (5 : Int32))), .val (.int (own_pk p2)), .val (.int (own_pk p3)), .val (.int (own_pk p4)), .val (.int (own_pk p5)), .val (.ref b28), .val (.int (0 : Int32))] [(.int t43)])) t → Steps p.tables e below (s₁.setTop (entryFrame m #[(.int p1), (.int p2), (.int p3), (.int p4), (.int p5)] maxLocals)) t := fun t k => pre42 t (by
    show Steps p.tables e below (T41.setTop (mkF m 203 #[.val (.int p1), .val (.int p2), .val (.int p3), .val (.int p4), .val (.int p5), .val (.int ((p1 &&& (2147483647 : Int32)) % (5 : Int32))), .val (.int (own_pk p2)), .val (.int (own_pk p3)), .val (.int (own_pk p4)), .val (.int (own_pk p5)), .val (.ref b28), .unset] [(.int (own_pl (own_pk p3)))])) _
    refine XS.ifYes X41.here hx rfl (pc0 := 203) (pc' := 238) rfl (hb hby at_203) rfl ((if0 _ _).trans (teq hc203).1) (by decide) (by decide) ?_
    refine XS.iconst X41.here hx rfl (hb hby at_238) ?_
    refine XS.istore X41.here hx rfl (hb hby at_239) rfl (l' := #[.val (.int p1), .val (.int p2), .val (.int p3), .val (.int p4), .val (.int p5), .val (.int ((p1 &&& (2147483647 : Int32)) % (5 : Int32))), .val (.int (own_pk p2)), .val (.int (own_pk p3)), .val (.int (own_pk p4)), .val (.int (own_pk p5)), .val (.ref b28), .val (.int (0 : Int32))]) rfl ?_
    refine XS.aload X41.here hx rfl (hb hby at_241) rfl rfl ?_
    refine st43 _ ?_
    exact k)
   rcases hd43 with ⟨rfl, hd⟩ | ⟨rfl, hd⟩
   ·rcases own_pl0 hc203 with q | q
    ·exact absurd (Or.inr (q)) hd.1
    ·exact absurd (Or.inr (q)) hd.2
   ·have pre45 : ∀ t, Steps p.tables e below (T43.setTop (mkF m 256 #[.val (.int p1), .val (.int p2), .val (.int p3), .val (.int p4), .val (.int p5), .val (.int ((p1 &&& (2147483647 : Int32)) % (5 : Int32))), .val (.int (own_pk p2)), .val (.int (own_pk p3)), .val (.int (own_pk p4)), .val (.int (own_pk p5)), .val (.ref b28), .val (.int (0 : Int32))] [(.int (1 : Int32))])) t → Steps p.tables e below (s₁.setTop (entryFrame m #[(.int p1), (.int p2), (.int p3), (.int p4), (.int p5)] maxLocals)) t := fun t k => pre44 t (by
     show Steps p.tables e below (T43.setTop (mkF m 246 #[.val (.int p1), .val (.int p2), .val (.int p3), .val (.int p4), .val (.int p5), .val (.int ((p1 &&& (2147483647 : Int32)) % (5 : Int32))), .val (.int (own_pk p2)), .val (.int (own_pk p3)), .val (.int (own_pk p4)), .val (.int (own_pk p5)), .val (.ref b28), .val (.int (0 : Int32))] [(.int (0 : Int32))])) _
     refine XS.iload X43.here hx rfl (hb hby at_246) rfl ?_
     refine XS.icmpNo X43.here hx rfl (hb hby at_248) rfl (teq (by decide : (0 : Int32) = (0 : Int32))).2 ?_
     refine XS.iconst X43.here hx rfl (hb hby at_251) ?_
     refine XS.goto X43.here hx rfl (pc0 := 252) (pc' := 256) rfl (hb hby at_252) (by decide) (by decide) ?_
     exact k)
    obtain ⟨fs46, hr46, hrun46, hended46, hE46⟩ := X43.leaveW hS0 (by first | exact K34.1 | (rw [q43]; exact K34.1)) (v := some (.int (1 : Int32))) (fun h => by rw [Bd.returns] at h; cases h)
    refine ⟨_, _, pre45 _ ?_, hrun46, hended46, _, _, rfl, ?_, ?_, hE46.1, hE46.2.1, hE46.2.2.1, hE46.2.2.2.mono (by decide) (by decide)⟩
    ·show Steps p.tables e below (T43.setTop (mkF m 256 #[.val (.int p1), .val (.int p2), .val (.int p3), .val (.int p4), .val (.int p5), .val (.int ((p1 &&& (2147483647 : Int32)) % (5 : Int32))), .val (.int (own_pk p2)), .val (.int (own_pk p3)), .val (.int (own_pk p4)), .val (.int (own_pk p5)), .val (.ref b28), .val (.int (0 : Int32))] [(.int (1 : Int32))])) _
     exact retN X43 hx (t := .boolean) Bd.returns (by simp) (hb hby at_256) hr46
    ·show Q0 Z p1 p2 p3 p4 p5 h0 n0 _ T43.heap _
     rw [q43]
     exact ⟨rfl, N43⟩
    ·show CHr Z own_EL s.vm s.heap T43.vm T43.heap
     rw [q43]
     rw [hh]
     exact (CHr.ext (own_ext K34) hCH).trans (CHv.at X43 hZ0 hEL (CHv.ext (own_ext K34) hCH))
  obtain ⟨_, _, ⟨T47, L47, k47, n47⟩, -, X47, ⟨Lc47, hQ47, l47, y47, z47⟩, st47⟩ := Jvm.LawKit.callS X41 hx (y := own_z28) ho0 (mvT hZ0 (wd28 hw)) (mvT hZ0 (wd29 hw)) (mvT hZ0 (wd30 hw)) (mvT hZ0 (wd31 hw)) (by decide) (backOf (W := 0) (rmtg l Z a0 hw [] b28 _ _ T34.heap n0 (Nat.le_trans (Nat.le_trans (Nat.le_trans (Nat.le_trans (Nat.le_trans Z0 E28.1) E29.1) (Nat.le_of_eq W31.size.symm)) (Nat.le_of_eq W33.size.symm)) Kp34.1) Ex9 Y36 Y92) hZ0 (wd31 hw) (wd30 hw) (by decide) (by decide)) (g := (mkF m 243 #[.val (.int p1), .val (.int p2), .val (.int p3), .val (.int p4), .val (.int p5), .val (.int ((p1 &&& (2147483647 : Int32)) % (5 : Int32))), .val (.int (own_pk p2)), .val (.int (own_pk p3)), .val (.int (own_pk p4)), .val (.int (own_pk p5)), .val (.ref b28), .val (.int (1 : Int32))] [(.ref b28)])) rfl (by rw [hml]; rfl) (argsL := [(.ref b28)]) (rest := []) (lenOf pd_tg rfl) rfl (by show 2 * 0 + _ ≤ _; exact Nat.le_of_eq rfl) (hb hby at_243) (fun _ _ => ⟨rfl, q41, (by decide : 4 + 0 ≤ _), (by decide : 12 + 0 ≤ _)⟩)
  dsimp only [Pt.U, Pt.locs, Pt.cells, Pt.slots] at X47 l47 y47 z47 st47 hQ47
  subst l47 y47 z47
  obtain ⟨t47, rfl, N47q, q47, hd47⟩ := hQ47
  have N47 := Fr.app N41 N47q
  have pre48 : ∀ t, Steps p.tables e below (T47.setTop (mkF m 246 #[.val (.int p1), .val (.int p2), .val (.int p3), .val (.int p4), .val (.int p5), .val (.int ((p1 &&& (2147483647 : Int32)) % (5 : Int32))), .val (.int (own_pk p2)), .val (.int (own_pk p3)), .val (.int (own_pk p4)), .val (.int (own_pk p5)), .val (.ref b28), .val (.int (1 : Int32))] [(.int t47)])) t → Steps p.tables e below (s₁.setTop (entryFrame m #[(.int p1), (.int p2), (.int p3), (.int p4), (.int p5)] maxLocals)) t := fun t k => pre42 t (by
   show Steps p.tables e below (T41.setTop (mkF m 203 #[.val (.int p1), .val (.int p2), .val (.int p3), .val (.int p4), .val (.int p5), .val (.int ((p1 &&& (2147483647 : Int32)) % (5 : Int32))), .val (.int (own_pk p2)), .val (.int (own_pk p3)), .val (.int (own_pk p4)), .val (.int (own_pk p5)), .val (.ref b28), .unset] [(.int (own_pl (own_pk p3)))])) _
   refine XS.ifNo X41.here hx rfl (hb hby at_203) rfl ((if0 _ _).trans (feq hc203).1) ?_
   refine XS.iload X41.here hx rfl (hb hby at_206) rfl ?_
   refine XS.iconst X41.here hx rfl (hb hby at_208) ?_
   refine XS.icmpYes X41.here hx rfl (pc0 := 209) (pc' := 220) rfl (hb hby at_209) rfl (tlt (by rw [hn]; decide)).1 (by decide) (by decide) ?_
   refine XS.iload X41.here hx rfl (hb hby at_220) rfl ?_
   refine XS.iconst X41.here hx rfl (hb hby at_222) ?_
   refine XS.icmpYes X41.here hx rfl (pc0 := 223) (pc' := 234) rfl (hb hby at_223) rfl (tlt (by rw [hn]; decide)).1 (by decide) (by decide) ?_
   refine XS.iconst X41.here hx rfl (hb hby at_234) ?_
   refine XS.goto X41.here hx rfl (pc0 := 235) (pc' := 239) rfl (hb hby at_235) (by decide) (by decide) ?_
   refine XS.istore X41.here hx rfl (hb hby at_239) rfl (l' := #[.val (.int p1), .val (.int p2), .val (.int p3), .val (.int p4), .val (.int p5), .val (.int ((p1 &&& (2147483647 : Int32)) % (5 : Int32))), .val (.int (own_pk p2)), .val (.int (own_pk p3)), .val (.int (own_pk p4)), .val (.int (own_pk p5)), .val (.ref b28), .val (.int (1 : Int32))]) rfl ?_
   refine XS.aload X41.here hx rfl (hb hby at_241) rfl rfl ?_
   refine st47 _ ?_
   exact k)
  rcases hd47 with ⟨rfl, hd⟩ | ⟨rfl, hd⟩
  ·have pre49 : ∀ t, Steps p.tables e below (T47.setTop (mkF m 256 #[.val (.int p1), .val (.int p2), .val (.int p3), .val (.int p4), .val (.int p5), .val (.int ((p1 &&& (2147483647 : Int32)) % (5 : Int32))), .val (.int (own_pk p2)), .val (.int (own_pk p3)), .val (.int (own_pk p4)), .val (.int (own_pk p5)), .val (.ref b28), .val (.int (1 : Int32))] [(.int (1 : Int32))])) t → Steps p.tables e below (s₁.setTop (entryFrame m #[(.int p1), (.int p2), (.int p3), (.int p4), (.int p5)] maxLocals)) t := fun t k => pre48 t (by
    show Steps p.tables e below (T47.setTop (mkF m 246 #[.val (.int p1), .val (.int p2), .val (.int p3), .val (.int p4), .val (.int p5), .val (.int ((p1 &&& (2147483647 : Int32)) % (5 : Int32))), .val (.int (own_pk p2)), .val (.int (own_pk p3)), .val (.int (own_pk p4)), .val (.int (own_pk p5)), .val (.ref b28), .val (.int (1 : Int32))] [(.int (1 : Int32))])) _
    refine XS.iload X47.here hx rfl (hb hby at_246) rfl ?_
    refine XS.icmpNo X47.here hx rfl (hb hby at_248) rfl (teq (by decide : (1 : Int32) = (1 : Int32))).2 ?_
    refine XS.iconst X47.here hx rfl (hb hby at_251) ?_
    refine XS.goto X47.here hx rfl (pc0 := 252) (pc' := 256) rfl (hb hby at_252) (by decide) (by decide) ?_
    exact k)
   obtain ⟨fs50, hr50, hrun50, hended50, hE50⟩ := X47.leaveW hS0 (by first | exact K34.1 | (rw [q47]; exact K34.1)) (v := some (.int (1 : Int32))) (fun h => by rw [Bd.returns] at h; cases h)
   refine ⟨_, _, pre49 _ ?_, hrun50, hended50, _, _, rfl, ?_, ?_, hE50.1, hE50.2.1, hE50.2.2.1, hE50.2.2.2.mono (by decide) (by decide)⟩
   ·show Steps p.tables e below (T47.setTop (mkF m 256 #[.val (.int p1), .val (.int p2), .val (.int p3), .val (.int p4), .val (.int p5), .val (.int ((p1 &&& (2147483647 : Int32)) % (5 : Int32))), .val (.int (own_pk p2)), .val (.int (own_pk p3)), .val (.int (own_pk p4)), .val (.int (own_pk p5)), .val (.ref b28), .val (.int (1 : Int32))] [(.int (1 : Int32))])) _
    exact retN X47 hx (t := .boolean) Bd.returns (by simp) (hb hby at_256) hr50
   ·show Q0 Z p1 p2 p3 p4 p5 h0 n0 _ T47.heap _
    rw [q47]
    exact ⟨rfl, N47⟩
   ·show CHr Z own_EL s.vm s.heap T47.vm T47.heap
    rw [q47]
    rw [hh]
    exact (CHr.ext (own_ext K34) hCH).trans (CHv.at X47 hZ0 hEL (CHv.ext (own_ext K34) hCH))
  ·have e1 : ¬ ((own_pk p2) = 36 ∨ (own_pk p3) = 36) := fun q => by
    rcases q with q | q
    ·exact (own_pl1 hc189).1 q
    ·exact (own_pl1 hc203).1 q
   have e2 : ¬ ((own_pk p2) = 92 ∨ (own_pk p3) = 92) := fun q => by
    rcases q with q | q
    ·exact (own_pl1 hc189).2 q
    ·exact (own_pl1 hc203).2 q
   exact absurd ⟨e1, e2⟩ hd
 ·obtain ⟨T51, h51, X51, e51, E51, A51, D51, -, st51⟩ := newO X4 hx hZ0 ho0 (wd6 hw) (wd7 hw) (wd8 hw) q4 (g := (mkF m 116 #[.val (.int p1), .val (.int p2), .val (.int p3), .val (.int p4), .val (.int p5), .val (.int ((p1 &&& (2147483647 : Int32)) % (5 : Int32))), .val (.int (own_pk p2)), .val (.int (own_pk p3)), .val (.int (own_pk p4)), .val (.int (own_pk p5)), .unset, .unset] [])) rfl (hb hby at_116) (by decide) (by decide)
  obtain ⟨b51, gb51⟩ : ∃ z, z = h0.size := ⟨_, rfl⟩
  rw [← gb51] at A51 D51 st51
  have gn51 : n0 ≤ b51 := Nat.le_trans Z0 (Nat.le_of_eq gb51.symm)
  have sz51_b : h0.size ≤ b51 := Nat.le_trans (Keep.refl h0 []).1 (Nat.le_of_eq gb51.symm)
  have EN_51 := EN.ext E51
  have K51 := (Keep.refl h0 []).ext E51
  have F_value_b51 : Fld Z h51 b51 "java/lang/String" "value" "[B" .null := D51 (Or.inr (wd22 hw)) (ty := (.array .byte)) (by decide)
  have F_coder_b51 : Fld Z h51 b51 "java/lang/String" "coder" "B" (.int (0 : Int32)) := D51 (Or.inr (wd23 hw)) (ty := .byte) (by decide)
  obtain ⟨T52, h52, k52, X52, e52, E52, A52, st52⟩ := newP (aty := .char) X51 hx hZ0 (wd9 hw) e51 (g := (mkF m 121 #[.val (.int p1), .val (.int p2), .val (.int p3), .val (.int p4), .val (.int p5), .val (.int ((p1 &&& (2147483647 : Int32)) % (5 : Int32))), .val (.int (own_pk p2)), .val (.int (own_pk p3)), .val (.int (own_pk p4)), .val (.int (own_pk p5)), .unset, .unset] [(.int (3 : Int32)), (.ref b51), (.ref b51)])) rfl (hb hby at_121) rfl (by decide) (cap := 3) (by decide) (by decide) (by decide) (by decide)
  obtain ⟨b52, gb52⟩ : ∃ z, z = h51.size := ⟨_, rfl⟩
  rw [← gb52] at A52 st52
  have gn52 : n0 ≤ b52 := Nat.le_trans (Nat.le_trans Z0 E51.1) (Nat.le_of_eq gb52.symm)
  have sz52_b : h0.size ≤ b52 := Nat.le_trans K51.1 (Nat.le_of_eq gb52.symm)
  have ne_b51_b52 : b51 ≠ b52 := Nat.ne_of_lt (Nat.lt_of_lt_of_le A51.lt (Nat.le_of_eq gb52.symm))
  have EN_52 := EN_51.ext E52
  have A51_52 := A51.ext E52
  have F_value_b51_52 := F_value_b51.ext E52
  have F_coder_b51_52 := F_coder_b51.ext E52
  have K52 := K51.ext E52
  have V52 : Arv Z h52 b52 k52 .char (3 : Int32) [(.int (0 : Int32)), (.int (0 : Int32)), (.int (0 : Int32))] (.int (0 : Int32)) := (Arv.new A52 (by decide)).pad (pad_rep [] (.int (0 : Int32)) 3)
  have Vc53 := V52
  obtain ⟨cl53, Ar53, qq53, sz53, nn53, Ha53, Gf53⟩ := Vc53
  have hin53 : ¬ ((0 : Int32) < 0 ∨ cl53.slots.size ≤ ((0 : Int32)).toNatClampNeg) := inb_of sz53 ⟨by decide, by decide⟩
  obtain ⟨T54, h54, X54, e54, W54, st54⟩ := stC X52 hx hZ0 e52 Ar53 (j := (0 : Int32)) hin53 (g := (mkF m 127 #[.val (.int p1), .val (.int p2), .val (.int p3), .val (.int p4), .val (.int p5), .val (.int ((p1 &&& (2147483647 : Int32)) % (5 : Int32))), .val (.int (own_pk p2)), .val (.int (own_pk p3)), .val (.int (own_pk p4)), .val (.int (own_pk p5)), .unset, .unset] [(.int (own_pk p2)), (.int (0 : Int32)), (.ref b52), (.ref b52), (.ref b51), (.ref b51)])) rfl rfl (hb hby at_127)
  have N54 := Fr.snoc X54 N4 gn52
  have EN_54 := EN_52.wr W54 trivial
  have A51_54 := A51_52.wr W54
  have F_value_b51_54 := F_value_b51_52.other W54 (Or.inl ne_b51_b52)
  have F_coder_b51_54 := F_coder_b51_52.other W54 (Or.inl ne_b51_b52)
  have V52_54 := Arv.set Ar53 qq53 sz53 nn53 Ha53 Gf53 (fits_nar_char _) W54 0 rfl (Nat.le_of_ble_eq_true rfl)
  have K54 := K52.wr W54 (Or.inr sz52_b)
  have Vc55 := V52_54
  obtain ⟨cl55, Ar55, qq55, sz55, nn55, Ha55, Gf55⟩ := Vc55
  have hin55 : ¬ ((1 : Int32) < 0 ∨ cl55.slots.size ≤ ((1 : Int32)).toNatClampNeg) := inb_of sz55 ⟨by decide, by decide⟩
  obtain ⟨T56, h56, X56, e56, W56, st56⟩ := stC X54 hx hZ0 e54 Ar55 (j := (1 : Int32)) hin55 (g := (mkF m 132 #[.val (.int p1), .val (.int p2), .val (.int p3), .val (.int p4), .val (.int p5), .val (.int ((p1 &&& (2147483647 : Int32)) % (5 : Int32))), .val (.int (own_pk p2)), .val (.int (own_pk p3)), .val (.int (own_pk p4)), .val (.int (own_pk p5)), .unset, .unset] [(.int (own_pk p3)), (.int (1 : Int32)), (.ref b52), (.ref b52), (.ref b51), (.ref b51)])) rfl rfl (hb hby at_132)
  have N56 := Fr.snoc X56 N54 gn52
  have EN_56 := EN_54.wr W56 trivial
  have A51_56 := A51_54.wr W56
  have F_value_b51_56 := F_value_b51_54.other W56 (Or.inl ne_b51_b52)
  have F_coder_b51_56 := F_coder_b51_54.other W56 (Or.inl ne_b51_b52)
  have V52_56 := Arv.set Ar55 qq55 sz55 nn55 Ha55 Gf55 (fits_nar_char _) W56 1 rfl (Nat.le_of_ble_eq_true rfl)
  have K56 := K54.wr W56 (Or.inr sz52_b)
  have Vc57 := V52_56
  obtain ⟨cl57, Ar57, qq57, sz57, nn57, Ha57, Gf57⟩ := Vc57
  have hin57 : ¬ ((2 : Int32) < 0 ∨ cl57.slots.size ≤ ((2 : Int32)).toNatClampNeg) := inb_of sz57 ⟨by decide, by decide⟩
  obtain ⟨T58, h58, X58, e58, W58, st58⟩ := stC X56 hx hZ0 e56 Ar57 (j := (2 : Int32)) hin57 (g := (mkF m 137 #[.val (.int p1), .val (.int p2), .val (.int p3), .val (.int p4), .val (.int p5), .val (.int ((p1 &&& (2147483647 : Int32)) % (5 : Int32))), .val (.int (own_pk p2)), .val (.int (own_pk p3)), .val (.int (own_pk p4)), .val (.int (own_pk p5)), .unset, .unset] [(.int (own_pk p4)), (.int (2 : Int32)), (.ref b52), (.ref b52), (.ref b51), (.ref b51)])) rfl rfl (hb hby at_137)
  have N58 := Fr.snoc X58 N56 gn52
  have EN_58 := EN_56.wr W58 trivial
  have A51_58 := A51_56.wr W58
  have F_value_b51_58 := F_value_b51_56.other W58 (Or.inl ne_b51_b52)
  have F_coder_b51_58 := F_coder_b51_56.other W58 (Or.inl ne_b51_b52)
  have V52_58 := Arv.set Ar57 qq57 sz57 nn57 Ha57 Gf57 (fits_nar_char _) W58 2 rfl (Nat.le_of_ble_eq_true rfl)
  have K58 := K56.wr W58 (Or.inr sz52_b)
  have Kc : Arv Z h58 b52 k52 .char (3 : Int32) ([nar .char (own_pk p2), nar .char (own_pk p3), nar .char (own_pk p4)].map Value.int) (.int 0) := V52_58
  rw [own_nar (own_pkb p2), own_nar (own_pkb p3), own_nar (own_pkb p4)] at Kc
  obtain ⟨_, _, ⟨T59, L59, k59, n59⟩, -, X59, ⟨Lc59, hQ59, l59, y59, z59⟩, st59⟩ := X58.specialBack hx (y := own_z19) rfl ho0 (mvT hZ0 (wd10 hw)) (mvT hZ0 (wd11 hw)) (mvT hZ0 (wd12 hw)) (by decide) (backOf (W := 1) (rmw13 l Z a0 hw [] b51 b52 k52 (own_pk p2) (own_pk p3) (own_pk p4) h58 n0 (Nat.le_trans (Nat.le_trans (Nat.le_trans (Nat.le_trans (Nat.le_trans Z0 E51.1) E52.1) (Nat.le_of_eq W54.size.symm)) (Nat.le_of_eq W56.size.symm)) (Nat.le_of_eq W58.size.symm)) F_value_b51_58 F_coder_b51_58 A51_58 gn51 Kc EN_58 (own_pkb p2) (own_pkb p3) (own_pkb p4)) hZ0 (wd12 hw) (wd8 hw) (by decide) (by decide)) (g := (mkF m 138 #[.val (.int p1), .val (.int p2), .val (.int p3), .val (.int p4), .val (.int p5), .val (.int ((p1 &&& (2147483647 : Int32)) % (5 : Int32))), .val (.int (own_pk p2)), .val (.int (own_pk p3)), .val (.int (own_pk p4)), .val (.int (own_pk p5)), .unset, .unset] [(.ref b52), (.ref b51), (.ref b51)])) rfl (by rw [hml]; rfl) (Steps.refl _) (a := b51) (argsL := [(.ref b52)]) (rest := [(.ref b51)]) (lenOf pd_w11 rfl) rfl (by show 2 * 0 + _ ≤ _; exact Nat.le_of_eq rfl) (hb hby at_138) (fun _ _ => ⟨rfl, e58, (by decide : 2 + 2 ≤ _), (by decide : 7 + 9 ≤ _)⟩)
  dsimp only [Pt.U, Pt.locs, Pt.cells, Pt.slots] at X59 l59 y59 z59 st59 hQ59
  subst l59 y59 z59
  obtain ⟨rfl, N59q, Kp59, cd59, S59⟩ := hQ59
  have N59 := Fr.app N58 N59q
  have EN_59 := EN_58.keep Kp59 A51_58.nostat
  have K59 := K58.trans Kp59 (fun x hx => by cases List.mem_singleton.mp hx; exact Or.inr sz51_b)
  have Y36 := own_y3 l Z a0 hw b51 (own_pk p2) (own_pk p3) (own_pk p4) cd59 36 T59.heap n0 (Nat.le_trans (Nat.le_trans (Nat.le_trans (Nat.le_trans (Nat.le_trans (Nat.le_trans Z0 E51.1) E52.1) (Nat.le_of_eq W54.size.symm)) (Nat.le_of_eq W56.size.symm)) (Nat.le_of_eq W58.size.symm)) Kp59.1) S59 EN_59 (own_pkb p2) (own_pkb p3) (own_pkb p4) ⟨by decide, by decide⟩
  have Y92 := own_y3 l Z a0 hw b51 (own_pk p2) (own_pk p3) (own_pk p4) cd59 92 T59.heap n0 (Nat.le_trans (Nat.le_trans (Nat.le_trans (Nat.le_trans (Nat.le_trans (Nat.le_trans Z0 E51.1) E52.1) (Nat.le_of_eq W54.size.symm)) (Nat.le_of_eq W56.size.symm)) (Nat.le_of_eq W58.size.symm)) Kp59.1) S59 EN_59 (own_pkb p2) (own_pkb p3) (own_pkb p4) ⟨by decide, by decide⟩
  obtain ⟨t9, kb9, N9, vs9, Ex9, -⟩ := S59
  obtain ⟨_, _, ⟨T60, L60, k60, n60⟩, -, X60, ⟨Lc60, hQ60, l60, y60, z60⟩, st60⟩ := Jvm.LawKit.callS X59 hx (y := own_z1) ho0 (mvT hZ0 (wd82 hw)) (mvT hZ0 (wd83 hw)) (mvT hZ0 (wd3 hw)) (mvT hZ0 (wd84 hw)) (by decide) (backOf (W := 0) (rmpl l Z a0 hw [] (own_pk p2) T59.heap n0 (Nat.le_trans (Nat.le_trans (Nat.le_trans (Nat.le_trans (Nat.le_trans (Nat.le_trans Z0 E51.1) E52.1) (Nat.le_of_eq W54.size.symm)) (Nat.le_of_eq W56.size.symm)) (Nat.le_of_eq W58.size.symm)) Kp59.1)) hZ0 (wd84 hw) (wd3 hw) (by decide) (by decide)) (g := (mkF m 186 #[.val (.int p1), .val (.int p2), .val (.int p3), .val (.int p4), .val (.int p5), .val (.int ((p1 &&& (2147483647 : Int32)) % (5 : Int32))), .val (.int (own_pk p2)), .val (.int (own_pk p3)), .val (.int (own_pk p4)), .val (.int (own_pk p5)), .val (.ref b51), .unset] [(.int (own_pk p2))])) rfl (by rw [hml]; rfl) (argsL := [(.int (own_pk p2))]) (rest := []) (lenOf pd_pl rfl) rfl (by show 2 * 0 + _ ≤ _; exact Nat.le_of_eq rfl) (hb hby at_186) (fun _ _ => ⟨rfl, rfl, (by decide : 4 + 0 ≤ _), (by decide : 16 + 0 ≤ _)⟩)
  dsimp only [Pt.U, Pt.locs, Pt.cells, Pt.slots] at X60 l60 y60 z60 st60 hQ60
  subst l60 y60 z60
  obtain ⟨rfl, N60q, q60⟩ := hQ60
  have N60 := Fr.app N59 N60q
  have pre61 : ∀ t, Steps p.tables e below (T60.setTop (mkF m 189 #[.val (.int p1), .val (.int p2), .val (.int p3), .val (.int p4), .val (.int p5), .val (.int ((p1 &&& (2147483647 : Int32)) % (5 : Int32))), .val (.int (own_pk p2)), .val (.int (own_pk p3)), .val (.int (own_pk p4)), .val (.int (own_pk p5)), .val (.ref b51), .unset] [(.int (own_pl (own_pk p2)))])) t → Steps p.tables e below (s₁.setTop (entryFrame m #[(.int p1), (.int p2), (.int p3), (.int p4), (.int p5)] maxLocals)) t := fun t k => pre5 t (by
   show Steps p.tables e below (T4.setTop (mkF m 33 #[.val (.int p1), .val (.int p2), .val (.int p3), .val (.int p4), .val (.int p5), .val (.int ((p1 &&& (2147483647 : Int32)) % (5 : Int32))), .val (.int (own_pk p2)), .val (.int (own_pk p3)), .val (.int (own_pk p4)), .val (.int (own_pk p5)), .unset, .unset] [])) _
   refine XS.iload X4.here hx rfl (hb hby at_33) rfl ?_
   refine XS.ifYes X4.here hx rfl (pc0 := 35) (pc' := 53) rfl (hb hby at_35) rfl ((if0 _ _).trans (feq (by rw [hn]; decide)).2) (by decide) (by decide) ?_
   refine XS.iload X4.here hx rfl (hb hby at_53) rfl ?_
   refine XS.iconst X4.here hx rfl (hb hby at_55) ?_
   refine XS.icmpYes X4.here hx rfl (pc0 := 56) (pc' := 79) rfl (hb hby at_56) rfl (feq (by rw [hn]; decide)).2 (by decide) (by decide) ?_
   refine XS.iload X4.here hx rfl (hb hby at_79) rfl ?_
   refine XS.iconst X4.here hx rfl (hb hby at_81) ?_
   refine XS.icmpYes X4.here hx rfl (pc0 := 82) (pc' := 110) rfl (hb hby at_82) rfl (feq (by rw [hn]; decide)).2 (by decide) (by decide) ?_
   refine XS.iload X4.here hx rfl (hb hby at_110) rfl ?_
   refine XS.iconst X4.here hx rfl (hb hby at_112) ?_
   refine XS.icmpNo X4.here hx rfl (hb hby at_113) rfl (teq hn).2 ?_
   refine st51 _ ?_
   refine XS.dup X51.here hx rfl (hb hby at_119) rfl rfl ?_
   refine XS.iconst X51.here hx rfl (hb hby at_120) ?_
   refine st52 _ ?_
   refine XS.dup X52.here hx rfl (hb hby at_123) rfl rfl ?_
   refine XS.iconst X52.here hx rfl (hb hby at_124) ?_
   refine XS.iload X52.here hx rfl (hb hby at_125) rfl ?_
   refine st54 _ ?_
   refine XS.dup X54.here hx rfl (hb hby at_128) rfl rfl ?_
   refine XS.iconst X54.here hx rfl (hb hby at_129) ?_
   refine XS.iload X54.here hx rfl (hb hby at_130) rfl ?_
   refine st56 _ ?_
   refine XS.dup X56.here hx rfl (hb hby at_133) rfl rfl ?_
   refine XS.iconst X56.here hx rfl (hb hby at_134) ?_
   refine XS.iload X56.here hx rfl (hb hby at_135) rfl ?_
   refine st58 _ ?_
   refine st59.trans ?_
   refine XS.astore X59.here hx rfl (hb hby at_141) rfl rfl (l' := #[.val (.int p1), .val (.int p2), .val (.int p3), .val (.int p4), .val (.int p5), .val (.int ((p1 &&& (2147483647 : Int32)) % (5 : Int32))), .val (.int (own_pk p2)), .val (.int (own_pk p3)), .val (.int (own_pk p4)), .val (.int (own_pk p5)), .val (.ref b51), .unset]) rfl ?_
   refine XS.goto X59.here hx rfl (pc0 := 143) (pc' := 178) rfl (hb hby at_143) (by decide) (by decide) ?_
   refine XS.iload X59.here hx rfl (hb hby at_178) rfl ?_
   refine XS.iconst X59.here hx rfl (hb hby at_180) ?_
   refine XS.icmpNo X59.here hx rfl (hb hby at_181) rfl (flt (by rw [hn]; decide)).1 ?_
   refine XS.iload X59.here hx rfl (hb hby at_184) rfl ?_
   refine st60 _ ?_
   exact k)
  by_cases hc189 : (own_pl (own_pk p2)) = (0 : Int32)
  ·obtain ⟨_, _, ⟨T62, L62, k62, n62⟩, -, X62, ⟨Lc62, hQ62, l62, y62, z62⟩, st62⟩ := Jvm.LawKit.callS X60 hx (y := own_z28) ho0 (mvT hZ0 (wd28 hw)) (mvT hZ0 (wd29 hw)) (mvT hZ0 (wd30 hw)) (mvT hZ0 (wd31 hw)) (by decide) (backOf (W := 0) (rmtg l Z a0 hw [] b51 _ _ T59.heap n0 (Nat.le_trans (Nat.le_trans (Nat.le_trans (Nat.le_trans (Nat.le_trans (Nat.le_trans Z0 E51.1) E52.1) (Nat.le_of_eq W54.size.symm)) (Nat.le_of_eq W56.size.symm)) (Nat.le_of_eq W58.size.symm)) Kp59.1) Ex9 Y36 Y92) hZ0 (wd31 hw) (wd30 hw) (by decide) (by decide)) (g := (mkF m 243 #[.val (.int p1), .val (.int p2), .val (.int p3), .val (.int p4), .val (.int p5), .val (.int ((p1 &&& (2147483647 : Int32)) % (5 : Int32))), .val (.int (own_pk p2)), .val (.int (own_pk p3)), .val (.int (own_pk p4)), .val (.int (own_pk p5)), .val (.ref b51), .val (.int (0 : Int32))] [(.ref b51)])) rfl (by rw [hml]; rfl) (argsL := [(.ref b51)]) (rest := []) (lenOf pd_tg rfl) rfl (by show 2 * 0 + _ ≤ _; exact Nat.le_of_eq rfl) (hb hby at_243) (fun _ _ => ⟨rfl, q60, (by decide : 4 + 0 ≤ _), (by decide : 16 + 0 ≤ _)⟩)
   dsimp only [Pt.U, Pt.locs, Pt.cells, Pt.slots] at X62 l62 y62 z62 st62 hQ62
   subst l62 y62 z62
   obtain ⟨t62, rfl, N62q, q62, hd62⟩ := hQ62
   have N62 := Fr.app N60 N62q
   have pre63 : ∀ t, Steps p.tables e below (T62.setTop (mkF m 246 #[.val (.int p1), .val (.int p2), .val (.int p3), .val (.int p4), .val (.int p5), .val (.int ((p1 &&& (2147483647 : Int32)) % (5 : Int32))), .val (.int (own_pk p2)), .val (.int (own_pk p3)), .val (.int (own_pk p4)), .val (.int (own_pk p5)), .val (.ref b51), .val (.int (0 : Int32))] [(.int t62)])) t → Steps p.tables e below (s₁.setTop (entryFrame m #[(.int p1), (.int p2), (.int p3), (.int p4), (.int p5)] maxLocals)) t := fun t k => pre61 t (by
    show Steps p.tables e below (T60.setTop (mkF m 189 #[.val (.int p1), .val (.int p2), .val (.int p3), .val (.int p4), .val (.int p5), .val (.int ((p1 &&& (2147483647 : Int32)) % (5 : Int32))), .val (.int (own_pk p2)), .val (.int (own_pk p3)), .val (.int (own_pk p4)), .val (.int (own_pk p5)), .val (.ref b51), .unset] [(.int (own_pl (own_pk p2)))])) _
    refine XS.ifYes X60.here hx rfl (pc0 := 189) (pc' := 238) rfl (hb hby at_189) rfl ((if0 _ _).trans (teq hc189).1) (by decide) (by decide) ?_
    refine XS.iconst X60.here hx rfl (hb hby at_238) ?_
    refine XS.istore X60.here hx rfl (hb hby at_239) rfl (l' := #[.val (.int p1), .val (.int p2), .val (.int p3), .val (.int p4), .val (.int p5), .val (.int ((p1 &&& (2147483647 : Int32)) % (5 : Int32))), .val (.int (own_pk p2)), .val (.int (own_pk p3)), .val (.int (own_pk p4)), .val (.int (own_pk p5)), .val (.ref b51), .val (.int (0 : Int32))]) rfl ?_
    refine XS.aload X60.here hx rfl (hb hby at_241) rfl rfl ?_
    refine st62 _ ?_
    exact k)
   rcases hd62 with ⟨rfl, hd⟩ | ⟨rfl, hd⟩
   ·rcases own_pl0 hc189 with q | q
    ·exact absurd (Or.inl q) hd.1
    ·exact absurd (Or.inl q) hd.2
   ·have pre64 : ∀ t, Steps p.tables e below (T62.setTop (mkF m 256 #[.val (.int p1), .val (.int p2), .val (.int p3), .val (.int p4), .val (.int p5), .val (.int ((p1 &&& (2147483647 : Int32)) % (5 : Int32))), .val (.int (own_pk p2)), .val (.int (own_pk p3)), .val (.int (own_pk p4)), .val (.int (own_pk p5)), .val (.ref b51), .val (.int (0 : Int32))] [(.int (1 : Int32))])) t → Steps p.tables e below (s₁.setTop (entryFrame m #[(.int p1), (.int p2), (.int p3), (.int p4), (.int p5)] maxLocals)) t := fun t k => pre63 t (by
     show Steps p.tables e below (T62.setTop (mkF m 246 #[.val (.int p1), .val (.int p2), .val (.int p3), .val (.int p4), .val (.int p5), .val (.int ((p1 &&& (2147483647 : Int32)) % (5 : Int32))), .val (.int (own_pk p2)), .val (.int (own_pk p3)), .val (.int (own_pk p4)), .val (.int (own_pk p5)), .val (.ref b51), .val (.int (0 : Int32))] [(.int (0 : Int32))])) _
     refine XS.iload X62.here hx rfl (hb hby at_246) rfl ?_
     refine XS.icmpNo X62.here hx rfl (hb hby at_248) rfl (teq (by decide : (0 : Int32) = (0 : Int32))).2 ?_
     refine XS.iconst X62.here hx rfl (hb hby at_251) ?_
     refine XS.goto X62.here hx rfl (pc0 := 252) (pc' := 256) rfl (hb hby at_252) (by decide) (by decide) ?_
     exact k)
    obtain ⟨fs65, hr65, hrun65, hended65, hE65⟩ := X62.leaveW hS0 (by first | exact K59.1 | (rw [q62]; exact K59.1)) (v := some (.int (1 : Int32))) (fun h => by rw [Bd.returns] at h; cases h)
    refine ⟨_, _, pre64 _ ?_, hrun65, hended65, _, _, rfl, ?_, ?_, hE65.1, hE65.2.1, hE65.2.2.1, hE65.2.2.2.mono (by decide) (by decide)⟩
    ·show Steps p.tables e below (T62.setTop (mkF m 256 #[.val (.int p1), .val (.int p2), .val (.int p3), .val (.int p4), .val (.int p5), .val (.int ((p1 &&& (2147483647 : Int32)) % (5 : Int32))), .val (.int (own_pk p2)), .val (.int (own_pk p3)), .val (.int (own_pk p4)), .val (.int (own_pk p5)), .val (.ref b51), .val (.int (0 : Int32))] [(.int (1 : Int32))])) _
     exact retN X62 hx (t := .boolean) Bd.returns (by simp) (hb hby at_256) hr65
    ·show Q0 Z p1 p2 p3 p4 p5 h0 n0 _ T62.heap _
     rw [q62]
     exact ⟨rfl, N62⟩
    ·show CHr Z own_EL s.vm s.heap T62.vm T62.heap
     rw [q62]
     rw [hh]
     exact (CHr.ext (own_ext K59) hCH).trans (CHv.at X62 hZ0 hEL (CHv.ext (own_ext K59) hCH))
  obtain ⟨_, _, ⟨T66, L66, k66, n66⟩, -, X66, ⟨Lc66, hQ66, l66, y66, z66⟩, st66⟩ := Jvm.LawKit.callS X60 hx (y := own_z1) ho0 (mvT hZ0 (wd82 hw)) (mvT hZ0 (wd83 hw)) (mvT hZ0 (wd3 hw)) (mvT hZ0 (wd84 hw)) (by decide) (backOf (W := 0) (rmpl l Z a0 hw [] (own_pk p3) T59.heap n0 (Nat.le_trans (Nat.le_trans (Nat.le_trans (Nat.le_trans (Nat.le_trans (Nat.le_trans Z0 E51.1) E52.1) (Nat.le_of_eq W54.size.symm)) (Nat.le_of_eq W56.size.symm)) (Nat.le_of_eq W58.size.symm)) Kp59.1)) hZ0 (wd84 hw) (wd3 hw) (by decide) (by decide)) (g := (mkF m 200 #[.val (.int p1), .val (.int p2), .val (.int p3), .val (.int p4), .val (.int p5), .val (.int ((p1 &&& (2147483647 : Int32)) % (5 : Int32))), .val (.int (own_pk p2)), .val (.int (own_pk p3)), .val (.int (own_pk p4)), .val (.int (own_pk p5)), .val (.ref b51), .unset] [(.int (own_pk p3))])) rfl (by rw [hml]; rfl) (argsL := [(.int (own_pk p3))]) (rest := []) (lenOf pd_pl rfl) rfl (by show 2 * 0 + _ ≤ _; exact Nat.le_of_eq rfl) (hb hby at_200) (fun _ _ => ⟨rfl, q60, (by decide : 4 + 0 ≤ _), (by decide : 16 + 0 ≤ _)⟩)
  dsimp only [Pt.U, Pt.locs, Pt.cells, Pt.slots] at X66 l66 y66 z66 st66 hQ66
  subst l66 y66 z66
  obtain ⟨rfl, N66q, q66⟩ := hQ66
  have N66 := Fr.app N60 N66q
  have pre67 : ∀ t, Steps p.tables e below (T66.setTop (mkF m 203 #[.val (.int p1), .val (.int p2), .val (.int p3), .val (.int p4), .val (.int p5), .val (.int ((p1 &&& (2147483647 : Int32)) % (5 : Int32))), .val (.int (own_pk p2)), .val (.int (own_pk p3)), .val (.int (own_pk p4)), .val (.int (own_pk p5)), .val (.ref b51), .unset] [(.int (own_pl (own_pk p3)))])) t → Steps p.tables e below (s₁.setTop (entryFrame m #[(.int p1), (.int p2), (.int p3), (.int p4), (.int p5)] maxLocals)) t := fun t k => pre61 t (by
   show Steps p.tables e below (T60.setTop (mkF m 189 #[.val (.int p1), .val (.int p2), .val (.int p3), .val (.int p4), .val (.int p5), .val (.int ((p1 &&& (2147483647 : Int32)) % (5 : Int32))), .val (.int (own_pk p2)), .val (.int (own_pk p3)), .val (.int (own_pk p4)), .val (.int (own_pk p5)), .val (.ref b51), .unset] [(.int (own_pl (own_pk p2)))])) _
   refine XS.ifNo X60.here hx rfl (hb hby at_189) rfl ((if0 _ _).trans (feq hc189).1) ?_
   refine XS.iload X60.here hx rfl (hb hby at_192) rfl ?_
   refine XS.iconst X60.here hx rfl (hb hby at_194) ?_
   refine XS.icmpNo X60.here hx rfl (hb hby at_195) rfl (flt (by rw [hn]; decide)).1 ?_
   refine XS.iload X60.here hx rfl (hb hby at_198) rfl ?_
   refine st66 _ ?_
   exact k)
  by_cases hc203 : (own_pl (own_pk p3)) = (0 : Int32)
  ·obtain ⟨_, _, ⟨T68, L68, k68, n68⟩, -, X68, ⟨Lc68, hQ68, l68, y68, z68⟩, st68⟩ := Jvm.LawKit.callS X66 hx (y := own_z28) ho0 (mvT hZ0 (wd28 hw)) (mvT hZ0 (wd29 hw)) (mvT hZ0 (wd30 hw)) (mvT hZ0 (wd31 hw)) (by decide) (backOf (W := 0) (rmtg l Z a0 hw [] b51 _ _ T59.heap n0 (Nat.le_trans (Nat.le_trans (Nat.le_trans (Nat.le_trans (Nat.le_trans (Nat.le_trans Z0 E51.1) E52.1) (Nat.le_of_eq W54.size.symm)) (Nat.le_of_eq W56.size.symm)) (Nat.le_of_eq W58.size.symm)) Kp59.1) Ex9 Y36 Y92) hZ0 (wd31 hw) (wd30 hw) (by decide) (by decide)) (g := (mkF m 243 #[.val (.int p1), .val (.int p2), .val (.int p3), .val (.int p4), .val (.int p5), .val (.int ((p1 &&& (2147483647 : Int32)) % (5 : Int32))), .val (.int (own_pk p2)), .val (.int (own_pk p3)), .val (.int (own_pk p4)), .val (.int (own_pk p5)), .val (.ref b51), .val (.int (0 : Int32))] [(.ref b51)])) rfl (by rw [hml]; rfl) (argsL := [(.ref b51)]) (rest := []) (lenOf pd_tg rfl) rfl (by show 2 * 0 + _ ≤ _; exact Nat.le_of_eq rfl) (hb hby at_243) (fun _ _ => ⟨rfl, q66, (by decide : 4 + 0 ≤ _), (by decide : 16 + 0 ≤ _)⟩)
   dsimp only [Pt.U, Pt.locs, Pt.cells, Pt.slots] at X68 l68 y68 z68 st68 hQ68
   subst l68 y68 z68
   obtain ⟨t68, rfl, N68q, q68, hd68⟩ := hQ68
   have N68 := Fr.app N66 N68q
   have pre69 : ∀ t, Steps p.tables e below (T68.setTop (mkF m 246 #[.val (.int p1), .val (.int p2), .val (.int p3), .val (.int p4), .val (.int p5), .val (.int ((p1 &&& (2147483647 : Int32)) % (5 : Int32))), .val (.int (own_pk p2)), .val (.int (own_pk p3)), .val (.int (own_pk p4)), .val (.int (own_pk p5)), .val (.ref b51), .val (.int (0 : Int32))] [(.int t68)])) t → Steps p.tables e below (s₁.setTop (entryFrame m #[(.int p1), (.int p2), (.int p3), (.int p4), (.int p5)] maxLocals)) t := fun t k => pre67 t (by
    show Steps p.tables e below (T66.setTop (mkF m 203 #[.val (.int p1), .val (.int p2), .val (.int p3), .val (.int p4), .val (.int p5), .val (.int ((p1 &&& (2147483647 : Int32)) % (5 : Int32))), .val (.int (own_pk p2)), .val (.int (own_pk p3)), .val (.int (own_pk p4)), .val (.int (own_pk p5)), .val (.ref b51), .unset] [(.int (own_pl (own_pk p3)))])) _
    refine XS.ifYes X66.here hx rfl (pc0 := 203) (pc' := 238) rfl (hb hby at_203) rfl ((if0 _ _).trans (teq hc203).1) (by decide) (by decide) ?_
    refine XS.iconst X66.here hx rfl (hb hby at_238) ?_
    refine XS.istore X66.here hx rfl (hb hby at_239) rfl (l' := #[.val (.int p1), .val (.int p2), .val (.int p3), .val (.int p4), .val (.int p5), .val (.int ((p1 &&& (2147483647 : Int32)) % (5 : Int32))), .val (.int (own_pk p2)), .val (.int (own_pk p3)), .val (.int (own_pk p4)), .val (.int (own_pk p5)), .val (.ref b51), .val (.int (0 : Int32))]) rfl ?_
    refine XS.aload X66.here hx rfl (hb hby at_241) rfl rfl ?_
    refine st68 _ ?_
    exact k)
   rcases hd68 with ⟨rfl, hd⟩ | ⟨rfl, hd⟩
   ·rcases own_pl0 hc203 with q | q
    ·exact absurd (Or.inr ((Or.inl q))) hd.1
    ·exact absurd (Or.inr ((Or.inl q))) hd.2
   ·have pre70 : ∀ t, Steps p.tables e below (T68.setTop (mkF m 256 #[.val (.int p1), .val (.int p2), .val (.int p3), .val (.int p4), .val (.int p5), .val (.int ((p1 &&& (2147483647 : Int32)) % (5 : Int32))), .val (.int (own_pk p2)), .val (.int (own_pk p3)), .val (.int (own_pk p4)), .val (.int (own_pk p5)), .val (.ref b51), .val (.int (0 : Int32))] [(.int (1 : Int32))])) t → Steps p.tables e below (s₁.setTop (entryFrame m #[(.int p1), (.int p2), (.int p3), (.int p4), (.int p5)] maxLocals)) t := fun t k => pre69 t (by
     show Steps p.tables e below (T68.setTop (mkF m 246 #[.val (.int p1), .val (.int p2), .val (.int p3), .val (.int p4), .val (.int p5), .val (.int ((p1 &&& (2147483647 : Int32)) % (5 : Int32))), .val (.int (own_pk p2)), .val (.int (own_pk p3)), .val (.int (own_pk p4)), .val (.int (own_pk p5)), .val (.ref b51), .val (.int (0 : Int32))] [(.int (0 : Int32))])) _
     refine XS.iload X68.here hx rfl (hb hby at_246) rfl ?_
     refine XS.icmpNo X68.here hx rfl (hb hby at_248) rfl (teq (by decide : (0 : Int32) = (0 : Int32))).2 ?_
     refine XS.iconst X68.here hx rfl (hb hby at_251) ?_
     refine XS.goto X68.here hx rfl (pc0 := 252) (pc' := 256) rfl (hb hby at_252) (by decide) (by decide) ?_
     exact k)
    obtain ⟨fs71, hr71, hrun71, hended71, hE71⟩ := X68.leaveW hS0 (by first | exact K59.1 | (rw [q68]; exact K59.1)) (v := some (.int (1 : Int32))) (fun h => by rw [Bd.returns] at h; cases h)
    refine ⟨_, _, pre70 _ ?_, hrun71, hended71, _, _, rfl, ?_, ?_, hE71.1, hE71.2.1, hE71.2.2.1, hE71.2.2.2.mono (by decide) (by decide)⟩
    ·show Steps p.tables e below (T68.setTop (mkF m 256 #[.val (.int p1), .val (.int p2), .val (.int p3), .val (.int p4), .val (.int p5), .val (.int ((p1 &&& (2147483647 : Int32)) % (5 : Int32))), .val (.int (own_pk p2)), .val (.int (own_pk p3)), .val (.int (own_pk p4)), .val (.int (own_pk p5)), .val (.ref b51), .val (.int (0 : Int32))] [(.int (1 : Int32))])) _
     exact retN X68 hx (t := .boolean) Bd.returns (by simp) (hb hby at_256) hr71
    ·show Q0 Z p1 p2 p3 p4 p5 h0 n0 _ T68.heap _
     rw [q68]
     exact ⟨rfl, N68⟩
    ·show CHr Z own_EL s.vm s.heap T68.vm T68.heap
     rw [q68]
     rw [hh]
     exact (CHr.ext (own_ext K59) hCH).trans (CHv.at X68 hZ0 hEL (CHv.ext (own_ext K59) hCH))
  obtain ⟨_, _, ⟨T72, L72, k72, n72⟩, -, X72, ⟨Lc72, hQ72, l72, y72, z72⟩, st72⟩ := Jvm.LawKit.callS X66 hx (y := own_z1) ho0 (mvT hZ0 (wd82 hw)) (mvT hZ0 (wd83 hw)) (mvT hZ0 (wd3 hw)) (mvT hZ0 (wd84 hw)) (by decide) (backOf (W := 0) (rmpl l Z a0 hw [] (own_pk p4) T59.heap n0 (Nat.le_trans (Nat.le_trans (Nat.le_trans (Nat.le_trans (Nat.le_trans (Nat.le_trans Z0 E51.1) E52.1) (Nat.le_of_eq W54.size.symm)) (Nat.le_of_eq W56.size.symm)) (Nat.le_of_eq W58.size.symm)) Kp59.1)) hZ0 (wd84 hw) (wd3 hw) (by decide) (by decide)) (g := (mkF m 214 #[.val (.int p1), .val (.int p2), .val (.int p3), .val (.int p4), .val (.int p5), .val (.int ((p1 &&& (2147483647 : Int32)) % (5 : Int32))), .val (.int (own_pk p2)), .val (.int (own_pk p3)), .val (.int (own_pk p4)), .val (.int (own_pk p5)), .val (.ref b51), .unset] [(.int (own_pk p4))])) rfl (by rw [hml]; rfl) (argsL := [(.int (own_pk p4))]) (rest := []) (lenOf pd_pl rfl) rfl (by show 2 * 0 + _ ≤ _; exact Nat.le_of_eq rfl) (hb hby at_214) (fun _ _ => ⟨rfl, q66, (by decide : 4 + 0 ≤ _), (by decide : 16 + 0 ≤ _)⟩)
  dsimp only [Pt.U, Pt.locs, Pt.cells, Pt.slots] at X72 l72 y72 z72 st72 hQ72
  subst l72 y72 z72
  obtain ⟨rfl, N72q, q72⟩ := hQ72
  have N72 := Fr.app N66 N72q
  have pre73 : ∀ t, Steps p.tables e below (T72.setTop (mkF m 217 #[.val (.int p1), .val (.int p2), .val (.int p3), .val (.int p4), .val (.int p5), .val (.int ((p1 &&& (2147483647 : Int32)) % (5 : Int32))), .val (.int (own_pk p2)), .val (.int (own_pk p3)), .val (.int (own_pk p4)), .val (.int (own_pk p5)), .val (.ref b51), .unset] [(.int (own_pl (own_pk p4)))])) t → Steps p.tables e below (s₁.setTop (entryFrame m #[(.int p1), (.int p2), (.int p3), (.int p4), (.int p5)] maxLocals)) t := fun t k => pre67 t (by
   show Steps p.tables e below (T66.setTop (mkF m 203 #[.val (.int p1), .val (.int p2), .val (.int p3), .val (.int p4), .val (.int p5), .val (.int ((p1 &&& (2147483647 : Int32)) % (5 : Int32))), .val (.int (own_pk p2)), .val (.int (own_pk p3)), .val (.int (own_pk p4)), .val (.int (own_pk p5)), .val (.ref b51), .unset] [(.int (own_pl (own_pk p3)))])) _
   refine XS.ifNo X66.here hx rfl (hb hby at_203) rfl ((if0 _ _).trans (feq hc203).1) ?_
   refine XS.iload X66.here hx rfl (hb hby at_206) rfl ?_
   refine XS.iconst X66.here hx rfl (hb hby at_208) ?_
   refine XS.icmpNo X66.here hx rfl (hb hby at_209) rfl (flt (by rw [hn]; decide)).1 ?_
   refine XS.iload X66.here hx rfl (hb hby at_212) rfl ?_
   refine st72 _ ?_
   exact k)
  by_cases hc217 : (own_pl (own_pk p4)) = (0 : Int32)
  ·obtain ⟨_, _, ⟨T74, L74, k74, n74⟩, -, X74, ⟨Lc74, hQ74, l74, y74, z74⟩, st74⟩ := Jvm.LawKit.callS X72 hx (y := own_z28) ho0 (mvT hZ0 (wd28 hw)) (mvT hZ0 (wd29 hw)) (mvT hZ0 (wd30 hw)) (mvT hZ0 (wd31 hw)) (by decide) (backOf (W := 0) (rmtg l Z a0 hw [] b51 _ _ T59.heap n0 (Nat.le_trans (Nat.le_trans (Nat.le_trans (Nat.le_trans (Nat.le_trans (Nat.le_trans Z0 E51.1) E52.1) (Nat.le_of_eq W54.size.symm)) (Nat.le_of_eq W56.size.symm)) (Nat.le_of_eq W58.size.symm)) Kp59.1) Ex9 Y36 Y92) hZ0 (wd31 hw) (wd30 hw) (by decide) (by decide)) (g := (mkF m 243 #[.val (.int p1), .val (.int p2), .val (.int p3), .val (.int p4), .val (.int p5), .val (.int ((p1 &&& (2147483647 : Int32)) % (5 : Int32))), .val (.int (own_pk p2)), .val (.int (own_pk p3)), .val (.int (own_pk p4)), .val (.int (own_pk p5)), .val (.ref b51), .val (.int (0 : Int32))] [(.ref b51)])) rfl (by rw [hml]; rfl) (argsL := [(.ref b51)]) (rest := []) (lenOf pd_tg rfl) rfl (by show 2 * 0 + _ ≤ _; exact Nat.le_of_eq rfl) (hb hby at_243) (fun _ _ => ⟨rfl, q72, (by decide : 4 + 0 ≤ _), (by decide : 16 + 0 ≤ _)⟩)
   dsimp only [Pt.U, Pt.locs, Pt.cells, Pt.slots] at X74 l74 y74 z74 st74 hQ74
   subst l74 y74 z74
   obtain ⟨t74, rfl, N74q, q74, hd74⟩ := hQ74
   have N74 := Fr.app N72 N74q
   have pre75 : ∀ t, Steps p.tables e below (T74.setTop (mkF m 246 #[.val (.int p1), .val (.int p2), .val (.int p3), .val (.int p4), .val (.int p5), .val (.int ((p1 &&& (2147483647 : Int32)) % (5 : Int32))), .val (.int (own_pk p2)), .val (.int (own_pk p3)), .val (.int (own_pk p4)), .val (.int (own_pk p5)), .val (.ref b51), .val (.int (0 : Int32))] [(.int t74)])) t → Steps p.tables e below (s₁.setTop (entryFrame m #[(.int p1), (.int p2), (.int p3), (.int p4), (.int p5)] maxLocals)) t := fun t k => pre73 t (by
    show Steps p.tables e below (T72.setTop (mkF m 217 #[.val (.int p1), .val (.int p2), .val (.int p3), .val (.int p4), .val (.int p5), .val (.int ((p1 &&& (2147483647 : Int32)) % (5 : Int32))), .val (.int (own_pk p2)), .val (.int (own_pk p3)), .val (.int (own_pk p4)), .val (.int (own_pk p5)), .val (.ref b51), .unset] [(.int (own_pl (own_pk p4)))])) _
    refine XS.ifYes X72.here hx rfl (pc0 := 217) (pc' := 238) rfl (hb hby at_217) rfl ((if0 _ _).trans (teq hc217).1) (by decide) (by decide) ?_
    refine XS.iconst X72.here hx rfl (hb hby at_238) ?_
    refine XS.istore X72.here hx rfl (hb hby at_239) rfl (l' := #[.val (.int p1), .val (.int p2), .val (.int p3), .val (.int p4), .val (.int p5), .val (.int ((p1 &&& (2147483647 : Int32)) % (5 : Int32))), .val (.int (own_pk p2)), .val (.int (own_pk p3)), .val (.int (own_pk p4)), .val (.int (own_pk p5)), .val (.ref b51), .val (.int (0 : Int32))]) rfl ?_
    refine XS.aload X72.here hx rfl (hb hby at_241) rfl rfl ?_
    refine st74 _ ?_
    exact k)
   rcases hd74 with ⟨rfl, hd⟩ | ⟨rfl, hd⟩
   ·rcases own_pl0 hc217 with q | q
    ·exact absurd (Or.inr ((Or.inr (q)))) hd.1
    ·exact absurd (Or.inr ((Or.inr (q)))) hd.2
   ·have pre76 : ∀ t, Steps p.tables e below (T74.setTop (mkF m 256 #[.val (.int p1), .val (.int p2), .val (.int p3), .val (.int p4), .val (.int p5), .val (.int ((p1 &&& (2147483647 : Int32)) % (5 : Int32))), .val (.int (own_pk p2)), .val (.int (own_pk p3)), .val (.int (own_pk p4)), .val (.int (own_pk p5)), .val (.ref b51), .val (.int (0 : Int32))] [(.int (1 : Int32))])) t → Steps p.tables e below (s₁.setTop (entryFrame m #[(.int p1), (.int p2), (.int p3), (.int p4), (.int p5)] maxLocals)) t := fun t k => pre75 t (by
     show Steps p.tables e below (T74.setTop (mkF m 246 #[.val (.int p1), .val (.int p2), .val (.int p3), .val (.int p4), .val (.int p5), .val (.int ((p1 &&& (2147483647 : Int32)) % (5 : Int32))), .val (.int (own_pk p2)), .val (.int (own_pk p3)), .val (.int (own_pk p4)), .val (.int (own_pk p5)), .val (.ref b51), .val (.int (0 : Int32))] [(.int (0 : Int32))])) _
     refine XS.iload X74.here hx rfl (hb hby at_246) rfl ?_
     refine XS.icmpNo X74.here hx rfl (hb hby at_248) rfl (teq (by decide : (0 : Int32) = (0 : Int32))).2 ?_
     refine XS.iconst X74.here hx rfl (hb hby at_251) ?_
     refine XS.goto X74.here hx rfl (pc0 := 252) (pc' := 256) rfl (hb hby at_252) (by decide) (by decide) ?_
     exact k)
    obtain ⟨fs77, hr77, hrun77, hended77, hE77⟩ := X74.leaveW hS0 (by first | exact K59.1 | (rw [q74]; exact K59.1)) (v := some (.int (1 : Int32))) (fun h => by rw [Bd.returns] at h; cases h)
    refine ⟨_, _, pre76 _ ?_, hrun77, hended77, _, _, rfl, ?_, ?_, hE77.1, hE77.2.1, hE77.2.2.1, hE77.2.2.2.mono (by decide) (by decide)⟩
    ·show Steps p.tables e below (T74.setTop (mkF m 256 #[.val (.int p1), .val (.int p2), .val (.int p3), .val (.int p4), .val (.int p5), .val (.int ((p1 &&& (2147483647 : Int32)) % (5 : Int32))), .val (.int (own_pk p2)), .val (.int (own_pk p3)), .val (.int (own_pk p4)), .val (.int (own_pk p5)), .val (.ref b51), .val (.int (0 : Int32))] [(.int (1 : Int32))])) _
     exact retN X74 hx (t := .boolean) Bd.returns (by simp) (hb hby at_256) hr77
    ·show Q0 Z p1 p2 p3 p4 p5 h0 n0 _ T74.heap _
     rw [q74]
     exact ⟨rfl, N74⟩
    ·show CHr Z own_EL s.vm s.heap T74.vm T74.heap
     rw [q74]
     rw [hh]
     exact (CHr.ext (own_ext K59) hCH).trans (CHv.at X74 hZ0 hEL (CHv.ext (own_ext K59) hCH))
  obtain ⟨_, _, ⟨T78, L78, k78, n78⟩, -, X78, ⟨Lc78, hQ78, l78, y78, z78⟩, st78⟩ := Jvm.LawKit.callS X72 hx (y := own_z28) ho0 (mvT hZ0 (wd28 hw)) (mvT hZ0 (wd29 hw)) (mvT hZ0 (wd30 hw)) (mvT hZ0 (wd31 hw)) (by decide) (backOf (W := 0) (rmtg l Z a0 hw [] b51 _ _ T59.heap n0 (Nat.le_trans (Nat.le_trans (Nat.le_trans (Nat.le_trans (Nat.le_trans (Nat.le_trans Z0 E51.1) E52.1) (Nat.le_of_eq W54.size.symm)) (Nat.le_of_eq W56.size.symm)) (Nat.le_of_eq W58.size.symm)) Kp59.1) Ex9 Y36 Y92) hZ0 (wd31 hw) (wd30 hw) (by decide) (by decide)) (g := (mkF m 243 #[.val (.int p1), .val (.int p2), .val (.int p3), .val (.int p4), .val (.int p5), .val (.int ((p1 &&& (2147483647 : Int32)) % (5 : Int32))), .val (.int (own_pk p2)), .val (.int (own_pk p3)), .val (.int (own_pk p4)), .val (.int (own_pk p5)), .val (.ref b51), .val (.int (1 : Int32))] [(.ref b51)])) rfl (by rw [hml]; rfl) (argsL := [(.ref b51)]) (rest := []) (lenOf pd_tg rfl) rfl (by show 2 * 0 + _ ≤ _; exact Nat.le_of_eq rfl) (hb hby at_243) (fun _ _ => ⟨rfl, q72, (by decide : 4 + 0 ≤ _), (by decide : 16 + 0 ≤ _)⟩)
  dsimp only [Pt.U, Pt.locs, Pt.cells, Pt.slots] at X78 l78 y78 z78 st78 hQ78
  subst l78 y78 z78
  obtain ⟨t78, rfl, N78q, q78, hd78⟩ := hQ78
  have N78 := Fr.app N72 N78q
  have pre79 : ∀ t, Steps p.tables e below (T78.setTop (mkF m 246 #[.val (.int p1), .val (.int p2), .val (.int p3), .val (.int p4), .val (.int p5), .val (.int ((p1 &&& (2147483647 : Int32)) % (5 : Int32))), .val (.int (own_pk p2)), .val (.int (own_pk p3)), .val (.int (own_pk p4)), .val (.int (own_pk p5)), .val (.ref b51), .val (.int (1 : Int32))] [(.int t78)])) t → Steps p.tables e below (s₁.setTop (entryFrame m #[(.int p1), (.int p2), (.int p3), (.int p4), (.int p5)] maxLocals)) t := fun t k => pre73 t (by
   show Steps p.tables e below (T72.setTop (mkF m 217 #[.val (.int p1), .val (.int p2), .val (.int p3), .val (.int p4), .val (.int p5), .val (.int ((p1 &&& (2147483647 : Int32)) % (5 : Int32))), .val (.int (own_pk p2)), .val (.int (own_pk p3)), .val (.int (own_pk p4)), .val (.int (own_pk p5)), .val (.ref b51), .unset] [(.int (own_pl (own_pk p4)))])) _
   refine XS.ifNo X72.here hx rfl (hb hby at_217) rfl ((if0 _ _).trans (feq hc217).1) ?_
   refine XS.iload X72.here hx rfl (hb hby at_220) rfl ?_
   refine XS.iconst X72.here hx rfl (hb hby at_222) ?_
   refine XS.icmpYes X72.here hx rfl (pc0 := 223) (pc' := 234) rfl (hb hby at_223) rfl (tlt (by rw [hn]; decide)).1 (by decide) (by decide) ?_
   refine XS.iconst X72.here hx rfl (hb hby at_234) ?_
   refine XS.goto X72.here hx rfl (pc0 := 235) (pc' := 239) rfl (hb hby at_235) (by decide) (by decide) ?_
   refine XS.istore X72.here hx rfl (hb hby at_239) rfl (l' := #[.val (.int p1), .val (.int p2), .val (.int p3), .val (.int p4), .val (.int p5), .val (.int ((p1 &&& (2147483647 : Int32)) % (5 : Int32))), .val (.int (own_pk p2)), .val (.int (own_pk p3)), .val (.int (own_pk p4)), .val (.int (own_pk p5)), .val (.ref b51), .val (.int (1 : Int32))]) rfl ?_
   refine XS.aload X72.here hx rfl (hb hby at_241) rfl rfl ?_
   refine st78 _ ?_
   exact k)
  rcases hd78 with ⟨rfl, hd⟩ | ⟨rfl, hd⟩
  ·have pre80 : ∀ t, Steps p.tables e below (T78.setTop (mkF m 256 #[.val (.int p1), .val (.int p2), .val (.int p3), .val (.int p4), .val (.int p5), .val (.int ((p1 &&& (2147483647 : Int32)) % (5 : Int32))), .val (.int (own_pk p2)), .val (.int (own_pk p3)), .val (.int (own_pk p4)), .val (.int (own_pk p5)), .val (.ref b51), .val (.int (1 : Int32))] [(.int (1 : Int32))])) t → Steps p.tables e below (s₁.setTop (entryFrame m #[(.int p1), (.int p2), (.int p3), (.int p4), (.int p5)] maxLocals)) t := fun t k => pre79 t (by
    show Steps p.tables e below (T78.setTop (mkF m 246 #[.val (.int p1), .val (.int p2), .val (.int p3), .val (.int p4), .val (.int p5), .val (.int ((p1 &&& (2147483647 : Int32)) % (5 : Int32))), .val (.int (own_pk p2)), .val (.int (own_pk p3)), .val (.int (own_pk p4)), .val (.int (own_pk p5)), .val (.ref b51), .val (.int (1 : Int32))] [(.int (1 : Int32))])) _
    refine XS.iload X78.here hx rfl (hb hby at_246) rfl ?_
    refine XS.icmpNo X78.here hx rfl (hb hby at_248) rfl (teq (by decide : (1 : Int32) = (1 : Int32))).2 ?_
    refine XS.iconst X78.here hx rfl (hb hby at_251) ?_
    refine XS.goto X78.here hx rfl (pc0 := 252) (pc' := 256) rfl (hb hby at_252) (by decide) (by decide) ?_
    exact k)
   obtain ⟨fs81, hr81, hrun81, hended81, hE81⟩ := X78.leaveW hS0 (by first | exact K59.1 | (rw [q78]; exact K59.1)) (v := some (.int (1 : Int32))) (fun h => by rw [Bd.returns] at h; cases h)
   refine ⟨_, _, pre80 _ ?_, hrun81, hended81, _, _, rfl, ?_, ?_, hE81.1, hE81.2.1, hE81.2.2.1, hE81.2.2.2.mono (by decide) (by decide)⟩
   ·show Steps p.tables e below (T78.setTop (mkF m 256 #[.val (.int p1), .val (.int p2), .val (.int p3), .val (.int p4), .val (.int p5), .val (.int ((p1 &&& (2147483647 : Int32)) % (5 : Int32))), .val (.int (own_pk p2)), .val (.int (own_pk p3)), .val (.int (own_pk p4)), .val (.int (own_pk p5)), .val (.ref b51), .val (.int (1 : Int32))] [(.int (1 : Int32))])) _
    exact retN X78 hx (t := .boolean) Bd.returns (by simp) (hb hby at_256) hr81
   ·show Q0 Z p1 p2 p3 p4 p5 h0 n0 _ T78.heap _
    rw [q78]
    exact ⟨rfl, N78⟩
   ·show CHr Z own_EL s.vm s.heap T78.vm T78.heap
    rw [q78]
    rw [hh]
    exact (CHr.ext (own_ext K59) hCH).trans (CHv.at X78 hZ0 hEL (CHv.ext (own_ext K59) hCH))
  ·have e1 : ¬ ((own_pk p2) = 36 ∨ (own_pk p3) = 36 ∨ (own_pk p4) = 36) := fun q => by
    rcases q with q | q | q
    ·exact (own_pl1 hc189).1 q
    ·exact (own_pl1 hc203).1 q
    ·exact (own_pl1 hc217).1 q
   have e2 : ¬ ((own_pk p2) = 92 ∨ (own_pk p3) = 92 ∨ (own_pk p4) = 92) := fun q => by
    rcases q with q | q | q
    ·exact (own_pl1 hc189).2 q
    ·exact (own_pl1 hc203).2 q
    ·exact (own_pl1 hc217).2 q
   exact absurd ⟨e1, e2⟩ hd
 ·obtain ⟨T82, h82, X82, e82, E82, A82, D82, -, st82⟩ := newO X4 hx hZ0 ho0 (wd6 hw) (wd7 hw) (wd8 hw) q4 (g := (mkF m 146 #[.val (.int p1), .val (.int p2), .val (.int p3), .val (.int p4), .val (.int p5), .val (.int ((p1 &&& (2147483647 : Int32)) % (5 : Int32))), .val (.int (own_pk p2)), .val (.int (own_pk p3)), .val (.int (own_pk p4)), .val (.int (own_pk p5)), .unset, .unset] [])) rfl (hb hby at_146) (by decide) (by decide)
  obtain ⟨b82, gb82⟩ : ∃ z, z = h0.size := ⟨_, rfl⟩
  rw [← gb82] at A82 D82 st82
  have gn82 : n0 ≤ b82 := Nat.le_trans Z0 (Nat.le_of_eq gb82.symm)
  have sz82_b : h0.size ≤ b82 := Nat.le_trans (Keep.refl h0 []).1 (Nat.le_of_eq gb82.symm)
  have EN_82 := EN.ext E82
  have K82 := (Keep.refl h0 []).ext E82
  have F_value_b82 : Fld Z h82 b82 "java/lang/String" "value" "[B" .null := D82 (Or.inr (wd22 hw)) (ty := (.array .byte)) (by decide)
  have F_coder_b82 : Fld Z h82 b82 "java/lang/String" "coder" "B" (.int (0 : Int32)) := D82 (Or.inr (wd23 hw)) (ty := .byte) (by decide)
  obtain ⟨T83, h83, k83, X83, e83, E83, A83, st83⟩ := newP (aty := .char) X82 hx hZ0 (wd9 hw) e82 (g := (mkF m 151 #[.val (.int p1), .val (.int p2), .val (.int p3), .val (.int p4), .val (.int p5), .val (.int ((p1 &&& (2147483647 : Int32)) % (5 : Int32))), .val (.int (own_pk p2)), .val (.int (own_pk p3)), .val (.int (own_pk p4)), .val (.int (own_pk p5)), .unset, .unset] [(.int (4 : Int32)), (.ref b82), (.ref b82)])) rfl (hb hby at_151) rfl (by decide) (cap := 4) (by decide) (by decide) (by decide) (by decide)
  obtain ⟨b83, gb83⟩ : ∃ z, z = h82.size := ⟨_, rfl⟩
  rw [← gb83] at A83 st83
  have gn83 : n0 ≤ b83 := Nat.le_trans (Nat.le_trans Z0 E82.1) (Nat.le_of_eq gb83.symm)
  have sz83_b : h0.size ≤ b83 := Nat.le_trans K82.1 (Nat.le_of_eq gb83.symm)
  have ne_b82_b83 : b82 ≠ b83 := Nat.ne_of_lt (Nat.lt_of_lt_of_le A82.lt (Nat.le_of_eq gb83.symm))
  have EN_83 := EN_82.ext E83
  have A82_83 := A82.ext E83
  have F_value_b82_83 := F_value_b82.ext E83
  have F_coder_b82_83 := F_coder_b82.ext E83
  have K83 := K82.ext E83
  have V83 : Arv Z h83 b83 k83 .char (4 : Int32) [(.int (0 : Int32)), (.int (0 : Int32)), (.int (0 : Int32)), (.int (0 : Int32))] (.int (0 : Int32)) := (Arv.new A83 (by decide)).pad (pad_rep [] (.int (0 : Int32)) 4)
  have Vc84 := V83
  obtain ⟨cl84, Ar84, qq84, sz84, nn84, Ha84, Gf84⟩ := Vc84
  have hin84 : ¬ ((0 : Int32) < 0 ∨ cl84.slots.size ≤ ((0 : Int32)).toNatClampNeg) := inb_of sz84 ⟨by decide, by decide⟩
  obtain ⟨T85, h85, X85, e85, W85, st85⟩ := stC X83 hx hZ0 e83 Ar84 (j := (0 : Int32)) hin84 (g := (mkF m 157 #[.val (.int p1), .val (.int p2), .val (.int p3), .val (.int p4), .val (.int p5), .val (.int ((p1 &&& (2147483647 : Int32)) % (5 : Int32))), .val (.int (own_pk p2)), .val (.int (own_pk p3)), .val (.int (own_pk p4)), .val (.int (own_pk p5)), .unset, .unset] [(.int (own_pk p2)), (.int (0 : Int32)), (.ref b83), (.ref b83), (.ref b82), (.ref b82)])) rfl rfl (hb hby at_157)
  have N85 := Fr.snoc X85 N4 gn83
  have EN_85 := EN_83.wr W85 trivial
  have A82_85 := A82_83.wr W85
  have F_value_b82_85 := F_value_b82_83.other W85 (Or.inl ne_b82_b83)
  have F_coder_b82_85 := F_coder_b82_83.other W85 (Or.inl ne_b82_b83)
  have V83_85 := Arv.set Ar84 qq84 sz84 nn84 Ha84 Gf84 (fits_nar_char _) W85 0 rfl (Nat.le_of_ble_eq_true rfl)
  have K85 := K83.wr W85 (Or.inr sz83_b)
  have Vc86 := V83_85
  obtain ⟨cl86, Ar86, qq86, sz86, nn86, Ha86, Gf86⟩ := Vc86
  have hin86 : ¬ ((1 : Int32) < 0 ∨ cl86.slots.size ≤ ((1 : Int32)).toNatClampNeg) := inb_of sz86 ⟨by decide, by decide⟩
  obtain ⟨T87, h87, X87, e87, W87, st87⟩ := stC X85 hx hZ0 e85 Ar86 (j := (1 : Int32)) hin86 (g := (mkF m 162 #[.val (.int p1), .val (.int p2), .val (.int p3), .val (.int p4), .val (.int p5), .val (.int ((p1 &&& (2147483647 : Int32)) % (5 : Int32))), .val (.int (own_pk p2)), .val (.int (own_pk p3)), .val (.int (own_pk p4)), .val (.int (own_pk p5)), .unset, .unset] [(.int (own_pk p3)), (.int (1 : Int32)), (.ref b83), (.ref b83), (.ref b82), (.ref b82)])) rfl rfl (hb hby at_162)
  have N87 := Fr.snoc X87 N85 gn83
  have EN_87 := EN_85.wr W87 trivial
  have A82_87 := A82_85.wr W87
  have F_value_b82_87 := F_value_b82_85.other W87 (Or.inl ne_b82_b83)
  have F_coder_b82_87 := F_coder_b82_85.other W87 (Or.inl ne_b82_b83)
  have V83_87 := Arv.set Ar86 qq86 sz86 nn86 Ha86 Gf86 (fits_nar_char _) W87 1 rfl (Nat.le_of_ble_eq_true rfl)
  have K87 := K85.wr W87 (Or.inr sz83_b)
  have Vc88 := V83_87
  obtain ⟨cl88, Ar88, qq88, sz88, nn88, Ha88, Gf88⟩ := Vc88
  have hin88 : ¬ ((2 : Int32) < 0 ∨ cl88.slots.size ≤ ((2 : Int32)).toNatClampNeg) := inb_of sz88 ⟨by decide, by decide⟩
  obtain ⟨T89, h89, X89, e89, W89, st89⟩ := stC X87 hx hZ0 e87 Ar88 (j := (2 : Int32)) hin88 (g := (mkF m 167 #[.val (.int p1), .val (.int p2), .val (.int p3), .val (.int p4), .val (.int p5), .val (.int ((p1 &&& (2147483647 : Int32)) % (5 : Int32))), .val (.int (own_pk p2)), .val (.int (own_pk p3)), .val (.int (own_pk p4)), .val (.int (own_pk p5)), .unset, .unset] [(.int (own_pk p4)), (.int (2 : Int32)), (.ref b83), (.ref b83), (.ref b82), (.ref b82)])) rfl rfl (hb hby at_167)
  have N89 := Fr.snoc X89 N87 gn83
  have EN_89 := EN_87.wr W89 trivial
  have A82_89 := A82_87.wr W89
  have F_value_b82_89 := F_value_b82_87.other W89 (Or.inl ne_b82_b83)
  have F_coder_b82_89 := F_coder_b82_87.other W89 (Or.inl ne_b82_b83)
  have V83_89 := Arv.set Ar88 qq88 sz88 nn88 Ha88 Gf88 (fits_nar_char _) W89 2 rfl (Nat.le_of_ble_eq_true rfl)
  have K89 := K87.wr W89 (Or.inr sz83_b)
  have Vc90 := V83_89
  obtain ⟨cl90, Ar90, qq90, sz90, nn90, Ha90, Gf90⟩ := Vc90
  have hin90 : ¬ ((3 : Int32) < 0 ∨ cl90.slots.size ≤ ((3 : Int32)).toNatClampNeg) := inb_of sz90 ⟨by decide, by decide⟩
  obtain ⟨T91, h91, X91, e91, W91, st91⟩ := stC X89 hx hZ0 e89 Ar90 (j := (3 : Int32)) hin90 (g := (mkF m 172 #[.val (.int p1), .val (.int p2), .val (.int p3), .val (.int p4), .val (.int p5), .val (.int ((p1 &&& (2147483647 : Int32)) % (5 : Int32))), .val (.int (own_pk p2)), .val (.int (own_pk p3)), .val (.int (own_pk p4)), .val (.int (own_pk p5)), .unset, .unset] [(.int (own_pk p5)), (.int (3 : Int32)), (.ref b83), (.ref b83), (.ref b82), (.ref b82)])) rfl rfl (hb hby at_172)
  have N91 := Fr.snoc X91 N89 gn83
  have EN_91 := EN_89.wr W91 trivial
  have A82_91 := A82_89.wr W91
  have F_value_b82_91 := F_value_b82_89.other W91 (Or.inl ne_b82_b83)
  have F_coder_b82_91 := F_coder_b82_89.other W91 (Or.inl ne_b82_b83)
  have V83_91 := Arv.set Ar90 qq90 sz90 nn90 Ha90 Gf90 (fits_nar_char _) W91 3 rfl (Nat.le_of_ble_eq_true rfl)
  have K91 := K89.wr W91 (Or.inr sz83_b)
  have Kc : Arv Z h91 b83 k83 .char (4 : Int32) ([nar .char (own_pk p2), nar .char (own_pk p3), nar .char (own_pk p4), nar .char (own_pk p5)].map Value.int) (.int 0) := V83_91
  rw [own_nar (own_pkb p2), own_nar (own_pkb p3), own_nar (own_pkb p4), own_nar (own_pkb p5)] at Kc
  obtain ⟨_, _, ⟨T92, L92, k92, n92⟩, -, X92, ⟨Lc92, hQ92, l92, y92, z92⟩, st92⟩ := X91.specialBack hx (y := own_z19) rfl ho0 (mvT hZ0 (wd10 hw)) (mvT hZ0 (wd11 hw)) (mvT hZ0 (wd12 hw)) (by decide) (backOf (W := 1) (rmw14 l Z a0 hw [] b82 b83 k83 (own_pk p2) (own_pk p3) (own_pk p4) (own_pk p5) h91 n0 (Nat.le_trans (Nat.le_trans (Nat.le_trans (Nat.le_trans (Nat.le_trans (Nat.le_trans Z0 E82.1) E83.1) (Nat.le_of_eq W85.size.symm)) (Nat.le_of_eq W87.size.symm)) (Nat.le_of_eq W89.size.symm)) (Nat.le_of_eq W91.size.symm)) F_value_b82_91 F_coder_b82_91 A82_91 gn82 Kc EN_91 (own_pkb p2) (own_pkb p3) (own_pkb p4) (own_pkb p5)) hZ0 (wd12 hw) (wd8 hw) (by decide) (by decide)) (g := (mkF m 173 #[.val (.int p1), .val (.int p2), .val (.int p3), .val (.int p4), .val (.int p5), .val (.int ((p1 &&& (2147483647 : Int32)) % (5 : Int32))), .val (.int (own_pk p2)), .val (.int (own_pk p3)), .val (.int (own_pk p4)), .val (.int (own_pk p5)), .unset, .unset] [(.ref b83), (.ref b82), (.ref b82)])) rfl (by rw [hml]; rfl) (Steps.refl _) (a := b82) (argsL := [(.ref b83)]) (rest := [(.ref b82)]) (lenOf pd_w11 rfl) rfl (by show 2 * 0 + _ ≤ _; exact Nat.le_of_eq rfl) (hb hby at_173) (fun _ _ => ⟨rfl, e91, (by decide : 2 + 2 ≤ _), (by decide : 8 + 12 ≤ _)⟩)
  dsimp only [Pt.U, Pt.locs, Pt.cells, Pt.slots] at X92 l92 y92 z92 st92 hQ92
  subst l92 y92 z92
  obtain ⟨rfl, N92q, Kp92, cd92, S92⟩ := hQ92
  have N92 := Fr.app N91 N92q
  have EN_92 := EN_91.keep Kp92 A82_91.nostat
  have K92 := K91.trans Kp92 (fun x hx => by cases List.mem_singleton.mp hx; exact Or.inr sz82_b)
  have Y36 := own_y4 l Z a0 hw b82 (own_pk p2) (own_pk p3) (own_pk p4) (own_pk p5) cd92 36 T92.heap n0 (Nat.le_trans (Nat.le_trans (Nat.le_trans (Nat.le_trans (Nat.le_trans (Nat.le_trans (Nat.le_trans Z0 E82.1) E83.1) (Nat.le_of_eq W85.size.symm)) (Nat.le_of_eq W87.size.symm)) (Nat.le_of_eq W89.size.symm)) (Nat.le_of_eq W91.size.symm)) Kp92.1) S92 EN_92 (own_pkb p2) (own_pkb p3) (own_pkb p4) (own_pkb p5) ⟨by decide, by decide⟩
  have Y92 := own_y4 l Z a0 hw b82 (own_pk p2) (own_pk p3) (own_pk p4) (own_pk p5) cd92 92 T92.heap n0 (Nat.le_trans (Nat.le_trans (Nat.le_trans (Nat.le_trans (Nat.le_trans (Nat.le_trans (Nat.le_trans Z0 E82.1) E83.1) (Nat.le_of_eq W85.size.symm)) (Nat.le_of_eq W87.size.symm)) (Nat.le_of_eq W89.size.symm)) (Nat.le_of_eq W91.size.symm)) Kp92.1) S92 EN_92 (own_pkb p2) (own_pkb p3) (own_pkb p4) (own_pkb p5) ⟨by decide, by decide⟩
  obtain ⟨t9, kb9, N9, vs9, Ex9, -⟩ := S92
  obtain ⟨_, _, ⟨T93, L93, k93, n93⟩, -, X93, ⟨Lc93, hQ93, l93, y93, z93⟩, st93⟩ := Jvm.LawKit.callS X92 hx (y := own_z1) ho0 (mvT hZ0 (wd82 hw)) (mvT hZ0 (wd83 hw)) (mvT hZ0 (wd3 hw)) (mvT hZ0 (wd84 hw)) (by decide) (backOf (W := 0) (rmpl l Z a0 hw [] (own_pk p2) T92.heap n0 (Nat.le_trans (Nat.le_trans (Nat.le_trans (Nat.le_trans (Nat.le_trans (Nat.le_trans (Nat.le_trans Z0 E82.1) E83.1) (Nat.le_of_eq W85.size.symm)) (Nat.le_of_eq W87.size.symm)) (Nat.le_of_eq W89.size.symm)) (Nat.le_of_eq W91.size.symm)) Kp92.1)) hZ0 (wd84 hw) (wd3 hw) (by decide) (by decide)) (g := (mkF m 186 #[.val (.int p1), .val (.int p2), .val (.int p3), .val (.int p4), .val (.int p5), .val (.int ((p1 &&& (2147483647 : Int32)) % (5 : Int32))), .val (.int (own_pk p2)), .val (.int (own_pk p3)), .val (.int (own_pk p4)), .val (.int (own_pk p5)), .val (.ref b82), .unset] [(.int (own_pk p2))])) rfl (by rw [hml]; rfl) (argsL := [(.int (own_pk p2))]) (rest := []) (lenOf pd_pl rfl) rfl (by show 2 * 0 + _ ≤ _; exact Nat.le_of_eq rfl) (hb hby at_186) (fun _ _ => ⟨rfl, rfl, (by decide : 4 + 0 ≤ _), (by decide : 20 + 0 ≤ _)⟩)
  dsimp only [Pt.U, Pt.locs, Pt.cells, Pt.slots] at X93 l93 y93 z93 st93 hQ93
  subst l93 y93 z93
  obtain ⟨rfl, N93q, q93⟩ := hQ93
  have N93 := Fr.app N92 N93q
  have pre94 : ∀ t, Steps p.tables e below (T93.setTop (mkF m 189 #[.val (.int p1), .val (.int p2), .val (.int p3), .val (.int p4), .val (.int p5), .val (.int ((p1 &&& (2147483647 : Int32)) % (5 : Int32))), .val (.int (own_pk p2)), .val (.int (own_pk p3)), .val (.int (own_pk p4)), .val (.int (own_pk p5)), .val (.ref b82), .unset] [(.int (own_pl (own_pk p2)))])) t → Steps p.tables e below (s₁.setTop (entryFrame m #[(.int p1), (.int p2), (.int p3), (.int p4), (.int p5)] maxLocals)) t := fun t k => pre5 t (by
   show Steps p.tables e below (T4.setTop (mkF m 33 #[.val (.int p1), .val (.int p2), .val (.int p3), .val (.int p4), .val (.int p5), .val (.int ((p1 &&& (2147483647 : Int32)) % (5 : Int32))), .val (.int (own_pk p2)), .val (.int (own_pk p3)), .val (.int (own_pk p4)), .val (.int (own_pk p5)), .unset, .unset] [])) _
   refine XS.iload X4.here hx rfl (hb hby at_33) rfl ?_
   refine XS.ifYes X4.here hx rfl (pc0 := 35) (pc' := 53) rfl (hb hby at_35) rfl ((if0 _ _).trans (feq (by rw [hn]; decide)).2) (by decide) (by decide) ?_
   refine XS.iload X4.here hx rfl (hb hby at_53) rfl ?_
   refine XS.iconst X4.here hx rfl (hb hby at_55) ?_
   refine XS.icmpYes X4.here hx rfl (pc0 := 56) (pc' := 79) rfl (hb hby at_56) rfl (feq (by rw [hn]; decide)).2 (by decide) (by decide) ?_
   refine XS.iload X4.here hx rfl (hb hby at_79) rfl ?_
   refine XS.iconst X4.here hx rfl (hb hby at_81) ?_
   refine XS.icmpYes X4.here hx rfl (pc0 := 82) (pc' := 110) rfl (hb hby at_82) rfl (feq (by rw [hn]; decide)).2 (by decide) (by decide) ?_
   refine XS.iload X4.here hx rfl (hb hby at_110) rfl ?_
   refine XS.iconst X4.here hx rfl (hb hby at_112) ?_
   refine XS.icmpYes X4.here hx rfl (pc0 := 113) (pc' := 146) rfl (hb hby at_113) rfl (feq (by rw [hn]; decide)).2 (by decide) (by decide) ?_
   refine st82 _ ?_
   refine XS.dup X82.here hx rfl (hb hby at_149) rfl rfl ?_
   refine XS.iconst X82.here hx rfl (hb hby at_150) ?_
   refine st83 _ ?_
   refine XS.dup X83.here hx rfl (hb hby at_153) rfl rfl ?_
   refine XS.iconst X83.here hx rfl (hb hby at_154) ?_
   refine XS.iload X83.here hx rfl (hb hby at_155) rfl ?_
   refine st85 _ ?_
   refine XS.dup X85.here hx rfl (hb hby at_158) rfl rfl ?_
   refine XS.iconst X85.here hx rfl (hb hby at_159) ?_
   refine XS.iload X85.here hx rfl (hb hby at_160) rfl ?_
   refine st87 _ ?_
   refine XS.dup X87.here hx rfl (hb hby at_163) rfl rfl ?_
   refine XS.iconst X87.here hx rfl (hb hby at_164) ?_
   refine XS.iload X87.here hx rfl (hb hby at_165) rfl ?_
   refine st89 _ ?_
   refine XS.dup X89.here hx rfl (hb hby at_168) rfl rfl ?_
   refine XS.iconst X89.here hx rfl (hb hby at_169) ?_
   refine XS.iload X89.here hx rfl (hb hby at_170) rfl ?_
   refine st91 _ ?_
   refine st92.trans ?_
   refine XS.astore X92.here hx rfl (hb hby at_176) rfl rfl (l' := #[.val (.int p1), .val (.int p2), .val (.int p3), .val (.int p4), .val (.int p5), .val (.int ((p1 &&& (2147483647 : Int32)) % (5 : Int32))), .val (.int (own_pk p2)), .val (.int (own_pk p3)), .val (.int (own_pk p4)), .val (.int (own_pk p5)), .val (.ref b82), .unset]) rfl ?_
   refine XS.iload X92.here hx rfl (hb hby at_178) rfl ?_
   refine XS.iconst X92.here hx rfl (hb hby at_180) ?_
   refine XS.icmpNo X92.here hx rfl (hb hby at_181) rfl (flt (by rw [hn]; decide)).1 ?_
   refine XS.iload X92.here hx rfl (hb hby at_184) rfl ?_
   refine st93 _ ?_
   exact k)
  by_cases hc189 : (own_pl (own_pk p2)) = (0 : Int32)
  ·obtain ⟨_, _, ⟨T95, L95, k95, n95⟩, -, X95, ⟨Lc95, hQ95, l95, y95, z95⟩, st95⟩ := Jvm.LawKit.callS X93 hx (y := own_z28) ho0 (mvT hZ0 (wd28 hw)) (mvT hZ0 (wd29 hw)) (mvT hZ0 (wd30 hw)) (mvT hZ0 (wd31 hw)) (by decide) (backOf (W := 0) (rmtg l Z a0 hw [] b82 _ _ T92.heap n0 (Nat.le_trans (Nat.le_trans (Nat.le_trans (Nat.le_trans (Nat.le_trans (Nat.le_trans (Nat.le_trans Z0 E82.1) E83.1) (Nat.le_of_eq W85.size.symm)) (Nat.le_of_eq W87.size.symm)) (Nat.le_of_eq W89.size.symm)) (Nat.le_of_eq W91.size.symm)) Kp92.1) Ex9 Y36 Y92) hZ0 (wd31 hw) (wd30 hw) (by decide) (by decide)) (g := (mkF m 243 #[.val (.int p1), .val (.int p2), .val (.int p3), .val (.int p4), .val (.int p5), .val (.int ((p1 &&& (2147483647 : Int32)) % (5 : Int32))), .val (.int (own_pk p2)), .val (.int (own_pk p3)), .val (.int (own_pk p4)), .val (.int (own_pk p5)), .val (.ref b82), .val (.int (0 : Int32))] [(.ref b82)])) rfl (by rw [hml]; rfl) (argsL := [(.ref b82)]) (rest := []) (lenOf pd_tg rfl) rfl (by show 2 * 0 + _ ≤ _; exact Nat.le_of_eq rfl) (hb hby at_243) (fun _ _ => ⟨rfl, q93, (by decide : 4 + 0 ≤ _), (by decide : 20 + 0 ≤ _)⟩)
   dsimp only [Pt.U, Pt.locs, Pt.cells, Pt.slots] at X95 l95 y95 z95 st95 hQ95
   subst l95 y95 z95
   obtain ⟨t95, rfl, N95q, q95, hd95⟩ := hQ95
   have N95 := Fr.app N93 N95q
   have pre96 : ∀ t, Steps p.tables e below (T95.setTop (mkF m 246 #[.val (.int p1), .val (.int p2), .val (.int p3), .val (.int p4), .val (.int p5), .val (.int ((p1 &&& (2147483647 : Int32)) % (5 : Int32))), .val (.int (own_pk p2)), .val (.int (own_pk p3)), .val (.int (own_pk p4)), .val (.int (own_pk p5)), .val (.ref b82), .val (.int (0 : Int32))] [(.int t95)])) t → Steps p.tables e below (s₁.setTop (entryFrame m #[(.int p1), (.int p2), (.int p3), (.int p4), (.int p5)] maxLocals)) t := fun t k => pre94 t (by
    show Steps p.tables e below (T93.setTop (mkF m 189 #[.val (.int p1), .val (.int p2), .val (.int p3), .val (.int p4), .val (.int p5), .val (.int ((p1 &&& (2147483647 : Int32)) % (5 : Int32))), .val (.int (own_pk p2)), .val (.int (own_pk p3)), .val (.int (own_pk p4)), .val (.int (own_pk p5)), .val (.ref b82), .unset] [(.int (own_pl (own_pk p2)))])) _
    refine XS.ifYes X93.here hx rfl (pc0 := 189) (pc' := 238) rfl (hb hby at_189) rfl ((if0 _ _).trans (teq hc189).1) (by decide) (by decide) ?_
    refine XS.iconst X93.here hx rfl (hb hby at_238) ?_
    refine XS.istore X93.here hx rfl (hb hby at_239) rfl (l' := #[.val (.int p1), .val (.int p2), .val (.int p3), .val (.int p4), .val (.int p5), .val (.int ((p1 &&& (2147483647 : Int32)) % (5 : Int32))), .val (.int (own_pk p2)), .val (.int (own_pk p3)), .val (.int (own_pk p4)), .val (.int (own_pk p5)), .val (.ref b82), .val (.int (0 : Int32))]) rfl ?_
    refine XS.aload X93.here hx rfl (hb hby at_241) rfl rfl ?_
    refine st95 _ ?_
    exact k)
   rcases hd95 with ⟨rfl, hd⟩ | ⟨rfl, hd⟩
   ·rcases own_pl0 hc189 with q | q
    ·exact absurd (Or.inl q) hd.1
    ·exact absurd (Or.inl q) hd.2
   ·have pre97 : ∀ t, Steps p.tables e below (T95.setTop (mkF m 256 #[.val (.int p1), .val (.int p2), .val (.int p3), .val (.int p4), .val (.int p5), .val (.int ((p1 &&& (2147483647 : Int32)) % (5 : Int32))), .val (.int (own_pk p2)), .val (.int (own_pk p3)), .val (.int (own_pk p4)), .val (.int (own_pk p5)), .val (.ref b82), .val (.int (0 : Int32))] [(.int (1 : Int32))])) t → Steps p.tables e below (s₁.setTop (entryFrame m #[(.int p1), (.int p2), (.int p3), (.int p4), (.int p5)] maxLocals)) t := fun t k => pre96 t (by
     show Steps p.tables e below (T95.setTop (mkF m 246 #[.val (.int p1), .val (.int p2), .val (.int p3), .val (.int p4), .val (.int p5), .val (.int ((p1 &&& (2147483647 : Int32)) % (5 : Int32))), .val (.int (own_pk p2)), .val (.int (own_pk p3)), .val (.int (own_pk p4)), .val (.int (own_pk p5)), .val (.ref b82), .val (.int (0 : Int32))] [(.int (0 : Int32))])) _
     refine XS.iload X95.here hx rfl (hb hby at_246) rfl ?_
     refine XS.icmpNo X95.here hx rfl (hb hby at_248) rfl (teq (by decide : (0 : Int32) = (0 : Int32))).2 ?_
     refine XS.iconst X95.here hx rfl (hb hby at_251) ?_
     refine XS.goto X95.here hx rfl (pc0 := 252) (pc' := 256) rfl (hb hby at_252) (by decide) (by decide) ?_
     exact k)
    obtain ⟨fs98, hr98, hrun98, hended98, hE98⟩ := X95.leaveW hS0 (by first | exact K92.1 | (rw [q95]; exact K92.1)) (v := some (.int (1 : Int32))) (fun h => by rw [Bd.returns] at h; cases h)
    refine ⟨_, _, pre97 _ ?_, hrun98, hended98, _, _, rfl, ?_, ?_, hE98.1, hE98.2.1, hE98.2.2.1, hE98.2.2.2.mono (by decide) (by decide)⟩
    ·show Steps p.tables e below (T95.setTop (mkF m 256 #[.val (.int p1), .val (.int p2), .val (.int p3), .val (.int p4), .val (.int p5), .val (.int ((p1 &&& (2147483647 : Int32)) % (5 : Int32))), .val (.int (own_pk p2)), .val (.int (own_pk p3)), .val (.int (own_pk p4)), .val (.int (own_pk p5)), .val (.ref b82), .val (.int (0 : Int32))] [(.int (1 : Int32))])) _
     exact retN X95 hx (t := .boolean) Bd.returns (by simp) (hb hby at_256) hr98
    ·show Q0 Z p1 p2 p3 p4 p5 h0 n0 _ T95.heap _
     rw [q95]
     exact ⟨rfl, N95⟩
    ·show CHr Z own_EL s.vm s.heap T95.vm T95.heap
     rw [q95]
     rw [hh]
     exact (CHr.ext (own_ext K92) hCH).trans (CHv.at X95 hZ0 hEL (CHv.ext (own_ext K92) hCH))
  obtain ⟨_, _, ⟨T99, L99, k99, n99⟩, -, X99, ⟨Lc99, hQ99, l99, y99, z99⟩, st99⟩ := Jvm.LawKit.callS X93 hx (y := own_z1) ho0 (mvT hZ0 (wd82 hw)) (mvT hZ0 (wd83 hw)) (mvT hZ0 (wd3 hw)) (mvT hZ0 (wd84 hw)) (by decide) (backOf (W := 0) (rmpl l Z a0 hw [] (own_pk p3) T92.heap n0 (Nat.le_trans (Nat.le_trans (Nat.le_trans (Nat.le_trans (Nat.le_trans (Nat.le_trans (Nat.le_trans Z0 E82.1) E83.1) (Nat.le_of_eq W85.size.symm)) (Nat.le_of_eq W87.size.symm)) (Nat.le_of_eq W89.size.symm)) (Nat.le_of_eq W91.size.symm)) Kp92.1)) hZ0 (wd84 hw) (wd3 hw) (by decide) (by decide)) (g := (mkF m 200 #[.val (.int p1), .val (.int p2), .val (.int p3), .val (.int p4), .val (.int p5), .val (.int ((p1 &&& (2147483647 : Int32)) % (5 : Int32))), .val (.int (own_pk p2)), .val (.int (own_pk p3)), .val (.int (own_pk p4)), .val (.int (own_pk p5)), .val (.ref b82), .unset] [(.int (own_pk p3))])) rfl (by rw [hml]; rfl) (argsL := [(.int (own_pk p3))]) (rest := []) (lenOf pd_pl rfl) rfl (by show 2 * 0 + _ ≤ _; exact Nat.le_of_eq rfl) (hb hby at_200) (fun _ _ => ⟨rfl, q93, (by decide : 4 + 0 ≤ _), (by decide : 20 + 0 ≤ _)⟩)
  dsimp only [Pt.U, Pt.locs, Pt.cells, Pt.slots] at X99 l99 y99 z99 st99 hQ99
  subst l99 y99 z99
  obtain ⟨rfl, N99q, q99⟩ := hQ99
  have N99 := Fr.app N93 N99q
  have pre100 : ∀ t, Steps p.tables e below (T99.setTop (mkF m 203 #[.val (.int p1), .val (.int p2), .val (.int p3), .val (.int p4), .val (.int p5), .val (.int ((p1 &&& (2147483647 : Int32)) % (5 : Int32))), .val (.int (own_pk p2)), .val (.int (own_pk p3)), .val (.int (own_pk p4)), .val (.int (own_pk p5)), .val (.ref b82), .unset] [(.int (own_pl (own_pk p3)))])) t → Steps p.tables e below (s₁.setTop (entryFrame m #[(.int p1), (.int p2), (.int p3), (.int p4), (.int p5)] maxLocals)) t := fun t k => pre94 t (by
   show Steps p.tables e below (T93.setTop (mkF m 189 #[.val (.int p1), .val (.int p2), .val (.int p3), .val (.int p4), .val (.int p5), .val (.int ((p1 &&& (2147483647 : Int32)) % (5 : Int32))), .val (.int (own_pk p2)), .val (.int (own_pk p3)), .val (.int (own_pk p4)), .val (.int (own_pk p5)), .val (.ref b82), .unset] [(.int (own_pl (own_pk p2)))])) _
   refine XS.ifNo X93.here hx rfl (hb hby at_189) rfl ((if0 _ _).trans (feq hc189).1) ?_
   refine XS.iload X93.here hx rfl (hb hby at_192) rfl ?_
   refine XS.iconst X93.here hx rfl (hb hby at_194) ?_
   refine XS.icmpNo X93.here hx rfl (hb hby at_195) rfl (flt (by rw [hn]; decide)).1 ?_
   refine XS.iload X93.here hx rfl (hb hby at_198) rfl ?_
   refine st99 _ ?_
   exact k)
  by_cases hc203 : (own_pl (own_pk p3)) = (0 : Int32)
  ·obtain ⟨_, _, ⟨T101, L101, k101, n101⟩, -, X101, ⟨Lc101, hQ101, l101, y101, z101⟩, st101⟩ := Jvm.LawKit.callS X99 hx (y := own_z28) ho0 (mvT hZ0 (wd28 hw)) (mvT hZ0 (wd29 hw)) (mvT hZ0 (wd30 hw)) (mvT hZ0 (wd31 hw)) (by decide) (backOf (W := 0) (rmtg l Z a0 hw [] b82 _ _ T92.heap n0 (Nat.le_trans (Nat.le_trans (Nat.le_trans (Nat.le_trans (Nat.le_trans (Nat.le_trans (Nat.le_trans Z0 E82.1) E83.1) (Nat.le_of_eq W85.size.symm)) (Nat.le_of_eq W87.size.symm)) (Nat.le_of_eq W89.size.symm)) (Nat.le_of_eq W91.size.symm)) Kp92.1) Ex9 Y36 Y92) hZ0 (wd31 hw) (wd30 hw) (by decide) (by decide)) (g := (mkF m 243 #[.val (.int p1), .val (.int p2), .val (.int p3), .val (.int p4), .val (.int p5), .val (.int ((p1 &&& (2147483647 : Int32)) % (5 : Int32))), .val (.int (own_pk p2)), .val (.int (own_pk p3)), .val (.int (own_pk p4)), .val (.int (own_pk p5)), .val (.ref b82), .val (.int (0 : Int32))] [(.ref b82)])) rfl (by rw [hml]; rfl) (argsL := [(.ref b82)]) (rest := []) (lenOf pd_tg rfl) rfl (by show 2 * 0 + _ ≤ _; exact Nat.le_of_eq rfl) (hb hby at_243) (fun _ _ => ⟨rfl, q99, (by decide : 4 + 0 ≤ _), (by decide : 20 + 0 ≤ _)⟩)
   dsimp only [Pt.U, Pt.locs, Pt.cells, Pt.slots] at X101 l101 y101 z101 st101 hQ101
   subst l101 y101 z101
   obtain ⟨t101, rfl, N101q, q101, hd101⟩ := hQ101
   have N101 := Fr.app N99 N101q
   have pre102 : ∀ t, Steps p.tables e below (T101.setTop (mkF m 246 #[.val (.int p1), .val (.int p2), .val (.int p3), .val (.int p4), .val (.int p5), .val (.int ((p1 &&& (2147483647 : Int32)) % (5 : Int32))), .val (.int (own_pk p2)), .val (.int (own_pk p3)), .val (.int (own_pk p4)), .val (.int (own_pk p5)), .val (.ref b82), .val (.int (0 : Int32))] [(.int t101)])) t → Steps p.tables e below (s₁.setTop (entryFrame m #[(.int p1), (.int p2), (.int p3), (.int p4), (.int p5)] maxLocals)) t := fun t k => pre100 t (by
    show Steps p.tables e below (T99.setTop (mkF m 203 #[.val (.int p1), .val (.int p2), .val (.int p3), .val (.int p4), .val (.int p5), .val (.int ((p1 &&& (2147483647 : Int32)) % (5 : Int32))), .val (.int (own_pk p2)), .val (.int (own_pk p3)), .val (.int (own_pk p4)), .val (.int (own_pk p5)), .val (.ref b82), .unset] [(.int (own_pl (own_pk p3)))])) _
    refine XS.ifYes X99.here hx rfl (pc0 := 203) (pc' := 238) rfl (hb hby at_203) rfl ((if0 _ _).trans (teq hc203).1) (by decide) (by decide) ?_
    refine XS.iconst X99.here hx rfl (hb hby at_238) ?_
    refine XS.istore X99.here hx rfl (hb hby at_239) rfl (l' := #[.val (.int p1), .val (.int p2), .val (.int p3), .val (.int p4), .val (.int p5), .val (.int ((p1 &&& (2147483647 : Int32)) % (5 : Int32))), .val (.int (own_pk p2)), .val (.int (own_pk p3)), .val (.int (own_pk p4)), .val (.int (own_pk p5)), .val (.ref b82), .val (.int (0 : Int32))]) rfl ?_
    refine XS.aload X99.here hx rfl (hb hby at_241) rfl rfl ?_
    refine st101 _ ?_
    exact k)
   rcases hd101 with ⟨rfl, hd⟩ | ⟨rfl, hd⟩
   ·rcases own_pl0 hc203 with q | q
    ·exact absurd (Or.inr ((Or.inl q))) hd.1
    ·exact absurd (Or.inr ((Or.inl q))) hd.2
   ·have pre103 : ∀ t, Steps p.tables e below (T101.setTop (mkF m 256 #[.val (.int p1), .val (.int p2), .val (.int p3), .val (.int p4), .val (.int p5), .val (.int ((p1 &&& (2147483647 : Int32)) % (5 : Int32))), .val (.int (own_pk p2)), .val (.int (own_pk p3)), .val (.int (own_pk p4)), .val (.int (own_pk p5)), .val (.ref b82), .val (.int (0 : Int32))] [(.int (1 : Int32))])) t → Steps p.tables e below (s₁.setTop (entryFrame m #[(.int p1), (.int p2), (.int p3), (.int p4), (.int p5)] maxLocals)) t := fun t k => pre102 t (by
     show Steps p.tables e below (T101.setTop (mkF m 246 #[.val (.int p1), .val (.int p2), .val (.int p3), .val (.int p4), .val (.int p5), .val (.int ((p1 &&& (2147483647 : Int32)) % (5 : Int32))), .val (.int (own_pk p2)), .val (.int (own_pk p3)), .val (.int (own_pk p4)), .val (.int (own_pk p5)), .val (.ref b82), .val (.int (0 : Int32))] [(.int (0 : Int32))])) _
     refine XS.iload X101.here hx rfl (hb hby at_246) rfl ?_
     refine XS.icmpNo X101.here hx rfl (hb hby at_248) rfl (teq (by decide : (0 : Int32) = (0 : Int32))).2 ?_
     refine XS.iconst X101.here hx rfl (hb hby at_251) ?_
     refine XS.goto X101.here hx rfl (pc0 := 252) (pc' := 256) rfl (hb hby at_252) (by decide) (by decide) ?_
     exact k)
    obtain ⟨fs104, hr104, hrun104, hended104, hE104⟩ := X101.leaveW hS0 (by first | exact K92.1 | (rw [q101]; exact K92.1)) (v := some (.int (1 : Int32))) (fun h => by rw [Bd.returns] at h; cases h)
    refine ⟨_, _, pre103 _ ?_, hrun104, hended104, _, _, rfl, ?_, ?_, hE104.1, hE104.2.1, hE104.2.2.1, hE104.2.2.2.mono (by decide) (by decide)⟩
    ·show Steps p.tables e below (T101.setTop (mkF m 256 #[.val (.int p1), .val (.int p2), .val (.int p3), .val (.int p4), .val (.int p5), .val (.int ((p1 &&& (2147483647 : Int32)) % (5 : Int32))), .val (.int (own_pk p2)), .val (.int (own_pk p3)), .val (.int (own_pk p4)), .val (.int (own_pk p5)), .val (.ref b82), .val (.int (0 : Int32))] [(.int (1 : Int32))])) _
     exact retN X101 hx (t := .boolean) Bd.returns (by simp) (hb hby at_256) hr104
    ·show Q0 Z p1 p2 p3 p4 p5 h0 n0 _ T101.heap _
     rw [q101]
     exact ⟨rfl, N101⟩
    ·show CHr Z own_EL s.vm s.heap T101.vm T101.heap
     rw [q101]
     rw [hh]
     exact (CHr.ext (own_ext K92) hCH).trans (CHv.at X101 hZ0 hEL (CHv.ext (own_ext K92) hCH))
  obtain ⟨_, _, ⟨T105, L105, k105, n105⟩, -, X105, ⟨Lc105, hQ105, l105, y105, z105⟩, st105⟩ := Jvm.LawKit.callS X99 hx (y := own_z1) ho0 (mvT hZ0 (wd82 hw)) (mvT hZ0 (wd83 hw)) (mvT hZ0 (wd3 hw)) (mvT hZ0 (wd84 hw)) (by decide) (backOf (W := 0) (rmpl l Z a0 hw [] (own_pk p4) T92.heap n0 (Nat.le_trans (Nat.le_trans (Nat.le_trans (Nat.le_trans (Nat.le_trans (Nat.le_trans (Nat.le_trans Z0 E82.1) E83.1) (Nat.le_of_eq W85.size.symm)) (Nat.le_of_eq W87.size.symm)) (Nat.le_of_eq W89.size.symm)) (Nat.le_of_eq W91.size.symm)) Kp92.1)) hZ0 (wd84 hw) (wd3 hw) (by decide) (by decide)) (g := (mkF m 214 #[.val (.int p1), .val (.int p2), .val (.int p3), .val (.int p4), .val (.int p5), .val (.int ((p1 &&& (2147483647 : Int32)) % (5 : Int32))), .val (.int (own_pk p2)), .val (.int (own_pk p3)), .val (.int (own_pk p4)), .val (.int (own_pk p5)), .val (.ref b82), .unset] [(.int (own_pk p4))])) rfl (by rw [hml]; rfl) (argsL := [(.int (own_pk p4))]) (rest := []) (lenOf pd_pl rfl) rfl (by show 2 * 0 + _ ≤ _; exact Nat.le_of_eq rfl) (hb hby at_214) (fun _ _ => ⟨rfl, q99, (by decide : 4 + 0 ≤ _), (by decide : 20 + 0 ≤ _)⟩)
  dsimp only [Pt.U, Pt.locs, Pt.cells, Pt.slots] at X105 l105 y105 z105 st105 hQ105
  subst l105 y105 z105
  obtain ⟨rfl, N105q, q105⟩ := hQ105
  have N105 := Fr.app N99 N105q
  have pre106 : ∀ t, Steps p.tables e below (T105.setTop (mkF m 217 #[.val (.int p1), .val (.int p2), .val (.int p3), .val (.int p4), .val (.int p5), .val (.int ((p1 &&& (2147483647 : Int32)) % (5 : Int32))), .val (.int (own_pk p2)), .val (.int (own_pk p3)), .val (.int (own_pk p4)), .val (.int (own_pk p5)), .val (.ref b82), .unset] [(.int (own_pl (own_pk p4)))])) t → Steps p.tables e below (s₁.setTop (entryFrame m #[(.int p1), (.int p2), (.int p3), (.int p4), (.int p5)] maxLocals)) t := fun t k => pre100 t (by
   show Steps p.tables e below (T99.setTop (mkF m 203 #[.val (.int p1), .val (.int p2), .val (.int p3), .val (.int p4), .val (.int p5), .val (.int ((p1 &&& (2147483647 : Int32)) % (5 : Int32))), .val (.int (own_pk p2)), .val (.int (own_pk p3)), .val (.int (own_pk p4)), .val (.int (own_pk p5)), .val (.ref b82), .unset] [(.int (own_pl (own_pk p3)))])) _
   refine XS.ifNo X99.here hx rfl (hb hby at_203) rfl ((if0 _ _).trans (feq hc203).1) ?_
   refine XS.iload X99.here hx rfl (hb hby at_206) rfl ?_
   refine XS.iconst X99.here hx rfl (hb hby at_208) ?_
   refine XS.icmpNo X99.here hx rfl (hb hby at_209) rfl (flt (by rw [hn]; decide)).1 ?_
   refine XS.iload X99.here hx rfl (hb hby at_212) rfl ?_
   refine st105 _ ?_
   exact k)
  by_cases hc217 : (own_pl (own_pk p4)) = (0 : Int32)
  ·obtain ⟨_, _, ⟨T107, L107, k107, n107⟩, -, X107, ⟨Lc107, hQ107, l107, y107, z107⟩, st107⟩ := Jvm.LawKit.callS X105 hx (y := own_z28) ho0 (mvT hZ0 (wd28 hw)) (mvT hZ0 (wd29 hw)) (mvT hZ0 (wd30 hw)) (mvT hZ0 (wd31 hw)) (by decide) (backOf (W := 0) (rmtg l Z a0 hw [] b82 _ _ T92.heap n0 (Nat.le_trans (Nat.le_trans (Nat.le_trans (Nat.le_trans (Nat.le_trans (Nat.le_trans (Nat.le_trans Z0 E82.1) E83.1) (Nat.le_of_eq W85.size.symm)) (Nat.le_of_eq W87.size.symm)) (Nat.le_of_eq W89.size.symm)) (Nat.le_of_eq W91.size.symm)) Kp92.1) Ex9 Y36 Y92) hZ0 (wd31 hw) (wd30 hw) (by decide) (by decide)) (g := (mkF m 243 #[.val (.int p1), .val (.int p2), .val (.int p3), .val (.int p4), .val (.int p5), .val (.int ((p1 &&& (2147483647 : Int32)) % (5 : Int32))), .val (.int (own_pk p2)), .val (.int (own_pk p3)), .val (.int (own_pk p4)), .val (.int (own_pk p5)), .val (.ref b82), .val (.int (0 : Int32))] [(.ref b82)])) rfl (by rw [hml]; rfl) (argsL := [(.ref b82)]) (rest := []) (lenOf pd_tg rfl) rfl (by show 2 * 0 + _ ≤ _; exact Nat.le_of_eq rfl) (hb hby at_243) (fun _ _ => ⟨rfl, q105, (by decide : 4 + 0 ≤ _), (by decide : 20 + 0 ≤ _)⟩)
   dsimp only [Pt.U, Pt.locs, Pt.cells, Pt.slots] at X107 l107 y107 z107 st107 hQ107
   subst l107 y107 z107
   obtain ⟨t107, rfl, N107q, q107, hd107⟩ := hQ107
   have N107 := Fr.app N105 N107q
   have pre108 : ∀ t, Steps p.tables e below (T107.setTop (mkF m 246 #[.val (.int p1), .val (.int p2), .val (.int p3), .val (.int p4), .val (.int p5), .val (.int ((p1 &&& (2147483647 : Int32)) % (5 : Int32))), .val (.int (own_pk p2)), .val (.int (own_pk p3)), .val (.int (own_pk p4)), .val (.int (own_pk p5)), .val (.ref b82), .val (.int (0 : Int32))] [(.int t107)])) t → Steps p.tables e below (s₁.setTop (entryFrame m #[(.int p1), (.int p2), (.int p3), (.int p4), (.int p5)] maxLocals)) t := fun t k => pre106 t (by
    show Steps p.tables e below (T105.setTop (mkF m 217 #[.val (.int p1), .val (.int p2), .val (.int p3), .val (.int p4), .val (.int p5), .val (.int ((p1 &&& (2147483647 : Int32)) % (5 : Int32))), .val (.int (own_pk p2)), .val (.int (own_pk p3)), .val (.int (own_pk p4)), .val (.int (own_pk p5)), .val (.ref b82), .unset] [(.int (own_pl (own_pk p4)))])) _
    refine XS.ifYes X105.here hx rfl (pc0 := 217) (pc' := 238) rfl (hb hby at_217) rfl ((if0 _ _).trans (teq hc217).1) (by decide) (by decide) ?_
    refine XS.iconst X105.here hx rfl (hb hby at_238) ?_
    refine XS.istore X105.here hx rfl (hb hby at_239) rfl (l' := #[.val (.int p1), .val (.int p2), .val (.int p3), .val (.int p4), .val (.int p5), .val (.int ((p1 &&& (2147483647 : Int32)) % (5 : Int32))), .val (.int (own_pk p2)), .val (.int (own_pk p3)), .val (.int (own_pk p4)), .val (.int (own_pk p5)), .val (.ref b82), .val (.int (0 : Int32))]) rfl ?_
    refine XS.aload X105.here hx rfl (hb hby at_241) rfl rfl ?_
    refine st107 _ ?_
    exact k)
   rcases hd107 with ⟨rfl, hd⟩ | ⟨rfl, hd⟩
   ·rcases own_pl0 hc217 with q | q
    ·exact absurd (Or.inr ((Or.inr ((Or.inl q))))) hd.1
    ·exact absurd (Or.inr ((Or.inr ((Or.inl q))))) hd.2
   ·have pre109 : ∀ t, Steps p.tables e below (T107.setTop (mkF m 256 #[.val (.int p1), .val (.int p2), .val (.int p3), .val (.int p4), .val (.int p5), .val (.int ((p1 &&& (2147483647 : Int32)) % (5 : Int32))), .val (.int (own_pk p2)), .val (.int (own_pk p3)), .val (.int (own_pk p4)), .val (.int (own_pk p5)), .val (.ref b82), .val (.int (0 : Int32))] [(.int (1 : Int32))])) t → Steps p.tables e below (s₁.setTop (entryFrame m #[(.int p1), (.int p2), (.int p3), (.int p4), (.int p5)] maxLocals)) t := fun t k => pre108 t (by
     show Steps p.tables e below (T107.setTop (mkF m 246 #[.val (.int p1), .val (.int p2), .val (.int p3), .val (.int p4), .val (.int p5), .val (.int ((p1 &&& (2147483647 : Int32)) % (5 : Int32))), .val (.int (own_pk p2)), .val (.int (own_pk p3)), .val (.int (own_pk p4)), .val (.int (own_pk p5)), .val (.ref b82), .val (.int (0 : Int32))] [(.int (0 : Int32))])) _
     refine XS.iload X107.here hx rfl (hb hby at_246) rfl ?_
     refine XS.icmpNo X107.here hx rfl (hb hby at_248) rfl (teq (by decide : (0 : Int32) = (0 : Int32))).2 ?_
     refine XS.iconst X107.here hx rfl (hb hby at_251) ?_
     refine XS.goto X107.here hx rfl (pc0 := 252) (pc' := 256) rfl (hb hby at_252) (by decide) (by decide) ?_
     exact k)
    obtain ⟨fs110, hr110, hrun110, hended110, hE110⟩ := X107.leaveW hS0 (by first | exact K92.1 | (rw [q107]; exact K92.1)) (v := some (.int (1 : Int32))) (fun h => by rw [Bd.returns] at h; cases h)
    refine ⟨_, _, pre109 _ ?_, hrun110, hended110, _, _, rfl, ?_, ?_, hE110.1, hE110.2.1, hE110.2.2.1, hE110.2.2.2.mono (by decide) (by decide)⟩
    ·show Steps p.tables e below (T107.setTop (mkF m 256 #[.val (.int p1), .val (.int p2), .val (.int p3), .val (.int p4), .val (.int p5), .val (.int ((p1 &&& (2147483647 : Int32)) % (5 : Int32))), .val (.int (own_pk p2)), .val (.int (own_pk p3)), .val (.int (own_pk p4)), .val (.int (own_pk p5)), .val (.ref b82), .val (.int (0 : Int32))] [(.int (1 : Int32))])) _
     exact retN X107 hx (t := .boolean) Bd.returns (by simp) (hb hby at_256) hr110
    ·show Q0 Z p1 p2 p3 p4 p5 h0 n0 _ T107.heap _
     rw [q107]
     exact ⟨rfl, N107⟩
    ·show CHr Z own_EL s.vm s.heap T107.vm T107.heap
     rw [q107]
     rw [hh]
     exact (CHr.ext (own_ext K92) hCH).trans (CHv.at X107 hZ0 hEL (CHv.ext (own_ext K92) hCH))
  obtain ⟨_, _, ⟨T111, L111, k111, n111⟩, -, X111, ⟨Lc111, hQ111, l111, y111, z111⟩, st111⟩ := Jvm.LawKit.callS X105 hx (y := own_z1) ho0 (mvT hZ0 (wd82 hw)) (mvT hZ0 (wd83 hw)) (mvT hZ0 (wd3 hw)) (mvT hZ0 (wd84 hw)) (by decide) (backOf (W := 0) (rmpl l Z a0 hw [] (own_pk p5) T92.heap n0 (Nat.le_trans (Nat.le_trans (Nat.le_trans (Nat.le_trans (Nat.le_trans (Nat.le_trans (Nat.le_trans Z0 E82.1) E83.1) (Nat.le_of_eq W85.size.symm)) (Nat.le_of_eq W87.size.symm)) (Nat.le_of_eq W89.size.symm)) (Nat.le_of_eq W91.size.symm)) Kp92.1)) hZ0 (wd84 hw) (wd3 hw) (by decide) (by decide)) (g := (mkF m 228 #[.val (.int p1), .val (.int p2), .val (.int p3), .val (.int p4), .val (.int p5), .val (.int ((p1 &&& (2147483647 : Int32)) % (5 : Int32))), .val (.int (own_pk p2)), .val (.int (own_pk p3)), .val (.int (own_pk p4)), .val (.int (own_pk p5)), .val (.ref b82), .unset] [(.int (own_pk p5))])) rfl (by rw [hml]; rfl) (argsL := [(.int (own_pk p5))]) (rest := []) (lenOf pd_pl rfl) rfl (by show 2 * 0 + _ ≤ _; exact Nat.le_of_eq rfl) (hb hby at_228) (fun _ _ => ⟨rfl, q105, (by decide : 4 + 0 ≤ _), (by decide : 20 + 0 ≤ _)⟩)
  dsimp only [Pt.U, Pt.locs, Pt.cells, Pt.slots] at X111 l111 y111 z111 st111 hQ111
  subst l111 y111 z111
  obtain ⟨rfl, N111q, q111⟩ := hQ111
  have N111 := Fr.app N105 N111q
  have pre112 : ∀ t, Steps p.tables e below (T111.setTop (mkF m 231 #[.val (.int p1), .val (.int p2), .val (.int p3), .val (.int p4), .val (.int p5), .val (.int ((p1 &&& (2147483647 : Int32)) % (5 : Int32))), .val (.int (own_pk p2)), .val (.int (own_pk p3)), .val (.int (own_pk p4)), .val (.int (own_pk p5)), .val (.ref b82), .unset] [(.int (own_pl (own_pk p5)))])) t → Steps p.tables e below (s₁.setTop (entryFrame m #[(.int p1), (.int p2), (.int p3), (.int p4), (.int p5)] maxLocals)) t := fun t k => pre106 t (by
   show Steps p.tables e below (T105.setTop (mkF m 217 #[.val (.int p1), .val (.int p2), .val (.int p3), .val (.int p4), .val (.int p5), .val (.int ((p1 &&& (2147483647 : Int32)) % (5 : Int32))), .val (.int (own_pk p2)), .val (.int (own_pk p3)), .val (.int (own_pk p4)), .val (.int (own_pk p5)), .val (.ref b82), .unset] [(.int (own_pl (own_pk p4)))])) _
   refine XS.ifNo X105.here hx rfl (hb hby at_217) rfl ((if0 _ _).trans (feq hc217).1) ?_
   refine XS.iload X105.here hx rfl (hb hby at_220) rfl ?_
   refine XS.iconst X105.here hx rfl (hb hby at_222) ?_
   refine XS.icmpNo X105.here hx rfl (hb hby at_223) rfl (flt (by rw [hn]; decide)).1 ?_
   refine XS.iload X105.here hx rfl (hb hby at_226) rfl ?_
   refine st111 _ ?_
   exact k)
  by_cases hc231 : (own_pl (own_pk p5)) = (0 : Int32)
  ·obtain ⟨_, _, ⟨T113, L113, k113, n113⟩, -, X113, ⟨Lc113, hQ113, l113, y113, z113⟩, st113⟩ := Jvm.LawKit.callS X111 hx (y := own_z28) ho0 (mvT hZ0 (wd28 hw)) (mvT hZ0 (wd29 hw)) (mvT hZ0 (wd30 hw)) (mvT hZ0 (wd31 hw)) (by decide) (backOf (W := 0) (rmtg l Z a0 hw [] b82 _ _ T92.heap n0 (Nat.le_trans (Nat.le_trans (Nat.le_trans (Nat.le_trans (Nat.le_trans (Nat.le_trans (Nat.le_trans Z0 E82.1) E83.1) (Nat.le_of_eq W85.size.symm)) (Nat.le_of_eq W87.size.symm)) (Nat.le_of_eq W89.size.symm)) (Nat.le_of_eq W91.size.symm)) Kp92.1) Ex9 Y36 Y92) hZ0 (wd31 hw) (wd30 hw) (by decide) (by decide)) (g := (mkF m 243 #[.val (.int p1), .val (.int p2), .val (.int p3), .val (.int p4), .val (.int p5), .val (.int ((p1 &&& (2147483647 : Int32)) % (5 : Int32))), .val (.int (own_pk p2)), .val (.int (own_pk p3)), .val (.int (own_pk p4)), .val (.int (own_pk p5)), .val (.ref b82), .val (.int (0 : Int32))] [(.ref b82)])) rfl (by rw [hml]; rfl) (argsL := [(.ref b82)]) (rest := []) (lenOf pd_tg rfl) rfl (by show 2 * 0 + _ ≤ _; exact Nat.le_of_eq rfl) (hb hby at_243) (fun _ _ => ⟨rfl, q111, (by decide : 4 + 0 ≤ _), (by decide : 20 + 0 ≤ _)⟩)
   dsimp only [Pt.U, Pt.locs, Pt.cells, Pt.slots] at X113 l113 y113 z113 st113 hQ113
   subst l113 y113 z113
   obtain ⟨t113, rfl, N113q, q113, hd113⟩ := hQ113
   have N113 := Fr.app N111 N113q
   have pre114 : ∀ t, Steps p.tables e below (T113.setTop (mkF m 246 #[.val (.int p1), .val (.int p2), .val (.int p3), .val (.int p4), .val (.int p5), .val (.int ((p1 &&& (2147483647 : Int32)) % (5 : Int32))), .val (.int (own_pk p2)), .val (.int (own_pk p3)), .val (.int (own_pk p4)), .val (.int (own_pk p5)), .val (.ref b82), .val (.int (0 : Int32))] [(.int t113)])) t → Steps p.tables e below (s₁.setTop (entryFrame m #[(.int p1), (.int p2), (.int p3), (.int p4), (.int p5)] maxLocals)) t := fun t k => pre112 t (by
    show Steps p.tables e below (T111.setTop (mkF m 231 #[.val (.int p1), .val (.int p2), .val (.int p3), .val (.int p4), .val (.int p5), .val (.int ((p1 &&& (2147483647 : Int32)) % (5 : Int32))), .val (.int (own_pk p2)), .val (.int (own_pk p3)), .val (.int (own_pk p4)), .val (.int (own_pk p5)), .val (.ref b82), .unset] [(.int (own_pl (own_pk p5)))])) _
    refine XS.ifYes X111.here hx rfl (pc0 := 231) (pc' := 238) rfl (hb hby at_231) rfl ((if0 _ _).trans (teq hc231).1) (by decide) (by decide) ?_
    refine XS.iconst X111.here hx rfl (hb hby at_238) ?_
    refine XS.istore X111.here hx rfl (hb hby at_239) rfl (l' := #[.val (.int p1), .val (.int p2), .val (.int p3), .val (.int p4), .val (.int p5), .val (.int ((p1 &&& (2147483647 : Int32)) % (5 : Int32))), .val (.int (own_pk p2)), .val (.int (own_pk p3)), .val (.int (own_pk p4)), .val (.int (own_pk p5)), .val (.ref b82), .val (.int (0 : Int32))]) rfl ?_
    refine XS.aload X111.here hx rfl (hb hby at_241) rfl rfl ?_
    refine st113 _ ?_
    exact k)
   rcases hd113 with ⟨rfl, hd⟩ | ⟨rfl, hd⟩
   ·rcases own_pl0 hc231 with q | q
    ·exact absurd (Or.inr ((Or.inr ((Or.inr (q)))))) hd.1
    ·exact absurd (Or.inr ((Or.inr ((Or.inr (q)))))) hd.2
   ·have pre115 : ∀ t, Steps p.tables e below (T113.setTop (mkF m 256 #[.val (.int p1), .val (.int p2), .val (.int p3), .val (.int p4), .val (.int p5), .val (.int ((p1 &&& (2147483647 : Int32)) % (5 : Int32))), .val (.int (own_pk p2)), .val (.int (own_pk p3)), .val (.int (own_pk p4)), .val (.int (own_pk p5)), .val (.ref b82), .val (.int (0 : Int32))] [(.int (1 : Int32))])) t → Steps p.tables e below (s₁.setTop (entryFrame m #[(.int p1), (.int p2), (.int p3), (.int p4), (.int p5)] maxLocals)) t := fun t k => pre114 t (by
     show Steps p.tables e below (T113.setTop (mkF m 246 #[.val (.int p1), .val (.int p2), .val (.int p3), .val (.int p4), .val (.int p5), .val (.int ((p1 &&& (2147483647 : Int32)) % (5 : Int32))), .val (.int (own_pk p2)), .val (.int (own_pk p3)), .val (.int (own_pk p4)), .val (.int (own_pk p5)), .val (.ref b82), .val (.int (0 : Int32))] [(.int (0 : Int32))])) _
     refine XS.iload X113.here hx rfl (hb hby at_246) rfl ?_
     refine XS.icmpNo X113.here hx rfl (hb hby at_248) rfl (teq (by decide : (0 : Int32) = (0 : Int32))).2 ?_
     refine XS.iconst X113.here hx rfl (hb hby at_251) ?_
     refine XS.goto X113.here hx rfl (pc0 := 252) (pc' := 256) rfl (hb hby at_252) (by decide) (by decide) ?_
     exact k)
    obtain ⟨fs116, hr116, hrun116, hended116, hE116⟩ := X113.leaveW hS0 (by first | exact K92.1 | (rw [q113]; exact K92.1)) (v := some (.int (1 : Int32))) (fun h => by rw [Bd.returns] at h; cases h)
    refine ⟨_, _, pre115 _ ?_, hrun116, hended116, _, _, rfl, ?_, ?_, hE116.1, hE116.2.1, hE116.2.2.1, hE116.2.2.2.mono (by decide) (by decide)⟩
    ·show Steps p.tables e below (T113.setTop (mkF m 256 #[.val (.int p1), .val (.int p2), .val (.int p3), .val (.int p4), .val (.int p5), .val (.int ((p1 &&& (2147483647 : Int32)) % (5 : Int32))), .val (.int (own_pk p2)), .val (.int (own_pk p3)), .val (.int (own_pk p4)), .val (.int (own_pk p5)), .val (.ref b82), .val (.int (0 : Int32))] [(.int (1 : Int32))])) _
     exact retN X113 hx (t := .boolean) Bd.returns (by simp) (hb hby at_256) hr116
    ·show Q0 Z p1 p2 p3 p4 p5 h0 n0 _ T113.heap _
     rw [q113]
     exact ⟨rfl, N113⟩
    ·show CHr Z own_EL s.vm s.heap T113.vm T113.heap
     rw [q113]
     rw [hh]
     exact (CHr.ext (own_ext K92) hCH).trans (CHv.at X113 hZ0 hEL (CHv.ext (own_ext K92) hCH))
  obtain ⟨_, _, ⟨T117, L117, k117, n117⟩, -, X117, ⟨Lc117, hQ117, l117, y117, z117⟩, st117⟩ := Jvm.LawKit.callS X111 hx (y := own_z28) ho0 (mvT hZ0 (wd28 hw)) (mvT hZ0 (wd29 hw)) (mvT hZ0 (wd30 hw)) (mvT hZ0 (wd31 hw)) (by decide) (backOf (W := 0) (rmtg l Z a0 hw [] b82 _ _ T92.heap n0 (Nat.le_trans (Nat.le_trans (Nat.le_trans (Nat.le_trans (Nat.le_trans (Nat.le_trans (Nat.le_trans Z0 E82.1) E83.1) (Nat.le_of_eq W85.size.symm)) (Nat.le_of_eq W87.size.symm)) (Nat.le_of_eq W89.size.symm)) (Nat.le_of_eq W91.size.symm)) Kp92.1) Ex9 Y36 Y92) hZ0 (wd31 hw) (wd30 hw) (by decide) (by decide)) (g := (mkF m 243 #[.val (.int p1), .val (.int p2), .val (.int p3), .val (.int p4), .val (.int p5), .val (.int ((p1 &&& (2147483647 : Int32)) % (5 : Int32))), .val (.int (own_pk p2)), .val (.int (own_pk p3)), .val (.int (own_pk p4)), .val (.int (own_pk p5)), .val (.ref b82), .val (.int (1 : Int32))] [(.ref b82)])) rfl (by rw [hml]; rfl) (argsL := [(.ref b82)]) (rest := []) (lenOf pd_tg rfl) rfl (by show 2 * 0 + _ ≤ _; exact Nat.le_of_eq rfl) (hb hby at_243) (fun _ _ => ⟨rfl, q111, (by decide : 4 + 0 ≤ _), (by decide : 20 + 0 ≤ _)⟩)
  dsimp only [Pt.U, Pt.locs, Pt.cells, Pt.slots] at X117 l117 y117 z117 st117 hQ117
  subst l117 y117 z117
  obtain ⟨t117, rfl, N117q, q117, hd117⟩ := hQ117
  have N117 := Fr.app N111 N117q
  have pre118 : ∀ t, Steps p.tables e below (T117.setTop (mkF m 246 #[.val (.int p1), .val (.int p2), .val (.int p3), .val (.int p4), .val (.int p5), .val (.int ((p1 &&& (2147483647 : Int32)) % (5 : Int32))), .val (.int (own_pk p2)), .val (.int (own_pk p3)), .val (.int (own_pk p4)), .val (.int (own_pk p5)), .val (.ref b82), .val (.int (1 : Int32))] [(.int t117)])) t → Steps p.tables e below (s₁.setTop (entryFrame m #[(.int p1), (.int p2), (.int p3), (.int p4), (.int p5)] maxLocals)) t := fun t k => pre112 t (by
   show Steps p.tables e below (T111.setTop (mkF m 231 #[.val (.int p1), .val (.int p2), .val (.int p3), .val (.int p4), .val (.int p5), .val (.int ((p1 &&& (2147483647 : Int32)) % (5 : Int32))), .val (.int (own_pk p2)), .val (.int (own_pk p3)), .val (.int (own_pk p4)), .val (.int (own_pk p5)), .val (.ref b82), .unset] [(.int (own_pl (own_pk p5)))])) _
   refine XS.ifNo X111.here hx rfl (hb hby at_231) rfl ((if0 _ _).trans (feq hc231).1) ?_
   refine XS.iconst X111.here hx rfl (hb hby at_234) ?_
   refine XS.goto X111.here hx rfl (pc0 := 235) (pc' := 239) rfl (hb hby at_235) (by decide) (by decide) ?_
   refine XS.istore X111.here hx rfl (hb hby at_239) rfl (l' := #[.val (.int p1), .val (.int p2), .val (.int p3), .val (.int p4), .val (.int p5), .val (.int ((p1 &&& (2147483647 : Int32)) % (5 : Int32))), .val (.int (own_pk p2)), .val (.int (own_pk p3)), .val (.int (own_pk p4)), .val (.int (own_pk p5)), .val (.ref b82), .val (.int (1 : Int32))]) rfl ?_
   refine XS.aload X111.here hx rfl (hb hby at_241) rfl rfl ?_
   refine st117 _ ?_
   exact k)
  rcases hd117 with ⟨rfl, hd⟩ | ⟨rfl, hd⟩
  ·have pre119 : ∀ t, Steps p.tables e below (T117.setTop (mkF m 256 #[.val (.int p1), .val (.int p2), .val (.int p3), .val (.int p4), .val (.int p5), .val (.int ((p1 &&& (2147483647 : Int32)) % (5 : Int32))), .val (.int (own_pk p2)), .val (.int (own_pk p3)), .val (.int (own_pk p4)), .val (.int (own_pk p5)), .val (.ref b82), .val (.int (1 : Int32))] [(.int (1 : Int32))])) t → Steps p.tables e below (s₁.setTop (entryFrame m #[(.int p1), (.int p2), (.int p3), (.int p4), (.int p5)] maxLocals)) t := fun t k => pre118 t (by
    show Steps p.tables e below (T117.setTop (mkF m 246 #[.val (.int p1), .val (.int p2), .val (.int p3), .val (.int p4), .val (.int p5), .val (.int ((p1 &&& (2147483647 : Int32)) % (5 : Int32))), .val (.int (own_pk p2)), .val (.int (own_pk p3)), .val (.int (own_pk p4)), .val (.int (own_pk p5)), .val (.ref b82), .val (.int (1 : Int32))] [(.int (1 : Int32))])) _
    refine XS.iload X117.here hx rfl (hb hby at_246) rfl ?_
    refine XS.icmpNo X117.here hx rfl (hb hby at_248) rfl (teq (by decide : (1 : Int32) = (1 : Int32))).2 ?_
    refine XS.iconst X117.here hx rfl (hb hby at_251) ?_
    refine XS.goto X117.here hx rfl (pc0 := 252) (pc' := 256) rfl (hb hby at_252) (by decide) (by decide) ?_
    exact k)
   obtain ⟨fs120, hr120, hrun120, hended120, hE120⟩ := X117.leaveW hS0 (by first | exact K92.1 | (rw [q117]; exact K92.1)) (v := some (.int (1 : Int32))) (fun h => by rw [Bd.returns] at h; cases h)
   refine ⟨_, _, pre119 _ ?_, hrun120, hended120, _, _, rfl, ?_, ?_, hE120.1, hE120.2.1, hE120.2.2.1, hE120.2.2.2.mono (by decide) (by decide)⟩
   ·show Steps p.tables e below (T117.setTop (mkF m 256 #[.val (.int p1), .val (.int p2), .val (.int p3), .val (.int p4), .val (.int p5), .val (.int ((p1 &&& (2147483647 : Int32)) % (5 : Int32))), .val (.int (own_pk p2)), .val (.int (own_pk p3)), .val (.int (own_pk p4)), .val (.int (own_pk p5)), .val (.ref b82), .val (.int (1 : Int32))] [(.int (1 : Int32))])) _
    exact retN X117 hx (t := .boolean) Bd.returns (by simp) (hb hby at_256) hr120
   ·show Q0 Z p1 p2 p3 p4 p5 h0 n0 _ T117.heap _
    rw [q117]
    exact ⟨rfl, N117⟩
   ·show CHr Z own_EL s.vm s.heap T117.vm T117.heap
    rw [q117]
    rw [hh]
    exact (CHr.ext (own_ext K92) hCH).trans (CHv.at X117 hZ0 hEL (CHv.ext (own_ext K92) hCH))
  ·have e1 : ¬ ((own_pk p2) = 36 ∨ (own_pk p3) = 36 ∨ (own_pk p4) = 36 ∨ (own_pk p5) = 36) := fun q => by
    rcases q with q | q | q | q
    ·exact (own_pl1 hc189).1 q
    ·exact (own_pl1 hc203).1 q
    ·exact (own_pl1 hc217).1 q
    ·exact (own_pl1 hc231).1 q
   have e2 : ¬ ((own_pk p2) = 92 ∨ (own_pk p3) = 92 ∨ (own_pk p4) = 92 ∨ (own_pk p5) = 92) := fun q => by
    rcases q with q | q | q | q
    ·exact (own_pl1 hc189).2 q
    ·exact (own_pl1 hc203).2 q
    ·exact (own_pl1 hc217).2 q
    ·exact (own_pl1 hc231).2 q
   exact absurd ⟨e1, e2⟩ hd

theorem own_sint {args : Array Value} {s : State} {t : Term} {k : Int32} (h : (Jvm.Cond.eq t (Jvm.Term.int k)).value args s none s [] = some true) : t.eval args s none [] s = some (.int k) := by
 obtain ⟨x, y, e1, e2, -, k1⟩ := cmp_v (Or.inl h)
 have e3 : Value.int k = y := Option.some.inj ((Term.int_eval k).symm.trans e2)
 subst e3
 obtain ⟨z, rfl⟩ : ∃ z, x = .int z := k1
 have q := gotT (Cond.eq_ints e1 (Term.int_eval k)) h
 subst q
 exact e1
theorem own_seq {Z : State} {a0 : Array Value} {C n d : String} {z : Int32} (w : (Jvm.Cond.eq (Jvm.Term.static C n d) (Jvm.Term.int z)).before a0 Z = true) (i : (Jvm.Cond.initializedFor C n d).before a0 Z = true) : Sta Z Z.heap C n d (.int z) := Sta.start (own_sint (Cond.before_iff.mp w)) (Or.inl i)

set_option maxRecDepth 65536 in
set_option maxHeartbeats 40000000 in
theorem comes_1 {Post : Tables → Env → Array Value → State → Outcome → State → Prop} (hpost : ∀ tb e args s v u, (limb_1_1.after args s (.returned v) u = true ∧ limb_1_2.after args s (.returned v) u = true ∧ True) → FramedW s (.returned v) u (Jvm.fieldLocs frame_1_writes args s ++ Jvm.arrayLocs frame_1_arrays args s ++ Jvm.staticLocs frame_1_statics s) 24 1152 → Post tb e args s (.returned v) u) :
  ArmFor flags0 classFile x code maxLocals ret World_1 tables_1 room_1 Calls_1 rest_1 Pre_1 Post := by
 intro l hfl _ _ p e ha hc hk s m args below hf hA hF happ hP
 obtain ⟨hcalls, hrest, hpre⟩ := hP
 obtain ⟨-, -, -, hnamed, -, -, -, hat⟩ := (Spec.applies_iff hf).mp happ
 obtain ⟨hg, hn⟩ := and_e (Cond.before_iff.mp (show (Jvm.Cond.and given_1 narrow_1).before args s = true from hpre))
 obtain ⟨gg0, gr0⟩ := and_e hg
 obtain ⟨gg1, gr1⟩ := and_e gr0
 obtain ⟨gg2, gr2⟩ := and_e gr1
 obtain ⟨gg3, gr3⟩ := and_e gr2
 obtain ⟨gg4, gr4⟩ := and_e gr3
 obtain ⟨w0, w1, w2, w3, w4, rfl⟩ : ∃ w0 w1 w2 w3 w4 : Value, args = #[w0, w1, w2, w3, w4] := by
  have hs : args.size = 5 := by simpa [Cond.value, given_1] using gg0
  obtain ⟨L⟩ := args
  match L, hs with
  | [w0, w1, w2, w3, w4], _ => exact ⟨w0, w1, w2, w3, w4, rfl⟩
 have hw := fun d (hd : d ∈ tables_1) => atoms_spec (ws := Jvm.Cond.code x code maxLocals ret :: tables_1) hat d (List.mem_cons_of_mem _ hd)
 have hfit : Fit s := fun {y c} hc i hi => by
  obtain ⟨ha, rfl⟩ := Array.getElem?_eq_some_iff.mp hc
  have q := List.all_eq_true.mp ((Array.all_eq_true_iff_forall_mem.mp hF) _ (Array.getElem_mem ha)) i (List.mem_range.mpr hi)
  simpa [Array.getElem?_eq_getElem hi] using q
 obtain ⟨hsets, hown0⟩ := atoms_of _ (rest_1_c_eq ▸ (show rest_1_c.before _ s = true from hrest))
 have hr0 := Cond.before_iff.mp hown0
 obtain ⟨i0, ei0⟩ := is_v gg1
 obtain rfl : w0 = (.int i0) := Option.some.inj ei0
 obtain ⟨i1, ei1⟩ := is_v gg2
 obtain rfl : w1 = (.int i1) := Option.some.inj ei1
 obtain ⟨i2, ei2⟩ := is_v gg3
 obtain rfl : w2 = (.int i2) := Option.some.inj ei2
 obtain ⟨i3, ei3⟩ := is_v gg4
 obtain rfl : w3 = (.int i3) := Option.some.inj ei3
 obtain ⟨i4, ei4⟩ := is_v gr4
 obtain rfl : w4 = (.int i4) := Option.some.inj ei4
 obtain ⟨z, evz⟩ := is_v (Cond.before_iff.mp (hsets _ (List.mem_of_getElem? (i := 1) rfl)))
 have Sz := Sta.start evz (Or.inl (hsets _ (List.mem_of_getElem? (i := 0) rfl)))
 have hz : ¬ z = 0 := gotF (Cond.eq_ints evz (Term.int_eval 0)) (not_v (Cond.before_iff.mp (hsets _ (List.mem_of_getElem? (i := 2) rfl))))
 obtain ⟨fm, evf, hfm⟩ := isR_v (Cond.before_iff.mp (hsets _ (List.mem_of_getElem? (i := 8) rfl)))
 have Sf := Sta.start evf (Or.inl (hsets _ (List.mem_of_getElem? (i := 7) rfl)))
 have EN : own_env s s.heap := ⟨z, fm, Sz, hz, Sf, hfm, own_seq (hsets _ (List.mem_of_getElem? (i := 12) rfl)) (hsets _ (List.mem_of_getElem? (i := 11) rfl)), own_seq (hsets _ (List.mem_of_getElem? (i := 15) rfl)) (hsets _ (List.mem_of_getElem? (i := 14) rfl)), own_seq (hsets _ (List.mem_of_getElem? (i := 18) rfl)) (hsets _ (List.mem_of_getElem? (i := 17) rfl))⟩
 have hCH : CHv s own_EL s.vm s.heap := CHv.start (own_EW hw) (fun p hp => by
  cases List.mem_singleton.mp hp
  exact hcalls.1 _ (List.mem_of_getElem? (i := 0) rfl)) (hsets _ (List.mem_of_getElem? (i := 2) rfl)) (hw _ (List.mem_of_getElem? (i := 21) rfl)) (hw _ (List.mem_of_getElem? (i := 7) rfl))
 obtain ⟨n, o, h1, h2, h3, _, L, rfl, ⟨rfl, N⟩, hcr, hq⟩ := rm0 l s _ hw tables_1 i0 i1 i2 i3 i4 s.heap s.heap.size (Nat.le_refl _) EN p e ha hc hk s m _ below hf ((Spec.applies_iff_loose hf).mp happ).1 ⟨rfl, State.Warmed39.refl s, rfl, hCH⟩ trivial
 refine ⟨n, _, h1, h2, h3, hpost _ _ _ _ _ _ ⟨Cond.after_iff.mpr rfl, Cond.after_iff.mpr (eq_i res_at (Term.int_eval (1)) rfl), trivial⟩ ⟨hq.1, hq.2.1, hq.2.2.1, (hq.2.2.2.sift fun y hy => Or.inr (N y hy)).mono (by decide) (by decide)⟩⟩
theorem main_1_1 : Claimed_1_1 := comes_1 fun _ _ _ _ _ _ h hF => ⟨h.1, hF⟩
theorem main_1_2 : Claimed_1_2 := comes_1 fun _ _ _ _ _ _ h hF => ⟨h.2.1, hF⟩
end Jvm.Pilot.@@N@@
namespace Jvm.Pilot.@@N@@
open Jvm Jvm.ClassFile Sem Op Lib Jvm.Free Jvm.Stand Jvm.Pilot.@@N@@.Jvm.D
/-! MADE BY PROGRAM (witnessworld.py) out of the Statement's table words and the real class files: 21 classes; the members and pool entries that the words name. The judged class is class 1, her method 1. -/
namespace start1
open Jvm.ClassFile
def u (s : String) : CpInfo := .utf8 (stringToUtf16 s)
/-- a pool by its gaps: so many unusable entries, then the entry; so many at the end -/
def gap : Nat → List CpInfo → List CpInfo
  | 0, r => r
  | n + 1, r => .unusable :: gap n r
def poolList (es : List (Nat × CpInfo)) (last : Nat) : List CpInfo := es.foldr (fun e r => gap e.1 (e.2 :: r)) (gap last [])
def pool (es : List (Nat × CpInfo)) (last : Nat) : Array CpInfo := ⟨poolList es last⟩
def fileOf (pool : Array CpInfo) (this : Nat) (attrs : Array Attribute := #[]) (ms : Array MethodInfo := #[]) (fl : Nat := 33) (sup : Nat := 0) (ifs : Array Nat := #[]) (fds : Array FieldInfo := #[]) : ClassFile where
  minorVersion := 0
  majorVersion := 65
  constantPool := pool
  accessFlags := fl
  thisClass := this
  superClass := sup
  interfaces := ifs
  fields := fds
  methods := ms
  attributes := attrs
def plain (name : String) (sup : Option ClassId) : Class where
  name := name
  kind := .ordinary
  loader := none
  accessFlags := 33
  super := sup
  interfaces := #[]
  cf := none
  fields := #[]
  methods := #[]
  instanceTypes := #[]
  staticTypes := #[]
  resolved := #[]
  callSites := []
  init := .initialized
  statics := none
  mirror := none

def pool0 : Array CpInfo := pool [(5, u "<init>"), (0, u "()V"), (1, .class_ 10), (1, u "java/lang/Object")] 113

def k0c0 : Code := { maxStack := 0, maxLocals := 1, code := object_method_1_code, exceptionTable := #[], attributes := #[] }
def k0m0 : Method := { name := "<init>", desc := "()V", sig := { parameters := [], returnType := none }, accessFlags := 1, code := some k0c0 }
/-- java/lang/Object -/
def k0 : Class := { plain "java/lang/Object" none with
  accessFlags := 33
  interfaces := #[]
  cf := some (fileOf pool0 8 #[] #[{ accessFlags := 1, nameIndex := 5, descriptorIndex := 6, attributes := #[] }] 33 0 #[] #[])
  fields := #[]
  methods := #[k0m0]
  instanceTypes := #[]
  staticTypes := #[]
  resolved := Array.replicate 124 none
  statics := none }

def pool1 : Array CpInfo := pool [(2, .class_ 4), (1, u "java/lang/Object"), (0, u "<init>"), (0, u "()V"), (0, .integer 2147483647), (0, .methodref 9 10), (0, .class_ 11), (0, .nameAndType 12 13), (0, u "com/example/oxpecker/oxpecker/MessageTemplateIsTextAlonePinLaw"), (0, u "pick"), (0, u "(I)C"), (0, .class_ 15), (0, u "java/lang/String"), (0, .methodref 14 17), (0, .nameAndType 5 18), (0, u "([C)V"), (0, .methodref 9 20), (0, .nameAndType 21 22), (0, u "plain"), (0, u "(C)Z"), (0, .methodref 24 25), (0, .class_ 26), (0, .nameAndType 27 28), (0, u "com/example/oxpecker/oxpecker/MessageTemplate"), (0, u "isTextAlone"), (0, u "(Ljava/lang/String;)Z"), (0, .integer 65535), (2, u "law"), (0, u "(IIIII)Z")] 3

def k1m0 : Method := { name := "<init>", desc := "()V", sig := { parameters := [], returnType := none }, accessFlags := 1, code := none }
def k1c1 : Code := { maxStack := 6, maxLocals := 12, code := code, exceptionTable := #[], attributes := #[] }
def k1m1 : Method := { name := "law", desc := "(IIIII)Z", sig := { parameters := [.int, .int, .int, .int, .int], returnType := some .boolean }, accessFlags := 9, code := some k1c1 }
def k1c2 : Code := { maxStack := 2, maxLocals := 2, code := method_3_code, exceptionTable := #[], attributes := #[] }
def k1m2 : Method := { name := "pick", desc := "(I)C", sig := { parameters := [.int], returnType := some .char }, accessFlags := 10, code := some k1c2 }
def k1c3 : Code := { maxStack := 2, maxLocals := 1, code := method_4_code, exceptionTable := #[], attributes := #[] }
def k1m3 : Method := { name := "plain", desc := "(C)Z", sig := { parameters := [.char], returnType := some .boolean }, accessFlags := 10, code := some k1c3 }
/-- com/example/oxpecker/oxpecker/MessageTemplateIsTextAlonePinLaw -/
def k1 : Class := { plain "com/example/oxpecker/oxpecker/MessageTemplateIsTextAlonePinLaw" (some 0) with
  accessFlags := 49
  interfaces := #[]
  cf := some (fileOf pool1 9 #[] #[{ accessFlags := 1, nameIndex := 5, descriptorIndex := 6, attributes := #[] }, { accessFlags := 9, nameIndex := 32, descriptorIndex := 33, attributes := #[] }, { accessFlags := 10, nameIndex := 12, descriptorIndex := 13, attributes := #[] }, { accessFlags := 10, nameIndex := 21, descriptorIndex := 22, attributes := #[] }] 49 2 #[] #[])
  fields := #[]
  methods := #[k1m0, k1m1, k1m2, k1m3]
  instanceTypes := #[]
  staticTypes := #[]
  resolved := Array.replicate 37 none
  statics := none }

def pool2 : Array CpInfo := pool [(1, .class_ 2), (0, u "java/io/Serializable"), (0, .class_ 4), (0, u "java/lang/Object")] 2

/-- java/io/Serializable -/
def k2 : Class := { plain "java/io/Serializable" (some 0) with
  accessFlags := 1537
  interfaces := #[]
  cf := some (fileOf pool2 1 #[] #[] 1537 3 #[] #[])
  fields := #[]
  methods := #[]
  instanceTypes := #[]
  staticTypes := #[]
  resolved := Array.replicate 7 none
  statics := none }

def pool3 : Array CpInfo := pool [(1, .class_ 2), (0, u "java/lang/Comparable"), (0, .class_ 4), (0, u "java/lang/Object")] 7

/-- java/lang/Comparable -/
def k3 : Class := { plain "java/lang/Comparable" (some 0) with
  accessFlags := 1537
  interfaces := #[]
  cf := some (fileOf pool3 1 #[] #[] 1537 3 #[] #[])
  fields := #[]
  methods := #[]
  instanceTypes := #[]
  staticTypes := #[]
  resolved := Array.replicate 12 none
  statics := none }

def pool4 : Array CpInfo := pool [(2, .class_ 4), (1, u "java/lang/CharSequence"), (42, .class_ 48), (0, u "java/lang/CharSequence$1CodePointIterator"), (10, .class_ 60), (0, u "java/lang/CharSequence$1CharIterator"), (5, .class_ 67), (0, u "java/lang/Object")] 63

/-- java/lang/CharSequence -/
def k4 : Class := { plain "java/lang/CharSequence" (some 0) with
  accessFlags := 1537
  interfaces := #[]
  cf := some (fileOf pool4 2 #[.nestMembers #[47, 59]] #[] 1537 66 #[] #[])
  fields := #[]
  methods := #[]
  instanceTypes := #[]
  staticTypes := #[]
  resolved := Array.replicate 131 none
  statics := none }

def pool5 : Array CpInfo := pool [(1, .class_ 2), (0, u "java/lang/constant/Constable"), (0, .class_ 4), (0, u "java/lang/Object")] 6

/-- java/lang/constant/Constable -/
def k5 : Class := { plain "java/lang/constant/Constable" (some 0) with
  accessFlags := 1537
  interfaces := #[]
  cf := some (fileOf pool5 1 #[] #[] 1537 3 #[] #[])
  fields := #[]
  methods := #[]
  instanceTypes := #[]
  staticTypes := #[]
  resolved := Array.replicate 11 none
  statics := none }

def pool6 : Array CpInfo := pool [(1, .class_ 2), (0, u "java/lang/constant/ConstantDesc"), (0, .class_ 4), (0, u "java/lang/Object")] 32

/-- java/lang/constant/ConstantDesc -/
def k6 : Class := { plain "java/lang/constant/ConstantDesc" (some 0) with
  accessFlags := 1537
  interfaces := #[]
  cf := some (fileOf pool6 1 #[] #[] 1537 3 #[] #[])
  fields := #[]
  methods := #[]
  instanceTypes := #[]
  staticTypes := #[]
  resolved := Array.replicate 37 none
  statics := none }

def pool7 : Array CpInfo := pool [(1, .methodref 2 3), (0, .class_ 4), (0, .nameAndType 5 6), (0, u "java/lang/Object"), (0, u "<init>"), (0, u "()V"), (0, .string 8), (0, u ""), (0, .fieldref 10 11), (0, .class_ 12), (0, .nameAndType 13 14), (0, u "java/lang/String"), (0, u "value"), (0, u "[B"), (0, .fieldref 10 16), (0, .nameAndType 17 18), (0, u "coder"), (0, u "B"), (2, u "hash"), (0, u "I"), (2, u "hashIsZero"), (0, u "Z"), (0, .methodref 10 28), (0, .nameAndType 5 29), (0, u "([CIILjava/lang/Void;)V"), (8, .fieldref 10 39), (0, .nameAndType 40 26), (0, u "COMPACT_STRINGS"), (1, .class_ 44), (1, u "java/lang/StringUTF16"), (0, u "compress"), (1, .methodref 42 48), (0, .nameAndType 49 50), (0, u "coderFromArrayLen"), (0, u "([BI)B"), (56, .class_ 109), (1, u "java/lang/StringLatin1"), (32, u "()Z"), (34, .methodref 42 178), (0, .nameAndType 45 179), (0, u "([CII)[B"), (154, u "()I"), (0, .methodref 10 336), (0, .nameAndType 17 337), (0, u "()B"), (154, .methodref 10 493), (0, .nameAndType 494 142), (0, u "isLatin1"), (10, .methodref 10 506), (0, .nameAndType 507 334), (0, u "length"), (5, u "checkFromToIndex"), (9, u "checkBoundsBeginEnd"), (0, u "(III)V"), (50, .class_ 576), (0, u "java/lang/CharSequence"), (22, u "CASE_INSENSITIVE_ORDER"), (0, u "Ljava/util/Comparator;"), (32, .methodref 10 634), (0, .nameAndType 635 636), (0, u "indexOf"), (0, u "(II)I"), (0, .methodref 107 638), (0, .nameAndType 635 639), (0, u "([BIII)I"), (0, .methodref 42 638), (124, u "(I)I"), (244, u "([C)V"), (42, .fieldref 1054 1055), (0, .class_ 1056), (0, .nameAndType 1057 1058), (0, u "jdk/internal/util/Preconditions"), (0, u "SIOOBE_FORMATTER"), (0, u "Ljava/util/function/BiFunction;"), (3, .methodref 1054 1063), (0, .nameAndType 513 1064), (0, u "(IIILjava/util/function/BiFunction;)I"), (36, u "serialPersistentFields"), (0, u "[Ljava/io/ObjectStreamField;"), (0, .class_ 1104), (0, u "java/lang/String$CaseInsensitiveComparator"), (1, .class_ 1107), (0, u "java/io/Serializable"), (0, .class_ 1109), (0, u "java/lang/Comparable"), (0, .class_ 1111), (0, u "java/lang/constant/Constable"), (0, .class_ 1113), (0, u "java/lang/constant/ConstantDesc"), (2, u "serialVersionUID"), (0, u "J"), (3, u "REPL"), (0, u "C"), (2, u "LATIN1"), (1, u "UTF16")] 323

def k7m0 : Method := { name := "<init>", desc := "()V", sig := { parameters := [], returnType := none }, accessFlags := 1, code := none }
def k7c1 : Code := { maxStack := 5, maxLocals := 2, code := jdk_42_method_3_code, exceptionTable := #[], attributes := #[] }
def k7m1 : Method := { name := "<init>", desc := "([C)V", sig := { parameters := [(.array .char)], returnType := none }, accessFlags := 1, code := some k7c1 }
def k7c2 : Code := { maxStack := 2, maxLocals := 1, code := jdk_42_method_54_code, exceptionTable := #[], attributes := #[] }
def k7m2 : Method := { name := "length", desc := "()I", sig := { parameters := [], returnType := some .int }, accessFlags := 1, code := some k7c2 }
def k7c3 : Code := { maxStack := 3, maxLocals := 2, code := jdk_42_method_79_code, exceptionTable := #[], attributes := #[] }
def k7m3 : Method := { name := "indexOf", desc := "(I)I", sig := { parameters := [.int], returnType := some .int }, accessFlags := 1, code := some k7c3 }
def k7c4 : Code := { maxStack := 4, maxLocals := 3, code := jdk_42_method_80_code, exceptionTable := #[], attributes := #[] }
def k7m4 : Method := { name := "indexOf", desc := "(II)I", sig := { parameters := [.int, .int], returnType := some .int }, accessFlags := 1, code := some k7c4 }
def k7c5 : Code := { maxStack := 4, maxLocals := 6, code := jdk_42_method_149_code, exceptionTable := #[], attributes := #[] }
def k7m5 : Method := { name := "<init>", desc := "([CIILjava/lang/Void;)V", sig := { parameters := [(.array .char), .int, .int, (.object "java/lang/Void")], returnType := none }, accessFlags := 2, code := some k7c5 }
def k7c6 : Code := { maxStack := 1, maxLocals := 1, code := jdk_42_method_152_code, exceptionTable := #[], attributes := #[] }
def k7m6 : Method := { name := "coder", desc := "()B", sig := { parameters := [], returnType := some .byte }, accessFlags := 0, code := some k7c6 }
def k7c7 : Code := { maxStack := 1, maxLocals := 1, code := jdk_42_method_154_code, exceptionTable := #[], attributes := #[] }
def k7m7 : Method := { name := "isLatin1", desc := "()Z", sig := { parameters := [], returnType := some .boolean }, accessFlags := 0, code := some k7c7 }
def k7c8 : Code := { maxStack := 4, maxLocals := 3, code := jdk_42_method_158_code, exceptionTable := #[], attributes := #[] }
def k7m8 : Method := { name := "checkBoundsBeginEnd", desc := "(III)V", sig := { parameters := [.int, .int, .int], returnType := none }, accessFlags := 8, code := some k7c8 }
/-- java/lang/String -/
def k7 : Class := { plain "java/lang/String" (some 0) with
  accessFlags := 49
  interfaces := #[2, 3, 4, 5, 6]
  cf := some (fileOf pool7 10 #[.nestMembers #[1103]] #[{ accessFlags := 1, nameIndex := 5, descriptorIndex := 6, attributes := #[] }, { accessFlags := 1, nameIndex := 5, descriptorIndex := 1010, attributes := #[] }, { accessFlags := 1, nameIndex := 507, descriptorIndex := 334, attributes := #[] }, { accessFlags := 1, nameIndex := 635, descriptorIndex := 765, attributes := #[] }, { accessFlags := 1, nameIndex := 635, descriptorIndex := 636, attributes := #[] }, { accessFlags := 2, nameIndex := 5, descriptorIndex := 29, attributes := #[] }, { accessFlags := 0, nameIndex := 17, descriptorIndex := 337, attributes := #[] }, { accessFlags := 0, nameIndex := 494, descriptorIndex := 142, attributes := #[] }, { accessFlags := 8, nameIndex := 523, descriptorIndex := 524, attributes := #[] }] 49 2 #[1106, 1108, 575, 1110, 1112] #[{ accessFlags := 18, nameIndex := 13, descriptorIndex := 14, attributes := #[] }, { accessFlags := 18, nameIndex := 17, descriptorIndex := 18, attributes := #[] }, { accessFlags := 2, nameIndex := 21, descriptorIndex := 22, attributes := #[] }, { accessFlags := 2, nameIndex := 25, descriptorIndex := 26, attributes := #[] }, { accessFlags := 26, nameIndex := 1116, descriptorIndex := 1117, attributes := #[] }, { accessFlags := 24, nameIndex := 40, descriptorIndex := 26, attributes := #[] }, { accessFlags := 26, nameIndex := 1101, descriptorIndex := 1102, attributes := #[] }, { accessFlags := 26, nameIndex := 1121, descriptorIndex := 1122, attributes := #[] }, { accessFlags := 25, nameIndex := 599, descriptorIndex := 600, attributes := #[] }, { accessFlags := 24, nameIndex := 1125, descriptorIndex := 18, attributes := #[] }, { accessFlags := 24, nameIndex := 1127, descriptorIndex := 18, attributes := #[] }])
  fields := #[{ name := "value", type := (.array .byte), accessFlags := 18, slot := 0, constantValue := 0 }, { name := "coder", type := .byte, accessFlags := 18, slot := 1, constantValue := 0 }, { name := "hash", type := .int, accessFlags := 2, slot := 2, constantValue := 0 }, { name := "hashIsZero", type := .boolean, accessFlags := 2, slot := 3, constantValue := 0 }, { name := "serialVersionUID", type := .long, accessFlags := 26, slot := 0, constantValue := 0 }, { name := "COMPACT_STRINGS", type := .boolean, accessFlags := 24, slot := 1, constantValue := 0 }, { name := "serialPersistentFields", type := (.array (.object "java/io/ObjectStreamField")), accessFlags := 26, slot := 2, constantValue := 0 }, { name := "REPL", type := .char, accessFlags := 26, slot := 3, constantValue := 0 }, { name := "CASE_INSENSITIVE_ORDER", type := (.object "java/util/Comparator"), accessFlags := 25, slot := 4, constantValue := 0 }, { name := "LATIN1", type := .byte, accessFlags := 24, slot := 5, constantValue := 0 }, { name := "UTF16", type := .byte, accessFlags := 24, slot := 6, constantValue := 0 }]
  methods := #[k7m0, k7m1, k7m2, k7m3, k7m4, k7m5, k7m6, k7m7, k7m8]
  instanceTypes := #[(.array .byte), .byte, .int, .boolean]
  staticTypes := #[.long, .boolean, (.array (.object "java/io/ObjectStreamField")), .char, (.object "java/util/Comparator"), .byte, .byte]
  resolved := Array.replicate 1451 none
  statics := some 0 }

def pool8 : Array CpInfo := pool [(2, .class_ 4), (1, u "java/lang/Object"), (0, u "<init>"), (0, u "()V"), (0, .methodref 8 9), (0, .class_ 10), (0, .nameAndType 11 12), (0, u "java/lang/String"), (0, u "indexOf"), (0, u "(I)I"), (1, .class_ 16), (1, u "com/example/oxpecker/oxpecker/MessageTemplate"), (55, u "isTextAlone"), (0, u "(Ljava/lang/String;)Z"), (26, u "ESCAPED"), (0, u "Ljava/lang/String;")] 14

def k8m0 : Method := { name := "<init>", desc := "()V", sig := { parameters := [], returnType := none }, accessFlags := 2, code := none }
def k8c1 : Code := { maxStack := 2, maxLocals := 1, code := prog_5_method_7_code, exceptionTable := #[], attributes := #[] }
def k8m1 : Method := { name := "isTextAlone", desc := "(Ljava/lang/String;)Z", sig := { parameters := [(.object "java/lang/String")], returnType := some .boolean }, accessFlags := 8, code := some k8c1 }
/-- com/example/oxpecker/oxpecker/MessageTemplate -/
def k8 : Class := { plain "com/example/oxpecker/oxpecker/MessageTemplate" (some 0) with
  accessFlags := 48
  interfaces := #[]
  cf := some (fileOf pool8 14 #[] #[{ accessFlags := 2, nameIndex := 5, descriptorIndex := 6, attributes := #[] }, { accessFlags := 8, nameIndex := 72, descriptorIndex := 73, attributes := #[] }] 48 2 #[] #[{ accessFlags := 26, nameIndex := 100, descriptorIndex := 101, attributes := #[] }])
  fields := #[{ name := "ESCAPED", type := (.object "java/lang/String"), accessFlags := 26, slot := 0, constantValue := 0 }]
  methods := #[k8m0, k8m1]
  instanceTypes := #[]
  staticTypes := #[(.object "java/lang/String")]
  resolved := Array.replicate 116 none
  statics := none }

def pool9 : Array CpInfo := pool [(4, .class_ 6), (1, u "java/lang/Object"), (0, u "<init>"), (0, u "()V"), (5, .class_ 16), (1, u "java/lang/StringLatin1"), (21, .methodref 39 40), (0, .class_ 41), (0, .nameAndType 42 43), (0, u "java/lang/Math"), (0, u "min"), (0, u "(II)I"), (44, .methodref 14 89), (0, .nameAndType 90 91), (0, u "canEncode"), (0, u "(I)Z"), (0, .methodref 39 93), (0, .nameAndType 94 43), (0, u "max"), (0, .methodref 14 96), (0, .nameAndType 97 98), (0, u "indexOfChar"), (0, u "([BIII)I"), (2, u "indexOf"), (19, u "$assertionsDisabled"), (0, u "Z"), (98, .class_ 223), (1, u "java/lang/StringLatin1$LinesSpliterator"), (166, .class_ 391), (0, u "java/lang/StringLatin1$CharsSpliterator")] 3

def k9m0 : Method := { name := "<init>", desc := "()V", sig := { parameters := [], returnType := none }, accessFlags := 0, code := none }
def k9c1 : Code := { maxStack := 2, maxLocals := 1, code := jdk_43_method_4_code, exceptionTable := #[], attributes := #[] }
def k9m1 : Method := { name := "canEncode", desc := "(I)Z", sig := { parameters := [.int], returnType := some .boolean }, accessFlags := 9, code := some k9c1 }
def k9c2 : Code := { maxStack := 4, maxLocals := 4, code := jdk_43_method_22_code, exceptionTable := #[], attributes := #[] }
def k9m2 : Method := { name := "indexOf", desc := "([BIII)I", sig := { parameters := [(.array .byte), .int, .int, .int], returnType := some .int }, accessFlags := 9, code := some k9c2 }
def k9c3 : Code := { maxStack := 2, maxLocals := 6, code := jdk_43_method_23_code, exceptionTable := #[], attributes := #[] }
def k9m3 : Method := { name := "indexOfChar", desc := "([BIII)I", sig := { parameters := [(.array .byte), .int, .int, .int], returnType := some .int }, accessFlags := 10, code := some k9c3 }
/-- java/lang/StringLatin1 -/
def k9 : Class := { plain "java/lang/StringLatin1" (some 0) with
  accessFlags := 48
  interfaces := #[]
  cf := some (fileOf pool9 14 #[.nestMembers #[390, 221]] #[{ accessFlags := 0, nameIndex := 7, descriptorIndex := 8, attributes := #[] }, { accessFlags := 9, nameIndex := 90, descriptorIndex := 91, attributes := #[] }, { accessFlags := 9, nameIndex := 101, descriptorIndex := 98, attributes := #[] }, { accessFlags := 10, nameIndex := 97, descriptorIndex := 98, attributes := #[] }] 48 4 #[] #[{ accessFlags := 4120, nameIndex := 121, descriptorIndex := 122, attributes := #[] }])
  fields := #[{ name := "$assertionsDisabled", type := .boolean, accessFlags := 4120, slot := 0, constantValue := 0 }]
  methods := #[k9m0, k9m1, k9m2, k9m3]
  instanceTypes := #[]
  staticTypes := #[.boolean]
  resolved := Array.replicate 395 none
  statics := none }

def pool10 : Array CpInfo := pool [(1, .class_ 2), (0, u "java/lang/Math"), (1, .class_ 6), (1, u "java/lang/Object"), (0, u "<init>"), (0, u "()V"), (89, .class_ 100), (1, u "java/lang/Math$RandomNumberGeneratorHolder"), (71, u "negativeZeroFloatBits"), (0, u "J"), (2, u "negativeZeroDoubleBits"), (21, u "max"), (2, u "min"), (43, u "$assertionsDisabled"), (0, u "Z"), (88, u "(II)I"), (2, u "twoToTheDoubleScaleDown"), (0, u "D"), (4, u "twoToTheDoubleScaleUp"), (9, u "E"), (3, u "PI"), (2, u "TAU"), (2, u "DEGREES_TO_RADIANS"), (0, u "RADIANS_TO_DEGREES")] 94

def k10m0 : Method := { name := "<init>", desc := "()V", sig := { parameters := [], returnType := none }, accessFlags := 2, code := none }
def k10c1 : Code := { maxStack := 2, maxLocals := 2, code := jdk_29_method_65_code, exceptionTable := #[], attributes := #[] }
def k10m1 : Method := { name := "max", desc := "(II)I", sig := { parameters := [.int, .int], returnType := some .int }, accessFlags := 9, code := some k10c1 }
def k10c2 : Code := { maxStack := 2, maxLocals := 2, code := jdk_29_method_69_code, exceptionTable := #[], attributes := #[] }
def k10m2 : Method := { name := "min", desc := "(II)I", sig := { parameters := [.int, .int], returnType := some .int }, accessFlags := 9, code := some k10c2 }
/-- java/lang/Math -/
def k10 : Class := { plain "java/lang/Math" (some 0) with
  accessFlags := 49
  interfaces := #[]
  cf := some (fileOf pool10 1 #[.nestMembers #[98]] #[{ accessFlags := 2, nameIndex := 7, descriptorIndex := 8, attributes := #[] }, { accessFlags := 9, nameIndex := 198, descriptorIndex := 335, attributes := #[] }, { accessFlags := 9, nameIndex := 201, descriptorIndex := 335, attributes := #[] }] 49 4 #[] #[{ accessFlags := 25, nameIndex := 354, descriptorIndex := 339, attributes := #[] }, { accessFlags := 25, nameIndex := 358, descriptorIndex := 339, attributes := #[] }, { accessFlags := 25, nameIndex := 361, descriptorIndex := 339, attributes := #[] }, { accessFlags := 26, nameIndex := 364, descriptorIndex := 339, attributes := #[] }, { accessFlags := 26, nameIndex := 365, descriptorIndex := 339, attributes := #[] }, { accessFlags := 26, nameIndex := 172, descriptorIndex := 173, attributes := #[] }, { accessFlags := 26, nameIndex := 176, descriptorIndex := 173, attributes := #[] }, { accessFlags := 8, nameIndex := 344, descriptorIndex := 339, attributes := #[] }, { accessFlags := 8, nameIndex := 338, descriptorIndex := 339, attributes := #[] }, { accessFlags := 4120, nameIndex := 245, descriptorIndex := 246, attributes := #[] }])
  fields := #[{ name := "E", type := .double, accessFlags := 25, slot := 0, constantValue := 0 }, { name := "PI", type := .double, accessFlags := 25, slot := 1, constantValue := 0 }, { name := "TAU", type := .double, accessFlags := 25, slot := 2, constantValue := 0 }, { name := "DEGREES_TO_RADIANS", type := .double, accessFlags := 26, slot := 3, constantValue := 0 }, { name := "RADIANS_TO_DEGREES", type := .double, accessFlags := 26, slot := 4, constantValue := 0 }, { name := "negativeZeroFloatBits", type := .long, accessFlags := 26, slot := 5, constantValue := 0 }, { name := "negativeZeroDoubleBits", type := .long, accessFlags := 26, slot := 6, constantValue := 0 }, { name := "twoToTheDoubleScaleUp", type := .double, accessFlags := 8, slot := 7, constantValue := 0 }, { name := "twoToTheDoubleScaleDown", type := .double, accessFlags := 8, slot := 8, constantValue := 0 }, { name := "$assertionsDisabled", type := .boolean, accessFlags := 4120, slot := 9, constantValue := 0 }]
  methods := #[k10m0, k10m1, k10m2]
  instanceTypes := #[]
  staticTypes := #[.double, .double, .double, .double, .double, .long, .long, .double, .double, .boolean]
  resolved := Array.replicate 460 none
  statics := none }

def pool11 : Array CpInfo := pool [(3, .class_ 4), (0, u "java/lang/String"), (1, .class_ 8), (1, u "java/lang/Object"), (0, u "<init>"), (0, u "()V"), (0, .methodref 12 13), (0, .class_ 14), (0, .nameAndType 15 16), (0, u "java/lang/StringUTF16"), (0, u "newBytesLength"), (0, u "(I)I"), (3, .integer 1073741823), (23, .fieldref 12 45), (0, .nameAndType 46 47), (0, u "$assertionsDisabled"), (0, u "Z"), (0, .methodref 12 49), (0, .nameAndType 50 51), (0, u "length"), (0, u "([B)I"), (7, .fieldref 12 60), (0, .nameAndType 61 62), (0, u "HI_BYTE_SHIFT"), (0, u "I"), (0, .fieldref 12 64), (0, .nameAndType 65 62), (0, u "LO_BYTE_SHIFT"), (5, .methodref 12 72), (0, .nameAndType 73 74), (0, u "getChar"), (0, u "([BI)C"), (21, .methodref 12 97), (0, .nameAndType 98 99), (0, u "checkBoundsBeginEnd"), (0, u "(II[B)V"), (7, .methodref 12 108), (0, .nameAndType 109 110), (0, u "newBytesFor"), (0, u "(I)[B"), (0, .methodref 12 112), (0, .nameAndType 113 114), (0, u "putChar"), (0, u "([BII)V"), (0, .methodref 12 116), (0, .nameAndType 117 118), (0, u "compress"), (0, u "([CI[BII)I"), (0, .methodref 12 120), (0, .nameAndType 121 122), (0, u "toBytes"), (0, u "([CII)[B"), (60, .methodref 184 185), (0, .class_ 186), (0, .nameAndType 187 188), (0, u "java/lang/Math"), (0, u "min"), (0, u "(II)I"), (35, .methodref 184 225), (0, .nameAndType 226 188), (0, u "max"), (0, .integer 65536), (0, .methodref 12 229), (0, .nameAndType 230 231), (0, u "indexOfChar"), (0, u "([BIII)I"), (9, .methodref 3 242), (0, .nameAndType 98 243), (0, u "(III)V"), (0, .methodref 12 245), (0, .nameAndType 246 231), (0, u "indexOfCharUnsafe"), (14, u "coderFromArrayLen"), (0, u "([BI)B"), (5, u "indexOf"), (100, .class_ 371), (1, u "java/lang/StringUTF16$LinesSpliterator"), (58, u "MAX_LENGTH"), (196, .class_ 628), (0, u "java/lang/StringUTF16$CodePointsSpliterator"), (0, .class_ 630), (0, u "java/lang/StringUTF16$CharsSpliterator")] 4

def k11m0 : Method := { name := "<init>", desc := "()V", sig := { parameters := [], returnType := none }, accessFlags := 0, code := none }
def k11c1 : Code := { maxStack := 1, maxLocals := 1, code := jdk_52_method_2_code, exceptionTable := #[], attributes := #[] }
def k11m1 : Method := { name := "newBytesFor", desc := "(I)[B", sig := { parameters := [.int], returnType := some (.array .byte) }, accessFlags := 9, code := some k11c1 }
def k11c2 : Code := { maxStack := 4, maxLocals := 1, code := jdk_52_method_3_code, exceptionTable := #[], attributes := #[] }
def k11m2 : Method := { name := "newBytesLength", desc := "(I)I", sig := { parameters := [.int], returnType := some .int }, accessFlags := 9, code := some k11c2 }
def k11c3 : Code := { maxStack := 4, maxLocals := 3, code := jdk_52_method_4_code, exceptionTable := #[], attributes := #[] }
def k11m3 : Method := { name := "putChar", desc := "([BII)V", sig := { parameters := [(.array .byte), .int, .int], returnType := none }, accessFlags := 8, code := some k11c3 }
def k11c4 : Code := { maxStack := 3, maxLocals := 2, code := jdk_52_method_5_code, exceptionTable := #[], attributes := #[] }
def k11m4 : Method := { name := "getChar", desc := "([BI)C", sig := { parameters := [(.array .byte), .int], returnType := some .char }, accessFlags := 8, code := some k11c4 }
def k11c5 : Code := { maxStack := 2, maxLocals := 1, code := jdk_52_method_6_code, exceptionTable := #[], attributes := #[] }
def k11m5 : Method := { name := "length", desc := "([B)I", sig := { parameters := [(.array .byte)], returnType := some .int }, accessFlags := 9, code := some k11c5 }
def k11c6 : Code := { maxStack := 4, maxLocals := 5, code := jdk_52_method_14_code, exceptionTable := #[], attributes := #[] }
def k11m6 : Method := { name := "toBytes", desc := "([CII)[B", sig := { parameters := [(.array .char), .int, .int], returnType := some (.array .byte) }, accessFlags := 9, code := some k11c6 }
def k11c7 : Code := { maxStack := 2, maxLocals := 2, code := jdk_52_method_15_code, exceptionTable := #[], attributes := #[] }
def k11m7 : Method := { name := "coderFromArrayLen", desc := "([BI)B", sig := { parameters := [(.array .byte), .int], returnType := some .byte }, accessFlags := 8, code := some k11c7 }
def k11c8 : Code := { maxStack := 5, maxLocals := 6, code := jdk_52_method_16_code, exceptionTable := #[], attributes := #[] }
def k11m8 : Method := { name := "compress", desc := "([CII)[B", sig := { parameters := [(.array .char), .int, .int], returnType := some (.array .byte) }, accessFlags := 9, code := some k11c8 }
def k11c9 : Code := { maxStack := 3, maxLocals := 7, code := jdk_52_method_21_code, exceptionTable := #[], attributes := #[] }
def k11m9 : Method := { name := "compress", desc := "([CI[BII)I", sig := { parameters := [(.array .char), .int, (.array .byte), .int, .int], returnType := some .int }, accessFlags := 9, code := some k11c9 }
def k11c10 : Code := { maxStack := 4, maxLocals := 4, code := jdk_52_method_40_code, exceptionTable := #[], attributes := #[] }
def k11m10 : Method := { name := "indexOf", desc := "([BIII)I", sig := { parameters := [(.array .byte), .int, .int, .int], returnType := some .int }, accessFlags := 9, code := some k11c10 }
def k11c11 : Code := { maxStack := 4, maxLocals := 4, code := jdk_52_method_47_code, exceptionTable := #[], attributes := #[] }
def k11m11 : Method := { name := "indexOfChar", desc := "([BIII)I", sig := { parameters := [(.array .byte), .int, .int, .int], returnType := some .int }, accessFlags := 10, code := some k11c11 }
def k11c12 : Code := { maxStack := 2, maxLocals := 5, code := jdk_52_method_48_code, exceptionTable := #[], attributes := #[] }
def k11m12 : Method := { name := "indexOfCharUnsafe", desc := "([BIII)I", sig := { parameters := [(.array .byte), .int, .int, .int], returnType := some .int }, accessFlags := 10, code := some k11c12 }
def k11c13 : Code := { maxStack := 3, maxLocals := 3, code := jdk_52_method_93_code, exceptionTable := #[], attributes := #[] }
def k11m13 : Method := { name := "checkBoundsBeginEnd", desc := "(II[B)V", sig := { parameters := [.int, .int, (.array .byte)], returnType := none }, accessFlags := 9, code := some k11c13 }
/-- java/lang/StringUTF16 -/
def k11 : Class := { plain "java/lang/StringUTF16" (some 0) with
  accessFlags := 48
  interfaces := #[]
  cf := some (fileOf pool11 12 #[.nestMembers #[627, 629, 369]] #[{ accessFlags := 0, nameIndex := 9, descriptorIndex := 10, attributes := #[] }, { accessFlags := 9, nameIndex := 109, descriptorIndex := 110, attributes := #[] }, { accessFlags := 9, nameIndex := 15, descriptorIndex := 16, attributes := #[] }, { accessFlags := 8, nameIndex := 113, descriptorIndex := 114, attributes := #[] }, { accessFlags := 8, nameIndex := 73, descriptorIndex := 74, attributes := #[] }, { accessFlags := 9, nameIndex := 50, descriptorIndex := 51, attributes := #[] }, { accessFlags := 9, nameIndex := 121, descriptorIndex := 122, attributes := #[] }, { accessFlags := 8, nameIndex := 261, descriptorIndex := 262, attributes := #[] }, { accessFlags := 9, nameIndex := 117, descriptorIndex := 122, attributes := #[] }, { accessFlags := 9, nameIndex := 117, descriptorIndex := 118, attributes := #[] }, { accessFlags := 9, nameIndex := 268, descriptorIndex := 231, attributes := #[] }, { accessFlags := 10, nameIndex := 230, descriptorIndex := 231, attributes := #[] }, { accessFlags := 10, nameIndex := 246, descriptorIndex := 231, attributes := #[] }, { accessFlags := 9, nameIndex := 98, descriptorIndex := 99, attributes := #[] }] 48 6 #[] #[{ accessFlags := 26, nameIndex := 61, descriptorIndex := 62, attributes := #[] }, { accessFlags := 26, nameIndex := 65, descriptorIndex := 62, attributes := #[] }, { accessFlags := 24, nameIndex := 430, descriptorIndex := 62, attributes := #[] }, { accessFlags := 4120, nameIndex := 46, descriptorIndex := 47, attributes := #[] }])
  fields := #[{ name := "HI_BYTE_SHIFT", type := .int, accessFlags := 26, slot := 0, constantValue := 0 }, { name := "LO_BYTE_SHIFT", type := .int, accessFlags := 26, slot := 1, constantValue := 0 }, { name := "MAX_LENGTH", type := .int, accessFlags := 24, slot := 2, constantValue := 0 }, { name := "$assertionsDisabled", type := .boolean, accessFlags := 4120, slot := 3, constantValue := 0 }]
  methods := #[k11m0, k11m1, k11m2, k11m3, k11m4, k11m5, k11m6, k11m7, k11m8, k11m9, k11m10, k11m11, k11m12, k11m13]
  instanceTypes := #[]
  staticTypes := #[.int, .int, .int, .boolean]
  resolved := Array.replicate 635 none
  statics := some 1 }

def pool12 : Array CpInfo := pool [(2, .class_ 4), (1, u "java/lang/Object"), (0, u "<init>"), (0, u "()V"), (17, .class_ 26), (1, u "jdk/internal/util/Preconditions"), (20, u "checkFromToIndex"), (7, .class_ 56), (0, u "jdk/internal/util/Preconditions$4"), (57, .class_ 115), (0, u "jdk/internal/util/Preconditions$1"), (7, u "SIOOBE_FORMATTER"), (0, u "Ljava/util/function/BiFunction;"), (0, .class_ 126), (0, u "jdk/internal/util/Preconditions$2"), (3, u "AIOOBE_FORMATTER"), (0, .class_ 132), (0, u "jdk/internal/util/Preconditions$3"), (3, u "IOOBE_FORMATTER"), (46, u "(IIILjava/util/function/BiFunction;)I")] 10

def k12m0 : Method := { name := "<init>", desc := "()V", sig := { parameters := [], returnType := none }, accessFlags := 1, code := none }
def k12c1 : Code := { maxStack := 4, maxLocals := 4, code := jdk_41_method_12_code, exceptionTable := #[], attributes := #[] }
def k12m1 : Method := { name := "checkFromToIndex", desc := "(IIILjava/util/function/BiFunction;)I", sig := { parameters := [.int, .int, .int, (.object "java/util/function/BiFunction")], returnType := some .int }, accessFlags := 9, code := some k12c1 }
/-- jdk/internal/util/Preconditions -/
def k12 : Class := { plain "jdk/internal/util/Preconditions" (some 0) with
  accessFlags := 33
  interfaces := #[]
  cf := some (fileOf pool12 24 #[.nestMembers #[55, 131, 125, 114]] #[{ accessFlags := 1, nameIndex := 5, descriptorIndex := 6, attributes := #[] }, { accessFlags := 9, nameIndex := 47, descriptorIndex := 183, attributes := #[] }] 33 2 #[] #[{ accessFlags := 25, nameIndex := 123, descriptorIndex := 124, attributes := #[] }, { accessFlags := 25, nameIndex := 130, descriptorIndex := 124, attributes := #[] }, { accessFlags := 25, nameIndex := 136, descriptorIndex := 124, attributes := #[] }])
  fields := #[{ name := "SIOOBE_FORMATTER", type := (.object "java/util/function/BiFunction"), accessFlags := 25, slot := 0, constantValue := 0 }, { name := "AIOOBE_FORMATTER", type := (.object "java/util/function/BiFunction"), accessFlags := 25, slot := 1, constantValue := 0 }, { name := "IOOBE_FORMATTER", type := (.object "java/util/function/BiFunction"), accessFlags := 25, slot := 2, constantValue := 0 }]
  methods := #[k12m0, k12m1]
  instanceTypes := #[]
  staticTypes := #[(.object "java/util/function/BiFunction"), (.object "java/util/function/BiFunction"), (.object "java/util/function/BiFunction")]
  resolved := Array.replicate 194 none
  statics := some 2 }

def pool13 : Array CpInfo := pool [(9, u "<init>"), (6, .class_ 18), (1, u "java/lang/Object"), (0, u "()V"), (1, .class_ 23), (1, u "jdk/internal/util/ArraysSupport"), (0, u "LOG2_ARRAY_LONG_INDEX_SCALE"), (0, u "I"), (2, u "U"), (0, u "Ljdk/internal/misc/Unsafe;"), (8, u "BIG_ENDIAN"), (0, u "Z"), (8, u "LOG2_BYTE_BIT_SIZE"), (4, u "LOG2_ARRAY_INT_INDEX_SCALE"), (54, u "JLA"), (0, u "Ljdk/internal/access/JavaLangAccess;"), (11, u "LOG2_ARRAY_BOOLEAN_INDEX_SCALE"), (9, u "LOG2_ARRAY_BYTE_INDEX_SCALE"), (5, u "LOG2_ARRAY_CHAR_INDEX_SCALE"), (5, u "LOG2_ARRAY_SHORT_INDEX_SCALE"), (18, u "LOG2_ARRAY_FLOAT_INDEX_SCALE"), (24, u "LOG2_ARRAY_DOUBLE_INDEX_SCALE"), (89, u "T_BOOLEAN"), (2, u "T_CHAR"), (1, u "T_FLOAT"), (1, u "T_DOUBLE"), (1, u "T_BYTE"), (1, u "T_SHORT"), (1, u "T_INT"), (1, u "T_LONG"), (1, u "SOFT_MAX_ARRAY_LENGTH")] 83

def k13m0 : Method := { name := "<init>", desc := "()V", sig := { parameters := [], returnType := none }, accessFlags := 2, code := none }
/-- jdk/internal/util/ArraysSupport -/
def k13 : Class := { plain "jdk/internal/util/ArraysSupport" (some 0) with
  accessFlags := 33
  interfaces := #[]
  cf := some (fileOf pool13 21 #[] #[{ accessFlags := 2, nameIndex := 9, descriptorIndex := 19, attributes := #[] }] 33 16 #[] #[{ accessFlags := 24, nameIndex := 28, descriptorIndex := 29, attributes := #[] }, { accessFlags := 26, nameIndex := 38, descriptorIndex := 39, attributes := #[] }, { accessFlags := 25, nameIndex := 121, descriptorIndex := 25, attributes := #[] }, { accessFlags := 25, nameIndex := 131, descriptorIndex := 25, attributes := #[] }, { accessFlags := 25, nameIndex := 137, descriptorIndex := 25, attributes := #[] }, { accessFlags := 25, nameIndex := 143, descriptorIndex := 25, attributes := #[] }, { accessFlags := 25, nameIndex := 53, descriptorIndex := 25, attributes := #[] }, { accessFlags := 25, nameIndex := 24, descriptorIndex := 25, attributes := #[] }, { accessFlags := 25, nameIndex := 162, descriptorIndex := 25, attributes := #[] }, { accessFlags := 25, nameIndex := 187, descriptorIndex := 25, attributes := #[] }, { accessFlags := 26, nameIndex := 48, descriptorIndex := 25, attributes := #[] }, { accessFlags := 25, nameIndex := 277, descriptorIndex := 25, attributes := #[] }, { accessFlags := 25, nameIndex := 280, descriptorIndex := 25, attributes := #[] }, { accessFlags := 25, nameIndex := 282, descriptorIndex := 25, attributes := #[] }, { accessFlags := 25, nameIndex := 284, descriptorIndex := 25, attributes := #[] }, { accessFlags := 25, nameIndex := 286, descriptorIndex := 25, attributes := #[] }, { accessFlags := 25, nameIndex := 288, descriptorIndex := 25, attributes := #[] }, { accessFlags := 25, nameIndex := 290, descriptorIndex := 25, attributes := #[] }, { accessFlags := 25, nameIndex := 292, descriptorIndex := 25, attributes := #[] }, { accessFlags := 26, nameIndex := 108, descriptorIndex := 109, attributes := #[] }, { accessFlags := 25, nameIndex := 294, descriptorIndex := 25, attributes := #[] }])
  fields := #[{ name := "U", type := (.object "jdk/internal/misc/Unsafe"), accessFlags := 24, slot := 0, constantValue := 0 }, { name := "BIG_ENDIAN", type := .boolean, accessFlags := 26, slot := 1, constantValue := 0 }, { name := "LOG2_ARRAY_BOOLEAN_INDEX_SCALE", type := .int, accessFlags := 25, slot := 2, constantValue := 0 }, { name := "LOG2_ARRAY_BYTE_INDEX_SCALE", type := .int, accessFlags := 25, slot := 3, constantValue := 0 }, { name := "LOG2_ARRAY_CHAR_INDEX_SCALE", type := .int, accessFlags := 25, slot := 4, constantValue := 0 }, { name := "LOG2_ARRAY_SHORT_INDEX_SCALE", type := .int, accessFlags := 25, slot := 5, constantValue := 0 }, { name := "LOG2_ARRAY_INT_INDEX_SCALE", type := .int, accessFlags := 25, slot := 6, constantValue := 0 }, { name := "LOG2_ARRAY_LONG_INDEX_SCALE", type := .int, accessFlags := 25, slot := 7, constantValue := 0 }, { name := "LOG2_ARRAY_FLOAT_INDEX_SCALE", type := .int, accessFlags := 25, slot := 8, constantValue := 0 }, { name := "LOG2_ARRAY_DOUBLE_INDEX_SCALE", type := .int, accessFlags := 25, slot := 9, constantValue := 0 }, { name := "LOG2_BYTE_BIT_SIZE", type := .int, accessFlags := 26, slot := 10, constantValue := 0 }, { name := "T_BOOLEAN", type := .int, accessFlags := 25, slot := 11, constantValue := 0 }, { name := "T_CHAR", type := .int, accessFlags := 25, slot := 12, constantValue := 0 }, { name := "T_FLOAT", type := .int, accessFlags := 25, slot := 13, constantValue := 0 }, { name := "T_DOUBLE", type := .int, accessFlags := 25, slot := 14, constantValue := 0 }, { name := "T_BYTE", type := .int, accessFlags := 25, slot := 15, constantValue := 0 }, { name := "T_SHORT", type := .int, accessFlags := 25, slot := 16, constantValue := 0 }, { name := "T_INT", type := .int, accessFlags := 25, slot := 17, constantValue := 0 }, { name := "T_LONG", type := .int, accessFlags := 25, slot := 18, constantValue := 0 }, { name := "JLA", type := (.object "jdk/internal/access/JavaLangAccess"), accessFlags := 26, slot := 19, constantValue := 0 }, { name := "SOFT_MAX_ARRAY_LENGTH", type := .int, accessFlags := 25, slot := 20, constantValue := 0 }]
  methods := #[k13m0]
  instanceTypes := #[]
  staticTypes := #[(.object "jdk/internal/misc/Unsafe"), .boolean, .int, .int, .int, .int, .int, .int, .int, .int, .int, .int, .int, .int, .int, .int, .int, .int, .int, (.object "jdk/internal/access/JavaLangAccess"), .int]
  resolved := Array.replicate 378 none
  statics := none }

def pool14 : Array CpInfo := pool [(1, u "java/lang/Cloneable"), (0, .class_ 1), (0, u "java/lang/Object"), (0, .class_ 3)] 3

/-- java/lang/Cloneable -/
def k14 : Class := { plain "java/lang/Cloneable" (some 0) with
  accessFlags := 1537
  interfaces := #[]
  cf := some (fileOf pool14 2 #[] #[] 1537 4 #[] #[])
  fields := #[]
  methods := #[]
  instanceTypes := #[]
  staticTypes := #[]
  resolved := Array.replicate 8 none
  statics := none }

/-- the primitive byte -/
def k15 : Class := { plain "byte" none with kind := .primitive 'B', accessFlags := 0x411 }
/-- [B -/
def k16 : Class := { plain "[B" (some 0) with kind := .array 15 .byte, interfaces := #[14, 2], accessFlags := 1041 }

/-- the primitive char -/
def k17 : Class := { plain "char" none with kind := .primitive 'C', accessFlags := 0x411 }
/-- [C -/
def k18 : Class := { plain "[C" (some 0) with kind := .array 17 .char, interfaces := #[14, 2], accessFlags := 1041 }

/-- the primitive int -/
def k19 : Class := { plain "int" none with kind := .primitive 'I', accessFlags := 0x411 }
/-- [I -/
def k20 : Class := { plain "[I" (some 0) with kind := .array 19 .int, interfaces := #[14, 2], accessFlags := 1041 }

def heap : Heap := #[{ cls := 7, slots := #[.long 0, .int 1, .null, .int 0, .null, .int 0, .int 0], vm := .statics 7 },
  { cls := 11, slots := #[.int 0, .int 8, .int 0, .int 1], vm := .statics 11 },
  { cls := 12, slots := #[.null, .null, .null], vm := .statics 12 }]
def classes : Array Class := #[k0, k1, k2, k3, k4, k5, k6, k7, k8, k9, k10, k11, k12, k13, k14, k15, k16, k17, k18, k19, k20]
def interned : List (Array UInt16 × Addr) := []
def slotsUsed : Nat := 14
def theMethod : MethodId := ⟨1, 1⟩
def args0 : Array Value := #[.int 5, .int 5, .int 5, .int 5, .int 5]
def aboutOver (below : List Frame) : State where
  vm := { classes := classes, interned := interned.toArray }
  heap := heap
  slotsUsed := slotsUsed
  threads := #[{ frames := .invoking theMethod args0 :: below }]
def below0 : List Frame := [.native { method := ⟨0, 0⟩, args := #[] }]
def about1 : State := aboutOver below0
def p0 : Program := .bare "" "" ""
def e0 : Env := launch0.env 0 0 0
theorem w_frames : about1.frames = Frame.invoking theMethod args0 :: below0 := rfl
set_option maxRecDepth 65536 in
theorem w_args : argsFit about1.vm theMethod args0 = true := by decide +kernel
set_option maxRecDepth 65536 in
theorem w_heap : heapFits about1 = true := by decide +kernel
set_option maxRecDepth 65536 in
theorem w_runnable : about1.curStatus? = some .runnable := by decide +kernel
set_option maxRecDepth 65536 in
theorem w_alone : about1.alone = true := by decide +kernel
set_option maxRecDepth 65536 in
theorem w_named : about1.methodNamed? x = some theMethod := by decide +kernel
set_option maxRecDepth 65536 in
theorem w_hears : about1.hears theMethod below0 = true := by decide +kernel
set_option maxRecDepth 65536 in
theorem w_ripe : about1.ripe theMethod args0 below0 = true := by decide +kernel
theorem w_running : about1.status = .running := rfl
set_option maxRecDepth 65536 in
theorem w_room : about1.hasRoom e0.platform room_1 = true :=
  launch0.hasRoom_least _ room_1 (by decide +kernel) (by decide +kernel) (by decide +kernel) (by decide +kernel) (by decide +kernel) (by decide +kernel)
theorem allAtoms_all (ts : List Jvm.Cond) (a : Array Jvm.Value) (st : Jvm.State) : (allAtoms ts).before a st = ts.all (fun c => c.before a st) := by
  induction ts with
  | nil => rfl
  | cons c t ih =>
    show (Jvm.Cond.and c (allAtoms t)).before a st = _
    rw [Jvm.Cond.before_and, ih, List.all_cons]
def words1 : List Jvm.Cond := Jvm.Cond.code x code maxLocals ret :: tables_1
/-- a 'code' word, met by the world's own term for the bytes: nothing is compared byte by byte -/
theorem code_word {y : MethodName} {bytes : ByteArray} {mx : Nat} {rt : Option FieldType} {a : Array Value} {s : State} {m : MethodId} {meth : Method} {c : Code} (h1 : s.methodNamed? y = some m) (h2 : s.vm.method? m = some meth) (h3 : meth.code = some c) (h4 : c.code = bytes)
    (h5 : (c.maxLocals == mx && c.exceptionTable.isEmpty && decide (c.maxStack ≤ mostOperands) && decide (meth.sig.returnType = rt) && !meth.locks && decide (parseMethodDescriptor y.desc = some meth.sig)) = true) : (Jvm.Cond.code y bytes mx rt).before a s = true := by
  simp only [Bool.and_eq_true, beq_iff_eq, Bool.not_eq_true', decide_eq_true_eq] at h5
  obtain ⟨⟨⟨⟨⟨g1, g2⟩, g3⟩, g4⟩, g5⟩, g6⟩ := h5
  simp [Cond.before, Cond.holds, Cond.value, h1, h2, h3, h4, g1, g2, g3, g4, g5, g6]
def isCode : Jvm.Cond → Bool
  | .code _ _ _ _ => true
  | _ => false
theorem all_split {L : List Jvm.Cond} {P : Jvm.Cond → Bool} (h1 : L.all (fun c => isCode c || P c) = true) (h2 : ∀ c ∈ L.filter isCode, P c = true) : L.all P = true := by
  refine List.all_eq_true.mpr fun c hc => ?_
  have h := List.all_eq_true.mp h1 c hc
  rcases Bool.eq_false_or_eq_true (isCode c) with hi | hi
  · exact h2 c (List.mem_filter.mpr ⟨hc, hi⟩)
  · simpa [hi] using h
set_option maxRecDepth 65536 in
theorem w_c0 : (Jvm.Cond.code x code maxLocals ret).before args0 about1 = true := code_word (m := ⟨1, 1⟩) (meth := k1m1) (c := k1c1) (by decide +kernel) rfl rfl rfl (by decide +kernel)
set_option maxRecDepth 65536 in
theorem w_c1 : (Jvm.Cond.code ({ cls := "com/example/oxpecker/oxpecker/MessageTemplateIsTextAlonePinLaw", name := "pick", desc := "(I)C" } : Jvm.MethodName) method_3_code (2 : Nat) (Option.some Jvm.ClassFile.FieldType.char)).before args0 about1 = true := code_word (m := ⟨1, 2⟩) (meth := k1m2) (c := k1c2) (by decide +kernel) rfl rfl rfl (by decide +kernel)
set_option maxRecDepth 65536 in
theorem w_c2 : (Jvm.Cond.code ({ cls := "java/lang/String", name := "<init>", desc := "([C)V" } : Jvm.MethodName) jdk_42_method_3_code (2 : Nat) (Option.none : Option Jvm.ClassFile.FieldType)).before args0 about1 = true := code_word (m := ⟨7, 1⟩) (meth := k7m1) (c := k7c1) (by decide +kernel) rfl rfl rfl (by decide +kernel)
set_option maxRecDepth 65536 in
theorem w_c3 : (Jvm.Cond.code ({ cls := "java/lang/String", name := "<init>", desc := "([CIILjava/lang/Void;)V" } : Jvm.MethodName) jdk_42_method_149_code (6 : Nat) (Option.none : Option Jvm.ClassFile.FieldType)).before args0 about1 = true := code_word (m := ⟨7, 5⟩) (meth := k7m5) (c := k7c5) (by decide +kernel) rfl rfl rfl (by decide +kernel)
set_option maxRecDepth 65536 in
theorem w_c4 : (Jvm.Cond.code ({ cls := "java/lang/Object", name := "<init>", desc := "()V" } : Jvm.MethodName) object_method_1_code (1 : Nat) (Option.none : Option Jvm.ClassFile.FieldType)).before args0 about1 = true := code_word (m := ⟨0, 0⟩) (meth := k0m0) (c := k0c0) (by decide +kernel) rfl rfl rfl (by decide +kernel)
set_option maxRecDepth 65536 in
theorem w_c5 : (Jvm.Cond.code ({ cls := "com/example/oxpecker/oxpecker/MessageTemplate", name := "isTextAlone", desc := "(Ljava/lang/String;)Z" } : Jvm.MethodName) prog_5_method_7_code (1 : Nat) (Option.some Jvm.ClassFile.FieldType.boolean)).before args0 about1 = true := code_word (m := ⟨8, 1⟩) (meth := k8m1) (c := k8c1) (by decide +kernel) rfl rfl rfl (by decide +kernel)
set_option maxRecDepth 65536 in
theorem w_c6 : (Jvm.Cond.code ({ cls := "java/lang/String", name := "indexOf", desc := "(I)I" } : Jvm.MethodName) jdk_42_method_79_code (2 : Nat) (Option.some Jvm.ClassFile.FieldType.int)).before args0 about1 = true := code_word (m := ⟨7, 3⟩) (meth := k7m3) (c := k7c3) (by decide +kernel) rfl rfl rfl (by decide +kernel)
set_option maxRecDepth 65536 in
theorem w_c7 : (Jvm.Cond.code ({ cls := "java/lang/String", name := "indexOf", desc := "(II)I" } : Jvm.MethodName) jdk_42_method_80_code (3 : Nat) (Option.some Jvm.ClassFile.FieldType.int)).before args0 about1 = true := code_word (m := ⟨7, 4⟩) (meth := k7m4) (c := k7c4) (by decide +kernel) rfl rfl rfl (by decide +kernel)
set_option maxRecDepth 65536 in
theorem w_c8 : (Jvm.Cond.code ({ cls := "java/lang/String", name := "isLatin1", desc := "()Z" } : Jvm.MethodName) jdk_42_method_154_code (1 : Nat) (Option.some Jvm.ClassFile.FieldType.boolean)).before args0 about1 = true := code_word (m := ⟨7, 7⟩) (meth := k7m7) (c := k7c7) (by decide +kernel) rfl rfl rfl (by decide +kernel)
set_option maxRecDepth 65536 in
theorem w_c9 : (Jvm.Cond.code ({ cls := "java/lang/String", name := "length", desc := "()I" } : Jvm.MethodName) jdk_42_method_54_code (1 : Nat) (Option.some Jvm.ClassFile.FieldType.int)).before args0 about1 = true := code_word (m := ⟨7, 2⟩) (meth := k7m2) (c := k7c2) (by decide +kernel) rfl rfl rfl (by decide +kernel)
set_option maxRecDepth 65536 in
theorem w_c10 : (Jvm.Cond.code ({ cls := "java/lang/String", name := "coder", desc := "()B" } : Jvm.MethodName) jdk_42_method_152_code (1 : Nat) (Option.some Jvm.ClassFile.FieldType.byte)).before args0 about1 = true := code_word (m := ⟨7, 6⟩) (meth := k7m6) (c := k7c6) (by decide +kernel) rfl rfl rfl (by decide +kernel)
set_option maxRecDepth 65536 in
theorem w_c11 : (Jvm.Cond.code ({ cls := "java/lang/StringLatin1", name := "indexOf", desc := "([BIII)I" } : Jvm.MethodName) jdk_43_method_22_code (4 : Nat) (Option.some Jvm.ClassFile.FieldType.int)).before args0 about1 = true := code_word (m := ⟨9, 2⟩) (meth := k9m2) (c := k9c2) (by decide +kernel) rfl rfl rfl (by decide +kernel)
set_option maxRecDepth 65536 in
theorem w_c12 : (Jvm.Cond.code ({ cls := "java/lang/StringLatin1", name := "canEncode", desc := "(I)Z" } : Jvm.MethodName) jdk_43_method_4_code (1 : Nat) (Option.some Jvm.ClassFile.FieldType.boolean)).before args0 about1 = true := code_word (m := ⟨9, 1⟩) (meth := k9m1) (c := k9c1) (by decide +kernel) rfl rfl rfl (by decide +kernel)
set_option maxRecDepth 65536 in
theorem w_c13 : (Jvm.Cond.code ({ cls := "java/lang/Math", name := "max", desc := "(II)I" } : Jvm.MethodName) jdk_29_method_65_code (2 : Nat) (Option.some Jvm.ClassFile.FieldType.int)).before args0 about1 = true := code_word (m := ⟨10, 1⟩) (meth := k10m1) (c := k10c1) (by decide +kernel) rfl rfl rfl (by decide +kernel)
set_option maxRecDepth 65536 in
theorem w_c14 : (Jvm.Cond.code ({ cls := "java/lang/Math", name := "min", desc := "(II)I" } : Jvm.MethodName) jdk_29_method_69_code (2 : Nat) (Option.some Jvm.ClassFile.FieldType.int)).before args0 about1 = true := code_word (m := ⟨10, 2⟩) (meth := k10m2) (c := k10c2) (by decide +kernel) rfl rfl rfl (by decide +kernel)
set_option maxRecDepth 65536 in
theorem w_c15 : (Jvm.Cond.code ({ cls := "java/lang/StringUTF16", name := "compress", desc := "([CII)[B" } : Jvm.MethodName) jdk_52_method_16_code (6 : Nat) (Option.some (Jvm.ClassFile.FieldType.array Jvm.ClassFile.FieldType.byte))).before args0 about1 = true := code_word (m := ⟨11, 8⟩) (meth := k11m8) (c := k11c8) (by decide +kernel) rfl rfl rfl (by decide +kernel)
set_option maxRecDepth 65536 in
theorem w_c16 : (Jvm.Cond.code ({ cls := "java/lang/StringUTF16", name := "compress", desc := "([CI[BII)I" } : Jvm.MethodName) jdk_52_method_21_code (7 : Nat) (Option.some Jvm.ClassFile.FieldType.int)).before args0 about1 = true := code_word (m := ⟨11, 9⟩) (meth := k11m9) (c := k11c9) (by decide +kernel) rfl rfl rfl (by decide +kernel)
set_option maxRecDepth 65536 in
theorem w_c17 : (Jvm.Cond.code ({ cls := "java/lang/StringUTF16", name := "coderFromArrayLen", desc := "([BI)B" } : Jvm.MethodName) jdk_52_method_15_code (2 : Nat) (Option.some Jvm.ClassFile.FieldType.byte)).before args0 about1 = true := code_word (m := ⟨11, 7⟩) (meth := k11m7) (c := k11c7) (by decide +kernel) rfl rfl rfl (by decide +kernel)
set_option maxRecDepth 65536 in
theorem w_c18 : (Jvm.Cond.code ({ cls := "com/example/oxpecker/oxpecker/MessageTemplateIsTextAlonePinLaw", name := "plain", desc := "(C)Z" } : Jvm.MethodName) method_4_code (1 : Nat) (Option.some Jvm.ClassFile.FieldType.boolean)).before args0 about1 = true := code_word (m := ⟨1, 3⟩) (meth := k1m3) (c := k1c3) (by decide +kernel) rfl rfl rfl (by decide +kernel)
set_option maxRecDepth 65536 in
theorem w_c19 : (Jvm.Cond.code ({ cls := "java/lang/StringLatin1", name := "indexOfChar", desc := "([BIII)I" } : Jvm.MethodName) jdk_43_method_23_code (6 : Nat) (Option.some Jvm.ClassFile.FieldType.int)).before args0 about1 = true := code_word (m := ⟨9, 3⟩) (meth := k9m3) (c := k9c3) (by decide +kernel) rfl rfl rfl (by decide +kernel)
set_option maxRecDepth 65536 in
theorem w_c20 : (Jvm.Cond.code ({ cls := "java/lang/StringUTF16", name := "toBytes", desc := "([CII)[B" } : Jvm.MethodName) jdk_52_method_14_code (5 : Nat) (Option.some (Jvm.ClassFile.FieldType.array Jvm.ClassFile.FieldType.byte))).before args0 about1 = true := code_word (m := ⟨11, 6⟩) (meth := k11m6) (c := k11c6) (by decide +kernel) rfl rfl rfl (by decide +kernel)
set_option maxRecDepth 65536 in
theorem w_c21 : (Jvm.Cond.code ({ cls := "java/lang/StringUTF16", name := "newBytesFor", desc := "(I)[B" } : Jvm.MethodName) jdk_52_method_2_code (1 : Nat) (Option.some (Jvm.ClassFile.FieldType.array Jvm.ClassFile.FieldType.byte))).before args0 about1 = true := code_word (m := ⟨11, 1⟩) (meth := k11m1) (c := k11c1) (by decide +kernel) rfl rfl rfl (by decide +kernel)
set_option maxRecDepth 65536 in
theorem w_c22 : (Jvm.Cond.code ({ cls := "java/lang/StringUTF16", name := "newBytesLength", desc := "(I)I" } : Jvm.MethodName) jdk_52_method_3_code (1 : Nat) (Option.some Jvm.ClassFile.FieldType.int)).before args0 about1 = true := code_word (m := ⟨11, 2⟩) (meth := k11m2) (c := k11c2) (by decide +kernel) rfl rfl rfl (by decide +kernel)
set_option maxRecDepth 65536 in
theorem w_c23 : (Jvm.Cond.code ({ cls := "java/lang/StringUTF16", name := "putChar", desc := "([BII)V" } : Jvm.MethodName) jdk_52_method_4_code (3 : Nat) (Option.none : Option Jvm.ClassFile.FieldType)).before args0 about1 = true := code_word (m := ⟨11, 3⟩) (meth := k11m3) (c := k11c3) (by decide +kernel) rfl rfl rfl (by decide +kernel)
set_option maxRecDepth 65536 in
theorem w_c24 : (Jvm.Cond.code ({ cls := "java/lang/StringUTF16", name := "getChar", desc := "([BI)C" } : Jvm.MethodName) jdk_52_method_5_code (2 : Nat) (Option.some Jvm.ClassFile.FieldType.char)).before args0 about1 = true := code_word (m := ⟨11, 4⟩) (meth := k11m4) (c := k11c4) (by decide +kernel) rfl rfl rfl (by decide +kernel)
set_option maxRecDepth 65536 in
theorem w_c25 : (Jvm.Cond.code ({ cls := "java/lang/StringUTF16", name := "indexOf", desc := "([BIII)I" } : Jvm.MethodName) jdk_52_method_40_code (4 : Nat) (Option.some Jvm.ClassFile.FieldType.int)).before args0 about1 = true := code_word (m := ⟨11, 10⟩) (meth := k11m10) (c := k11c10) (by decide +kernel) rfl rfl rfl (by decide +kernel)
set_option maxRecDepth 65536 in
theorem w_c26 : (Jvm.Cond.code ({ cls := "java/lang/StringUTF16", name := "indexOfChar", desc := "([BIII)I" } : Jvm.MethodName) jdk_52_method_47_code (4 : Nat) (Option.some Jvm.ClassFile.FieldType.int)).before args0 about1 = true := code_word (m := ⟨11, 11⟩) (meth := k11m11) (c := k11c11) (by decide +kernel) rfl rfl rfl (by decide +kernel)
set_option maxRecDepth 65536 in
theorem w_c27 : (Jvm.Cond.code ({ cls := "java/lang/StringUTF16", name := "checkBoundsBeginEnd", desc := "(II[B)V" } : Jvm.MethodName) jdk_52_method_93_code (3 : Nat) (Option.none : Option Jvm.ClassFile.FieldType)).before args0 about1 = true := code_word (m := ⟨11, 13⟩) (meth := k11m13) (c := k11c13) (by decide +kernel) rfl rfl rfl (by decide +kernel)
set_option maxRecDepth 65536 in
theorem w_c28 : (Jvm.Cond.code ({ cls := "java/lang/StringUTF16", name := "length", desc := "([B)I" } : Jvm.MethodName) jdk_52_method_6_code (1 : Nat) (Option.some Jvm.ClassFile.FieldType.int)).before args0 about1 = true := code_word (m := ⟨11, 5⟩) (meth := k11m5) (c := k11c5) (by decide +kernel) rfl rfl rfl (by decide +kernel)
set_option maxRecDepth 65536 in
theorem w_c29 : (Jvm.Cond.code ({ cls := "java/lang/String", name := "checkBoundsBeginEnd", desc := "(III)V" } : Jvm.MethodName) jdk_42_method_158_code (3 : Nat) (Option.none : Option Jvm.ClassFile.FieldType)).before args0 about1 = true := code_word (m := ⟨7, 8⟩) (meth := k7m8) (c := k7c8) (by decide +kernel) rfl rfl rfl (by decide +kernel)
set_option maxRecDepth 65536 in
theorem w_c30 : (Jvm.Cond.code ({ cls := "jdk/internal/util/Preconditions", name := "checkFromToIndex", desc := "(IIILjava/util/function/BiFunction;)I" } : Jvm.MethodName) jdk_41_method_12_code (4 : Nat) (Option.some Jvm.ClassFile.FieldType.int)).before args0 about1 = true := code_word (m := ⟨12, 1⟩) (meth := k12m1) (c := k12c1) (by decide +kernel) rfl rfl rfl (by decide +kernel)
set_option maxRecDepth 65536 in
theorem w_c31 : (Jvm.Cond.code ({ cls := "java/lang/StringUTF16", name := "indexOfCharUnsafe", desc := "([BIII)I" } : Jvm.MethodName) jdk_52_method_48_code (5 : Nat) (Option.some Jvm.ClassFile.FieldType.int)).before args0 about1 = true := code_word (m := ⟨11, 12⟩) (meth := k11m12) (c := k11c12) (by decide +kernel) rfl rfl rfl (by decide +kernel)
def codes1 : List Jvm.Cond := [Jvm.Cond.code x code maxLocals ret, Jvm.Cond.code ({ cls := "com/example/oxpecker/oxpecker/MessageTemplateIsTextAlonePinLaw", name := "pick", desc := "(I)C" } : Jvm.MethodName) method_3_code (2 : Nat) (Option.some Jvm.ClassFile.FieldType.char), Jvm.Cond.code ({ cls := "java/lang/String", name := "<init>", desc := "([C)V" } : Jvm.MethodName) jdk_42_method_3_code (2 : Nat) (Option.none : Option Jvm.ClassFile.FieldType), Jvm.Cond.code ({ cls := "java/lang/String", name := "<init>", desc := "([CIILjava/lang/Void;)V" } : Jvm.MethodName) jdk_42_method_149_code (6 : Nat) (Option.none : Option Jvm.ClassFile.FieldType), Jvm.Cond.code ({ cls := "java/lang/Object", name := "<init>", desc := "()V" } : Jvm.MethodName) object_method_1_code (1 : Nat) (Option.none : Option Jvm.ClassFile.FieldType), Jvm.Cond.code ({ cls := "com/example/oxpecker/oxpecker/MessageTemplate", name := "isTextAlone", desc := "(Ljava/lang/String;)Z" } : Jvm.MethodName) prog_5_method_7_code (1 : Nat) (Option.some Jvm.ClassFile.FieldType.boolean), Jvm.Cond.code ({ cls := "java/lang/String", name := "indexOf", desc := "(I)I" } : Jvm.MethodName) jdk_42_method_79_code (2 : Nat) (Option.some Jvm.ClassFile.FieldType.int), Jvm.Cond.code ({ cls := "java/lang/String", name := "indexOf", desc := "(II)I" } : Jvm.MethodName) jdk_42_method_80_code (3 : Nat) (Option.some Jvm.ClassFile.FieldType.int), Jvm.Cond.code ({ cls := "java/lang/String", name := "isLatin1", desc := "()Z" } : Jvm.MethodName) jdk_42_method_154_code (1 : Nat) (Option.some Jvm.ClassFile.FieldType.boolean), Jvm.Cond.code ({ cls := "java/lang/String", name := "length", desc := "()I" } : Jvm.MethodName) jdk_42_method_54_code (1 : Nat) (Option.some Jvm.ClassFile.FieldType.int), Jvm.Cond.code ({ cls := "java/lang/String", name := "coder", desc := "()B" } : Jvm.MethodName) jdk_42_method_152_code (1 : Nat) (Option.some Jvm.ClassFile.FieldType.byte), Jvm.Cond.code ({ cls := "java/lang/StringLatin1", name := "indexOf", desc := "([BIII)I" } : Jvm.MethodName) jdk_43_method_22_code (4 : Nat) (Option.some Jvm.ClassFile.FieldType.int), Jvm.Cond.code ({ cls := "java/lang/StringLatin1", name := "canEncode", desc := "(I)Z" } : Jvm.MethodName) jdk_43_method_4_code (1 : Nat) (Option.some Jvm.ClassFile.FieldType.boolean), Jvm.Cond.code ({ cls := "java/lang/Math", name := "max", desc := "(II)I" } : Jvm.MethodName) jdk_29_method_65_code (2 : Nat) (Option.some Jvm.ClassFile.FieldType.int), Jvm.Cond.code ({ cls := "java/lang/Math", name := "min", desc := "(II)I" } : Jvm.MethodName) jdk_29_method_69_code (2 : Nat) (Option.some Jvm.ClassFile.FieldType.int), Jvm.Cond.code ({ cls := "java/lang/StringUTF16", name := "compress", desc := "([CII)[B" } : Jvm.MethodName) jdk_52_method_16_code (6 : Nat) (Option.some (Jvm.ClassFile.FieldType.array Jvm.ClassFile.FieldType.byte)), Jvm.Cond.code ({ cls := "java/lang/StringUTF16", name := "compress", desc := "([CI[BII)I" } : Jvm.MethodName) jdk_52_method_21_code (7 : Nat) (Option.some Jvm.ClassFile.FieldType.int), Jvm.Cond.code ({ cls := "java/lang/StringUTF16", name := "coderFromArrayLen", desc := "([BI)B" } : Jvm.MethodName) jdk_52_method_15_code (2 : Nat) (Option.some Jvm.ClassFile.FieldType.byte), Jvm.Cond.code ({ cls := "com/example/oxpecker/oxpecker/MessageTemplateIsTextAlonePinLaw", name := "plain", desc := "(C)Z" } : Jvm.MethodName) method_4_code (1 : Nat) (Option.some Jvm.ClassFile.FieldType.boolean), Jvm.Cond.code ({ cls := "java/lang/StringLatin1", name := "indexOfChar", desc := "([BIII)I" } : Jvm.MethodName) jdk_43_method_23_code (6 : Nat) (Option.some Jvm.ClassFile.FieldType.int), Jvm.Cond.code ({ cls := "java/lang/StringUTF16", name := "toBytes", desc := "([CII)[B" } : Jvm.MethodName) jdk_52_method_14_code (5 : Nat) (Option.some (Jvm.ClassFile.FieldType.array Jvm.ClassFile.FieldType.byte)), Jvm.Cond.code ({ cls := "java/lang/StringUTF16", name := "newBytesFor", desc := "(I)[B" } : Jvm.MethodName) jdk_52_method_2_code (1 : Nat) (Option.some (Jvm.ClassFile.FieldType.array Jvm.ClassFile.FieldType.byte)), Jvm.Cond.code ({ cls := "java/lang/StringUTF16", name := "newBytesLength", desc := "(I)I" } : Jvm.MethodName) jdk_52_method_3_code (1 : Nat) (Option.some Jvm.ClassFile.FieldType.int), Jvm.Cond.code ({ cls := "java/lang/StringUTF16", name := "putChar", desc := "([BII)V" } : Jvm.MethodName) jdk_52_method_4_code (3 : Nat) (Option.none : Option Jvm.ClassFile.FieldType), Jvm.Cond.code ({ cls := "java/lang/StringUTF16", name := "getChar", desc := "([BI)C" } : Jvm.MethodName) jdk_52_method_5_code (2 : Nat) (Option.some Jvm.ClassFile.FieldType.char), Jvm.Cond.code ({ cls := "java/lang/StringUTF16", name := "indexOf", desc := "([BIII)I" } : Jvm.MethodName) jdk_52_method_40_code (4 : Nat) (Option.some Jvm.ClassFile.FieldType.int), Jvm.Cond.code ({ cls := "java/lang/StringUTF16", name := "indexOfChar", desc := "([BIII)I" } : Jvm.MethodName) jdk_52_method_47_code (4 : Nat) (Option.some Jvm.ClassFile.FieldType.int), Jvm.Cond.code ({ cls := "java/lang/StringUTF16", name := "checkBoundsBeginEnd", desc := "(II[B)V" } : Jvm.MethodName) jdk_52_method_93_code (3 : Nat) (Option.none : Option Jvm.ClassFile.FieldType), Jvm.Cond.code ({ cls := "java/lang/StringUTF16", name := "length", desc := "([B)I" } : Jvm.MethodName) jdk_52_method_6_code (1 : Nat) (Option.some Jvm.ClassFile.FieldType.int), Jvm.Cond.code ({ cls := "java/lang/String", name := "checkBoundsBeginEnd", desc := "(III)V" } : Jvm.MethodName) jdk_42_method_158_code (3 : Nat) (Option.none : Option Jvm.ClassFile.FieldType), Jvm.Cond.code ({ cls := "jdk/internal/util/Preconditions", name := "checkFromToIndex", desc := "(IIILjava/util/function/BiFunction;)I" } : Jvm.MethodName) jdk_41_method_12_code (4 : Nat) (Option.some Jvm.ClassFile.FieldType.int), Jvm.Cond.code ({ cls := "java/lang/StringUTF16", name := "indexOfCharUnsafe", desc := "([BIII)I" } : Jvm.MethodName) jdk_52_method_48_code (5 : Nat) (Option.some Jvm.ClassFile.FieldType.int)]
set_option maxRecDepth 65536 in
theorem codes_eq : words1.filter isCode = codes1 := rfl
theorem w_codes : ∀ c ∈ words1.filter isCode, c.before args0 about1 = true := by
  rw [codes_eq]
  intro c hc
  simp only [codes1, List.mem_cons, List.not_mem_nil, or_false] at hc
  rcases hc with rfl | rfl | rfl | rfl | rfl | rfl | rfl | rfl | rfl | rfl | rfl | rfl | rfl | rfl | rfl | rfl | rfl | rfl | rfl | rfl | rfl | rfl | rfl | rfl | rfl | rfl | rfl | rfl | rfl | rfl | rfl | rfl
  · exact w_c0
  · exact w_c1
  · exact w_c2
  · exact w_c3
  · exact w_c4
  · exact w_c5
  · exact w_c6
  · exact w_c7
  · exact w_c8
  · exact w_c9
  · exact w_c10
  · exact w_c11
  · exact w_c12
  · exact w_c13
  · exact w_c14
  · exact w_c15
  · exact w_c16
  · exact w_c17
  · exact w_c18
  · exact w_c19
  · exact w_c20
  · exact w_c21
  · exact w_c22
  · exact w_c23
  · exact w_c24
  · exact w_c25
  · exact w_c26
  · exact w_c27
  · exact w_c28
  · exact w_c29
  · exact w_c30
  · exact w_c31
set_option maxRecDepth 65536 in
theorem w_t1 : (words1.take 24).all (fun c => isCode c || c.before args0 about1) = true := by decide +kernel
set_option maxRecDepth 65536 in
theorem w_t2 : ((words1.drop 24).take 24).all (fun c => isCode c || c.before args0 about1) = true := by decide +kernel
set_option maxRecDepth 65536 in
theorem w_t3 : (((words1.drop 24).drop 24).take 24).all (fun c => isCode c || c.before args0 about1) = true := by decide +kernel
set_option maxRecDepth 65536 in
theorem w_t4 : ((((words1.drop 24).drop 24).drop 24).take 24).all (fun c => isCode c || c.before args0 about1) = true := by decide +kernel
set_option maxRecDepth 65536 in
theorem w_t5 : (((((words1.drop 24).drop 24).drop 24).drop 24).take 24).all (fun c => isCode c || c.before args0 about1) = true := by decide +kernel
set_option maxRecDepth 65536 in
theorem w_t6 : (((((words1.drop 24).drop 24).drop 24).drop 24).drop 24).all (fun c => isCode c || c.before args0 about1) = true := by decide +kernel
theorem w_tables : (allAtoms (Jvm.Cond.code x code maxLocals ret :: tables_1)).before args0 about1 = true := by
  rw [allAtoms_all]
  show words1.all (fun c => c.before args0 about1) = true
  refine all_split ?_ w_codes
  rw [← List.take_append_drop 24 words1, List.all_append, w_t1, ← List.take_append_drop 24 (words1.drop 24), List.all_append, w_t2, ← List.take_append_drop 24 ((words1.drop 24).drop 24), List.all_append, w_t3, ← List.take_append_drop 24 (((words1.drop 24).drop 24).drop 24), List.all_append, w_t4, ← List.take_append_drop 24 ((((words1.drop 24).drop 24).drop 24).drop 24), List.all_append, w_t5, w_t6]
  rfl
set_option maxRecDepth 65536 in
theorem w_rest : rest_1_c.before args0 about1 = true := by decide +kernel
set_option maxRecDepth 65536 in
theorem w_case : (Jvm.Cond.and given_1 narrow_1).before args0 about1 = true := by decide +kernel
set_option maxRecDepth 65536 in
theorem w_consts : constsHeld consts_1 about1 := Jvm.Lit.constsHeldB_iff.mp (by decide +kernel)
theorem w_applies : (headSpec (Jvm.Cond.code x code maxLocals ret :: tables_1) room_1).applies x e0.platform about1 = true :=
  (Spec.applies_iff w_frames).mpr ⟨w_running, w_runnable, w_alone, w_named, w_hears, w_ripe, w_room, w_tables⟩
theorem atStart : AtStart classFile x code maxLocals ret World_1 tables_1 room_1 Calls_1 rest_1 Pre_1 launch0 p0 e0 about1 theMethod args0 below0 :=
  ⟨lists_1, trivial, launch0.admits_env _ _ _, launch0.least_env, fairChoices_fair.cas, fairChoices_fair.clock, w_frames, w_args, w_heap, w_applies, ⟨w_consts, trivial⟩, w_rest, w_case⟩
end start1
theorem witness_1 : WitnessClaimed_1 := ⟨start1.p0, start1.e0, start1.about1, start1.theMethod, start1.args0, start1.below0, start1.atStart⟩
end Jvm.Pilot.@@N@@
