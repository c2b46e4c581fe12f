import JvmDerived
import JvmDerived.Pilot.@@N@@Statement
import JvmDerived.Pilot.@@N@@Code
set_option linter.unusedVariables false
set_option linter.unusedSimpArgs false
/- laws to paste: Road.backV, Road.lenW, Road.chN, Road.eqW, Road.empW, Road.codOf (cut by pick.py; bodies as the Statement names them) -/
namespace Jvm.Pilot.@@N@@
namespace StrChars
open Jvm Sem ClassFile Op Lib Jvm.Stand Jvm.Free.XT Jvm.Free.ALB Jvm.Free.JM Jvm.Free
open Jvm.Lib.Cold (StaticIs)
/-- a char array whose places are chars -/
def Ch (a : Addr) (A : Cell) (U : State) : Prop := Arr .char a A U ∧ Typed .char A
theorem Ch.mv {a : Addr} {A : Cell} {U U' : State} (h : Ch a A U) (hal : U.vm.Alike U'.vm) (hh : U'.heap = U.heap) : Ch a A U' := ⟨h.1.mv hal hh, h.2⟩
theorem Ch.keep {a : Addr} {A : Cell} {U U' : State} (h : Ch a A U) (hal : U.vm.Alike U'.vm) (hk : U'.heap[a]? = some A) : Ch a A U' := ⟨h.1.keep hal hk, h.2⟩
/-- what place i of a char[]'s cell holds -/
def cv (A : Cell) (i : Nat) : Int32 := match A.slots[i]? with | some (.int x) => x | _ => 0
theorem Ch.get {a : Addr} {A : Cell} {U : State} (h : Ch a A U) {i : Nat} (hi : i < A.slots.size) : A.slots[i]? = some (.int (cv A i)) := by
  have e := Array.getElem?_eq_getElem hi
  have f := h.2 i _ e
  unfold cv; rw [e]
  generalize A.slots[i] = v at f
  cases v <;> simp [fits] at f ⊢
/-- the byte that i2b leaves of a char -/
def lo8 (x : Int32) : Int32 := x.toInt8.toInt32
theorem fits_lo8 (y : Int32) : fits .byte (.int (lo8 y)) = true := by
  have h1 := y.toInt8.le_toInt
  have h2 := y.toInt8.toInt_lt
  simp only [lo8, fits, Bool.and_eq_true, decide_eq_true_eq, Int32.le_iff_toInt_le, Int8.toInt_toInt32, show (-128 : Int32).toInt = -128 from by decide, show (127 : Int32).toInt = 127 from by decide]
  omega
/-- A' is A but that each place j of lo .. hi - 1 holds f j -/
def Laid (A A' : Cell) (lo hi : Nat) (f : Nat → Value) : Prop := A'.cls = A.cls ∧ A'.vm = A.vm ∧ A'.slots.size = A.slots.size ∧ ∀ i, A'.slots[i]? = if lo ≤ i ∧ i < hi then some (f i) else A.slots[i]?
theorem Laid.zero (A : Cell) (lo : Nat) (f : Nat → Value) : Laid A A lo (lo + 0) f := ⟨rfl, rfl, rfl, fun i => by rw [if_neg (by omega)]⟩
theorem Laid.step {A Ak : Cell} {lo k : Nat} {f : Nat → Value} {v : Value} (h : Laid A Ak lo k f) (hlo : lo ≤ k) (hk : k < Ak.slots.size) (hv : v = f k) : Laid A (Ak.setSlot k v) lo (k + 1) f := by
  refine ⟨h.1, h.2.1, by simpa [Cell.setSlot] using h.2.2.1, fun i => ?_⟩
  by_cases e : k = i
  · subst e; rw [Cell.slots_setSlot_self v hk, if_pos (by omega), hv]
  · rw [Cell.slots_setSlot_ne v e, h.2.2.2 i]
    by_cases q : lo ≤ i ∧ i < k
    · rw [if_pos q, if_pos (by omega)]
    · rw [if_neg q, if_neg (by omega)]
def U16 : String := "java/lang/StringUTF16"
namespace Cmp5
def yN : MethodName := ⟨"java/lang/StringUTF16", "compress", "([CI[BII)I"⟩
abbrev yB : ByteArray := jdk_52_method_21_code
theorem d0 : decode yB 0 = .ok (.iconst 0, 1) := by decide +kernel
theorem d1 : decode yB 1 = .ok (.istore 5, 2) := by decide +kernel
theorem d3 : decode yB 3 = .ok (.iload 5, 2) := by decide +kernel
theorem d5 : decode yB 5 = .ok (.iload 4, 2) := by decide +kernel
theorem d7 : decode yB 7 = .ok (.if_icmp (.ge) 37, 3) := by decide +kernel
theorem d10 : decode yB 10 = .ok (.aload_n 0, 1) := by decide +kernel
theorem d11 : decode yB 11 = .ok (.iload_n 1, 1) := by decide +kernel
theorem d12 : decode yB 12 = .ok (.caload, 1) := by decide +kernel
theorem d13 : decode yB 13 = .ok (.istore 6, 2) := by decide +kernel
theorem d15 : decode yB 15 = .ok (.iload 6, 2) := by decide +kernel
theorem d17 : decode yB 17 = .ok (.sipush 255, 3) := by decide +kernel
theorem d20 : decode yB 20 = .ok (.if_icmp (.le) 6, 3) := by decide +kernel
theorem d26 : decode yB 26 = .ok (.aload_n 2, 1) := by decide +kernel
theorem d27 : decode yB 27 = .ok (.iload_n 3, 1) := by decide +kernel
theorem d28 : decode yB 28 = .ok (.iload 6, 2) := by decide +kernel
theorem d30 : decode yB 30 = .ok (.i2b, 1) := by decide +kernel
theorem d31 : decode yB 31 = .ok (.bastore, 1) := by decide +kernel
theorem d32 : decode yB 32 = .ok (.iinc 1 1, 3) := by decide +kernel
theorem d35 : decode yB 35 = .ok (.iinc 3 1, 3) := by decide +kernel
theorem d38 : decode yB 38 = .ok (.iinc 5 1, 3) := by decide +kernel
theorem d41 : decode yB 41 = .ok (.goto (-38), 3) := by decide +kernel
theorem d44 : decode yB 44 = .ok (.iload 4, 2) := by decide +kernel
theorem d46 : decode yB 46 = .ok (.ireturn, 1) := by decide +kernel
def site : List Cond := []
def tab : Cond := tabOf yN yB 7 (some .int) site
def P (b : Addr) (A : Cell) (d : Addr) (B : Cell) (o q len : Nat) (args : Array Value) (s : State) : Prop := args = #[.ref b, .int (Int32.ofNat o), .ref d, .int (Int32.ofNat q), .int (Int32.ofNat len)] ∧ Ch b A s ∧ Arr .byte d B s ∧ b ≠ d ∧ o + len ≤ A.slots.size ∧ q + len ≤ B.slots.size ∧ ∀ i, i < len → ¬ 255 < cv A (o + i)
def E (b : Addr) (A : Cell) (d : Addr) (B : Cell) (o q len : Nat) (r : Option Value) (s u : State) : Prop := r = some (.int (Int32.ofNat len)) ∧ ∃ B', Put d B' s u ∧ Laid B B' q (q + len) (fun j => Value.int (lo8 (cv A (o + (j - q)))))
/-- no char of the range above 255: len; the places written hold each char's low byte -/
theorem law (l : Launch) (b : Addr) (A : Cell) (d : Addr) (B : Cell) (o q len : Nat) : Law l yN 5 5 0 0 yB 7 (some .int) site (P b A d B o q len) (E b A d B o q len) (copyLocs d q len) 0 0 := by
  refine Law.of_walk (plainFor_of_name (by decide +kernel)) (by decide +kernel) (by decide +kernel) (by decide) (fun _ _ h => by rw [h.1]; rfl) (fun _ U U' hal hh h => ⟨h.1, h.2.1.mv hal hh, h.2.2.1.mv hal hh, h.2.2.2⟩) (fun r U U' V V' h1 hal h2 h => ⟨h.1, h.2.elim fun B' q => ⟨B', q.1.mv h1 h2, q.2⟩⟩) ?_
  intro p e s m args below meth c s₁ X0 hexec hbytes hml hret hlk hnm hown hh0 W hP
  obtain ⟨rfl, hA, hB, hne, l1, l2, hp⟩ := hP
  have c1 : Steps p.tables e below (s₁.setTop (entryFrame m #[.ref b, .int (Int32.ofNat o), .ref d, .int (Int32.ofNat q), .int (Int32.ofNat len)] 7)) (s₁.setTop (mkF m 0 #[.val (.ref b), .val (.int (Int32.ofNat o)), .val (.ref d), .val (.int (Int32.ofNat q)), .val (.int (Int32.ofNat len)), .unset, .unset] [])) := entry rfl
  have hA0 := hA.1.mv X0.warmed.alike hh0
  have hB0 := hB.mv X0.warmed.alike hh0
  have a31 := hA.1.2.2.2
  have c2 : Steps p.tables e below (s₁.setTop (entryFrame m #[.ref b, .int (Int32.ofNat o), .ref d, .int (Int32.ofNat q), .int (Int32.ofNat len)] 7)) (s₁.setTop (mkF m 3 #[.val (.ref b), .val (.int (Int32.ofNat o)), .val (.ref d), .val (.int (Int32.ofNat q)), .val (.int (Int32.ofNat len)), .val (.int 0), .unset] [])) := c1.trans (by
    refine iconstV X0.here hexec rfl 0 (hb hbytes d0) (by decide) ?_
    refine XS.istore X0.here hexec rfl (hb hbytes d1) rfl rfl ?_
    exact Steps.refl _)
  have loop : ∀ (r i : Nat), i + r = len → ∀ (z : Slot), (z = .unset ∨ ∃ w, z = .val w ∧ w.category = 1) → ∀ (Tl : State) (Bk : Cell), Stand p l e { frames := 0, locals := 0, cells := 0, slots := 0 } s m #[.ref b, .int (Int32.ofNat o), .ref d, .int (Int32.ofNat q), .int (Int32.ofNat len)] below meth c Tl ([] ++ copyLocs d q i) 0 0 → Put d Bk s₁ Tl → Laid B Bk q (q + i) (fun j => Value.int (lo8 (cv A (o + (j - q))))) →
      Steps p.tables e below (s₁.setTop (entryFrame m #[.ref b, .int (Int32.ofNat o), .ref d, .int (Int32.ofNat q), .int (Int32.ofNat len)] 7)) (Tl.setTop (mkF m 3 #[.val (.ref b), .val (.int (Int32.ofNat (o + i))), .val (.ref d), .val (.int (Int32.ofNat (q + i))), .val (.int (Int32.ofNat len)), .val (.int (Int32.ofNat i)), z] [])) → ∃ (T' : State) (B' : Cell) (z' : Slot), Stand p l e { frames := 0, locals := 0, cells := 0, slots := 0 } s m #[.ref b, .int (Int32.ofNat o), .ref d, .int (Int32.ofNat q), .int (Int32.ofNat len)] below meth c T' ([] ++ copyLocs d q len) 0 0 ∧ Put d B' s₁ T' ∧ Laid B B' q (q + len) (fun j => Value.int (lo8 (cv A (o + (j - q))))) ∧
      Steps p.tables e below (s₁.setTop (entryFrame m #[.ref b, .int (Int32.ofNat o), .ref d, .int (Int32.ofNat q), .int (Int32.ofNat len)] 7)) (T'.setTop (mkF m 3 #[.val (.ref b), .val (.int (Int32.ofNat (o + len))), .val (.ref d), .val (.int (Int32.ofNat (q + len))), .val (.int (Int32.ofNat len)), .val (.int (Int32.ofNat len)), z'] [])) := by
    intro r
    induction r with
    | zero =>
      intro i hi z hz Tl Bk Xl pl fl cl
      have hil : i = len := by omega
      rw [hil] at Xl fl cl
      exact ⟨Tl, Bk, z, Xl, pl, fl, cl⟩
    | succ r ih =>
      intro i hi z hz Tl Bk Xl pl fl cl
      have all := X0.warmed.alike.symm.trans Xl.warmed.alike
      have hAl := hA0.keep all (pl.other hne hA0.1)
      have hBk := hB0.like all pl.1 fl.1 fl.2.1 fl.2.2.1
      have hlt : q + i < Bk.slots.size := by rw [fl.2.2.1]; omega
      have c3 : Steps p.tables e below (s₁.setTop (entryFrame m #[.ref b, .int (Int32.ofNat o), .ref d, .int (Int32.ofNat q), .int (Int32.ofNat len)] 7)) (Tl.setTop (mkF m 12 #[.val (.ref b), .val (.int (Int32.ofNat (o + i))), .val (.ref d), .val (.int (Int32.ofNat (q + i))), .val (.int (Int32.ofNat len)), .val (.int (Int32.ofNat i)), z] [.int (Int32.ofNat (o + i)), .ref b])) := cl.trans (by
        refine XS.iload Xl.here hexec rfl (hb hbytes d3) rfl ?_
        refine XS.iload Xl.here hexec rfl (hb hbytes d5) rfl ?_
        refine XS.icmpNo Xl.here hexec rfl (hb hbytes d7) rfl (ii_ge_f (lt32 (by omega) (by omega))) ?_
        refine XS.aloadN Xl.here hexec rfl (hb hbytes d10) rfl rfl ?_
        refine XS.iloadN Xl.here hexec rfl (hb hbytes d11) rfl ?_
        exact Steps.refl _)
      have c4 : Steps p.tables e below (s₁.setTop (entryFrame m #[.ref b, .int (Int32.ofNat o), .ref d, .int (Int32.ofNat q), .int (Int32.ofNat len)] 7)) (Tl.setTop (mkF m 13 #[.val (.ref b), .val (.int (Int32.ofNat (o + i))), .val (.ref d), .val (.int (Int32.ofNat (q + i))), .val (.int (Int32.ofNat len)), .val (.int (Int32.ofNat i)), z] [.int (cv A (o + i))])) := c3.trans (by
        refine Xl.aget hexec hAl rfl (hA.get (i := o + i) (by omega)) rfl rfl (hb hbytes d12) ?_
        exact Steps.refl _)
      have c5 : Steps p.tables e below (s₁.setTop (entryFrame m #[.ref b, .int (Int32.ofNat o), .ref d, .int (Int32.ofNat q), .int (Int32.ofNat len)] 7)) (Tl.setTop (mkF m 15 #[.val (.ref b), .val (.int (Int32.ofNat (o + i))), .val (.ref d), .val (.int (Int32.ofNat (q + i))), .val (.int (Int32.ofNat len)), .val (.int (Int32.ofNat i)), .val (.int (cv A (o + i)))] [])) := c4.trans (by
        refine XS.istoreS Xl.here hexec rfl (hb hbytes d13) rfl rfl hz ?_
        exact Steps.refl _)
      have c6 : Steps p.tables e below (s₁.setTop (entryFrame m #[.ref b, .int (Int32.ofNat o), .ref d, .int (Int32.ofNat q), .int (Int32.ofNat len)] 7)) (Tl.setTop (mkF m 31 #[.val (.ref b), .val (.int (Int32.ofNat (o + i))), .val (.ref d), .val (.int (Int32.ofNat (q + i))), .val (.int (Int32.ofNat len)), .val (.int (Int32.ofNat i)), .val (.int (cv A (o + i)))] [.int (lo8 (cv A (o + i))), .int (Int32.ofNat (q + i)), .ref d])) := c5.trans (by
        refine XS.iload Xl.here hexec rfl (hb hbytes d15) rfl ?_
        refine sipushV Xl.here hexec rfl 255 (hb hbytes d17) (by decide) ?_
        refine XS.icmpYes Xl.here hexec rfl (pc0 := 20) rfl (hb hbytes d20) rfl (ii_le_t (hp i (by omega))) (by decide) rfl ?_
        refine XS.aloadN Xl.here hexec rfl (hb hbytes d26) rfl rfl ?_
        refine XS.iloadN Xl.here hexec rfl (hb hbytes d27) rfl ?_
        refine XS.iload Xl.here hexec rfl (hb hbytes d28) rfl ?_
        refine i2b Xl.here hexec rfl (hb hbytes d30) rfl ?_
        exact Steps.refl _)
      obtain ⟨T7, X7, p7, st7⟩ := Xl.aput hexec hBk rfl hlt rfl (fits_lo8 (cv A (o + i))) (g := (mkF m 31 #[.val (.ref b), .val (.int (Int32.ofNat (o + i))), .val (.ref d), .val (.int (Int32.ofNat (q + i))), .val (.int (Int32.ofNat len)), .val (.int (Int32.ofNat i)), .val (.int (cv A (o + i)))] [.int (lo8 (cv A (o + i))), .int (Int32.ofNat (q + i)), .ref d])) rfl (rest := []) rfl (hb hbytes d31)
      have c8 : Steps p.tables e below (s₁.setTop (entryFrame m #[.ref b, .int (Int32.ofNat o), .ref d, .int (Int32.ofNat q), .int (Int32.ofNat len)] 7)) (T7.setTop (mkF m 32 #[.val (.ref b), .val (.int (Int32.ofNat (o + i))), .val (.ref d), .val (.int (Int32.ofNat (q + i))), .val (.int (Int32.ofNat len)), .val (.int (Int32.ofNat i)), .val (.int (cv A (o + i)))] [])) := c6.trans (st7 _ (Steps.refl _))
      have c9 : Steps p.tables e below (s₁.setTop (entryFrame m #[.ref b, .int (Int32.ofNat o), .ref d, .int (Int32.ofNat q), .int (Int32.ofNat len)] 7)) (T7.setTop (mkF m 3 #[.val (.ref b), .val (.int (Int32.ofNat (o + i) + 1)), .val (.ref d), .val (.int (Int32.ofNat (q + i) + 1)), .val (.int (Int32.ofNat len)), .val (.int (Int32.ofNat i + 1)), .val (.int (cv A (o + i)))] [])) := c8.trans (by
        refine iincV X7.here hexec rfl 1 (hb hbytes d32) (by decide) rfl rfl ?_
        refine iincV X7.here hexec rfl 1 (hb hbytes d35) (by decide) rfl rfl ?_
        refine iincV X7.here hexec rfl 1 (hb hbytes d38) (by decide) rfl rfl ?_
        refine XS.goto X7.here hexec rfl (pc0 := 41) rfl (hb hbytes d41) (by decide) rfl ?_
        exact Steps.refl _)
      have c10 : Steps p.tables e below (s₁.setTop (entryFrame m #[.ref b, .int (Int32.ofNat o), .ref d, .int (Int32.ofNat q), .int (Int32.ofNat len)] 7)) (T7.setTop (mkF m 3 #[.val (.ref b), .val (.int (Int32.ofNat (o + (i + 1)))), .val (.ref d), .val (.int (Int32.ofNat (q + (i + 1)))), .val (.int (Int32.ofNat len)), .val (.int (Int32.ofNat (i + 1))), .val (.int (cv A (o + i)))] [])) := by
        have := c9
        rw [succ32, succ32, succ32] at this
        exact this
      exact ih (i + 1) (by omega) _ (Or.inr ⟨_, rfl, rfl⟩) T7 _ (by rw [copyLocs_step, ← List.append_assoc]; exact X7) (pl.trans p7) (fl.step (by omega) hlt (by simp)) c10
  obtain ⟨T9, B9, z9, X9, p9, f9, g9⟩ := loop len 0 (by omega) .unset (Or.inl rfl) s₁ B (by simpa [copyLocs] using X0) ⟨hB0.1, fun _ _ => rfl, rfl⟩ (Laid.zero _ _ _) c2
  have c11 : Steps p.tables e below (s₁.setTop (entryFrame m #[.ref b, .int (Int32.ofNat o), .ref d, .int (Int32.ofNat q), .int (Int32.ofNat len)] 7)) (T9.setTop (mkF m 46 #[.val (.ref b), .val (.int (Int32.ofNat (o + len))), .val (.ref d), .val (.int (Int32.ofNat (q + len))), .val (.int (Int32.ofNat len)), .val (.int (Int32.ofNat len)), z9] [.int (Int32.ofNat len)])) := g9.trans (by
    refine XS.iload X9.here hexec rfl (hb hbytes d3) rfl ?_
    refine XS.iload X9.here hexec rfl (hb hbytes d5) rfl ?_
    refine XS.icmpYes X9.here hexec rfl (pc0 := 7) rfl (hb hbytes d7) rfl (ii_ge_t (nlt32 (by omega) (Nat.le_refl _))) (by decide) rfl ?_
    refine XS.iload X9.here hexec rfl (hb hbytes d44) rfl ?_
    exact Steps.refl _)
  exact ⟨T9, some (.int (Int32.ofNat len)), _, _, _, X9, by simp, rfl, rfl, (fun h => by cases h), ⟨rfl, B9, p9.from hh0, f9⟩, fun fs hl => c11.trans (X9.ireturnOut hexec hret rfl (Or.inl rfl) (hb hbytes d46) hl)⟩
end Cmp5
namespace Cmp3
def yN : MethodName := ⟨"java/lang/StringUTF16", "compress", "([CII)[B"⟩
abbrev yB : ByteArray := jdk_52_method_16_code
theorem d0 : decode yB 0 = .ok (.iload_n 2, 1) := by decide +kernel
theorem d1 : decode yB 1 = .ok (.newarray .byte, 2) := by decide +kernel
theorem d3 : decode yB 3 = .ok (.astore_n 3, 1) := by decide +kernel
theorem d4 : decode yB 4 = .ok (.aload_n 0, 1) := by decide +kernel
theorem d5 : decode yB 5 = .ok (.iload_n 1, 1) := by decide +kernel
theorem d6 : decode yB 6 = .ok (.aload_n 3, 1) := by decide +kernel
theorem d7 : decode yB 7 = .ok (.iconst 0, 1) := by decide +kernel
theorem d8 : decode yB 8 = .ok (.iload_n 2, 1) := by decide +kernel
theorem d9 : decode yB 9 = .ok (.invokestatic 115, 3) := by decide +kernel
theorem d12 : decode yB 12 = .ok (.istore 4, 2) := by decide +kernel
theorem d14 : decode yB 14 = .ok (.iload 4, 2) := by decide +kernel
theorem d16 : decode yB 16 = .ok (.iload_n 2, 1) := by decide +kernel
theorem d17 : decode yB 17 = .ok (.if_icmp (.eq) 40, 3) := by decide +kernel
theorem d57 : decode yB 57 = .ok (.aload_n 3, 1) := by decide +kernel
theorem d58 : decode yB 58 = .ok (.areturn, 1) := by decide +kernel
def site : List Cond := [.arrayClass .byte, Cmp5.tab] ++ staticW U16 115 Cmp5.yN
def tab : Cond := tabOf yN yB 6 (some (.array .byte)) site
def P (b : Addr) (A : Cell) (o len : Nat) (args : Array Value) (s : State) : Prop := args = #[.ref b, .int (Int32.ofNat o), .int (Int32.ofNat len)] ∧ Ch b A s ∧ o + len ≤ A.slots.size ∧ len ≤ 536870912 ∧ ∀ i, i < len → ¬ 255 < cv A (o + i)
def E (b : Addr) (A : Cell) (o len : Nat) (r : Option Value) (s u : State) : Prop := NewArr .byte "[B" len (fun j => .int (lo8 (cv A (o + j)))) r s u ∧ u.heap.size = s.heap.size + 1
/-- no char of the range above 255: a new byte[] of their low bytes -/
theorem law (l : Launch) (b : Addr) (A : Cell) (o len : Nat) : Law l yN 3 3 1 18 yB 6 (some (.array .byte)) site (P b A o len) (E b A o len) [] 1 len := by
  refine Law.of_walk (plainFor_of_name (by decide +kernel)) (by decide +kernel) (by decide +kernel) (by decide) (fun _ _ h => by rw [h.1]; rfl) (fun _ U U' hal hh h => ⟨h.1, h.2.1.mv hal hh, h.2.2⟩) (fun r U U' V V' h1 hal h2 h => ⟨NewArr.mv r U U' V V' h1 hal h2 h.1, by rw [h1, h2]; exact h.2⟩) ?_
  intro p e s m args below meth c s₁ X0 hexec hbytes hml hret hlk hnm hown hh0 W hP
  obtain ⟨rfl, hA, l1, l2, hp⟩ := hP
  have a31 := hA.1.2.2.2
  have c1 : Steps p.tables e below (s₁.setTop (entryFrame m #[.ref b, .int (Int32.ofNat o), .int (Int32.ofNat len)] 6)) (s₁.setTop (mkF m 0 #[.val (.ref b), .val (.int (Int32.ofNat o)), .val (.int (Int32.ofNat len)), .unset, .unset, .unset] [])) := entry rfl
  have c2 : Steps p.tables e below (s₁.setTop (entryFrame m #[.ref b, .int (Int32.ofNat o), .int (Int32.ofNat len)] 6)) (s₁.setTop (mkF m 1 #[.val (.ref b), .val (.int (Int32.ofNat o)), .val (.int (Int32.ofNat len)), .unset, .unset, .unset] [.int (Int32.ofNat len)])) := c1.trans (by
    refine XS.iloadN X0.here hexec rfl (hb hbytes d0) rfl ?_
    exact Steps.refl _)
  obtain ⟨T3, B3, X3, ba3, bs3, bv3, bh3, bf3, st3⟩ := X0.anew hexec (atype := .byte) (wk W (.arrayClass .byte)) rfl (by show len * 1 ≤ _; omega) (by omega) (g := (mkF m 1 #[.val (.ref b), .val (.int (Int32.ofNat o)), .val (.int (Int32.ofNat len)), .unset, .unset, .unset] [.int (Int32.ofNat len)])) rfl (hb hbytes d1) (rest := []) rfl (Nat.le_refl _) (by show 0 + len ≤ len; omega)
  rw [hh0] at ba3 st3
  have kp3 : XT.Kept s T3 := (XT.Kept.of_eq hh0).push bh3
  have hA3 := hA.keep X3.warmed.alike (kp3 _ _ hA.1.1)
  have hne : b ≠ s.heap.size := hA.1.ne
  have c4 : Steps p.tables e below (s₁.setTop (entryFrame m #[.ref b, .int (Int32.ofNat o), .int (Int32.ofNat len)] 6)) (T3.setTop (mkF m 3 #[.val (.ref b), .val (.int (Int32.ofNat o)), .val (.int (Int32.ofNat len)), .unset, .unset, .unset] [.ref s.heap.size])) := c2.trans (st3 _ (Steps.refl _))
  have c5 : Steps p.tables e below (s₁.setTop (entryFrame m #[.ref b, .int (Int32.ofNat o), .int (Int32.ofNat len)] 6)) (T3.setTop (mkF m 9 #[.val (.ref b), .val (.int (Int32.ofNat o)), .val (.int (Int32.ofNat len)), .val (.ref s.heap.size), .unset, .unset] [.int (Int32.ofNat len), .int 0, .ref s.heap.size, .int (Int32.ofNat o), .ref b])) := c4.trans (by
    refine XS.astoreN X3.here hexec rfl (hb hbytes d3) rfl rfl rfl ?_
    refine XS.aloadN X3.here hexec rfl (hb hbytes d4) rfl rfl ?_
    refine XS.iloadN X3.here hexec rfl (hb hbytes d5) rfl ?_
    refine XS.aloadN X3.here hexec rfl (hb hbytes d6) rfl rfl ?_
    refine iconstV X3.here hexec rfl 0 (hb hbytes d7) (by decide) ?_
    refine XS.iloadN X3.here hexec rfl (hb hbytes d8) rfl ?_
    exact Steps.refl _)
  obtain ⟨v6, T6, X6, E6, g6⟩ := X3.callS hexec (Cmp5.law l b A s.heap.size B3 o 0 len) hown (wks W (staticW U16 115 Cmp5.yN)) (wk W Cmp5.tab) (W := 0) (Nat.le_of_ble_eq_true rfl) (Nat.le_of_ble_eq_true rfl) (Nat.le_refl _) (by show 0 + len + 0 ≤ len; omega) (g := (mkF m 9 #[.val (.ref b), .val (.int (Int32.ofNat o)), .val (.int (Int32.ofNat len)), .val (.ref s.heap.size), .unset, .unset] [.int (Int32.ofNat len), .int (Int32.ofNat 0), .ref s.heap.size, .int (Int32.ofNat o), .ref b])) rfl (by rw [hml]; rfl) c5 (argsL := [.ref b, .int (Int32.ofNat o), .ref s.heap.size, .int (Int32.ofNat 0), .int (Int32.ofNat len)]) (rest := []) rfl rfl (by show 2 * 0 + 0 ≤ _; decide) (hb hbytes d9) (⟨rfl, hA3, ba3, hne, l1, by rw [bs3]; simp, hp⟩)
  obtain ⟨rfl, B6, p6, f6⟩ := E6
  have c7 : Steps p.tables e below (s₁.setTop (entryFrame m #[.ref b, .int (Int32.ofNat o), .int (Int32.ofNat len)] 6)) (T6.setTop (mkF m 12 #[.val (.ref b), .val (.int (Int32.ofNat o)), .val (.int (Int32.ofNat len)), .val (.ref s.heap.size), .unset, .unset] [.int (Int32.ofNat len)])) := g6
  have c8 : Steps p.tables e below (s₁.setTop (entryFrame m #[.ref b, .int (Int32.ofNat o), .int (Int32.ofNat len)] 6)) (T6.setTop (mkF m 58 #[.val (.ref b), .val (.int (Int32.ofNat o)), .val (.int (Int32.ofNat len)), .val (.ref s.heap.size), .val (.int (Int32.ofNat len)), .unset] [.ref s.heap.size])) := c7.trans (by
    refine XS.istore X6.here hexec rfl (hb hbytes d12) rfl rfl ?_
    refine XS.iload X6.here hexec rfl (hb hbytes d14) rfl ?_
    refine XS.iloadN X6.here hexec rfl (hb hbytes d16) rfl ?_
    refine XS.icmpYes X6.here hexec rfl (pc0 := 17) rfl (hb hbytes d17) rfl (ii_eq_t rfl) (by decide) rfl ?_
    refine XS.aloadN X6.here hexec rfl (hb hbytes d57) rfl rfl ?_
    exact Steps.refl _)
  have X8 := X6.wide (L' := []) (cells' := 1) (slots' := len) (fun x hx hlt => by
    simp only [List.nil_append, copyLocs, List.mem_map, List.mem_range] at hx
    obtain ⟨i, -, rfl⟩ := hx
    exact absurd hlt (Nat.lt_irrefl _)) (Nat.le_refl _) (by omega)
  exact ⟨T6, some (.ref s.heap.size), _, _, _, X8, rfl, rfl, rfl, (fun h => by cases h), ⟨⟨rfl, B6, ba3.like (X3.warmed.alike.symm.trans X6.warmed.alike) p6.1 f6.1 f6.2.1 f6.2.2.1, f6.2.1.trans bv3, by rw [X6.warmed.alike.findClass, f6.1]; exact bf3, by rw [f6.2.2.1, bs3]; simp, fun j hj => by rw [f6.2.2.2 j, if_pos (by omega)]; rfl, kp3.put p6 (Nat.le_refl _)⟩, by rw [p6.2.2, bh3, hh0]; simp⟩, fun fs hl => c8.trans (X8.areturnOut hexec rfl hret rfl (hb hbytes d58) hl)⟩
end Cmp3
namespace CodL
def yN : MethodName := ⟨"java/lang/StringUTF16", "coderFromArrayLen", "([BI)B"⟩
abbrev yB : ByteArray := jdk_52_method_15_code
theorem d0 : decode yB 0 = .ok (.iload_n 1, 1) := by decide +kernel
theorem d1 : decode yB 1 = .ok (.aload_n 0, 1) := by decide +kernel
theorem d2 : decode yB 2 = .ok (.arraylength, 1) := by decide +kernel
theorem d3 : decode yB 3 = .ok (.isub, 1) := by decide +kernel
theorem d4 : decode yB 4 = .ok (.bipush 31, 2) := by decide +kernel
theorem d6 : decode yB 6 = .ok (.iushr, 1) := by decide +kernel
theorem d7 : decode yB 7 = .ok (.i2b, 1) := by decide +kernel
theorem d8 : decode yB 8 = .ok (.ireturn, 1) := by decide +kernel
def site : List Cond := []
def tab : Cond := tabOf yN yB 2 (some .byte) site
def P (d : Addr) (B : Cell) (args : Array Value) (s : State) : Prop := args = #[.ref d, .int (Int32.ofNat B.slots.size)] ∧ Arr .byte d B s
def E (r : Option Value) (s u : State) : Prop := XT.PureE (some (.int 0)) r s u
/-- an array as long as the number of chars: LATIN1 -/
theorem law (l : Launch) (d : Addr) (B : Cell) : Law l yN 2 2 0 0 yB 2 (some .byte) site (P d B) E [] 0 0 := by
  refine Law.of_walk (plainFor_of_name (by decide +kernel)) (by decide +kernel) (by decide +kernel) (by decide) (fun _ _ h => by rw [h.1]; rfl) (fun _ U U' hal hh h => ⟨h.1, h.2.mv hal hh⟩) (fun r U U' V V' h1 hal h2 h => XT.PureE.mv r U U' V V' h1 hal h2 h) ?_
  intro p e s m args below meth c s₁ X0 hexec hbytes hml hret hlk hnm hown hh0 W hP
  obtain ⟨rfl, hB⟩ := hP
  have hB0 := hB.mv X0.warmed.alike hh0
  have c1 : Steps p.tables e below (s₁.setTop (entryFrame m #[.ref d, .int (Int32.ofNat B.slots.size)] 2)) (s₁.setTop (mkF m 0 #[.val (.ref d), .val (.int (Int32.ofNat B.slots.size))] [])) := entry rfl
  have c2 : Steps p.tables e below (s₁.setTop (entryFrame m #[.ref d, .int (Int32.ofNat B.slots.size)] 2)) (s₁.setTop (mkF m 2 #[.val (.ref d), .val (.int (Int32.ofNat B.slots.size))] [.ref d, .int (Int32.ofNat B.slots.size)])) := c1.trans (by
    refine XS.iloadN X0.here hexec rfl (hb hbytes d0) rfl ?_
    refine XS.aloadN X0.here hexec rfl (hb hbytes d1) rfl rfl ?_
    exact Steps.refl _)
  have c3 : Steps p.tables e below (s₁.setTop (entryFrame m #[.ref d, .int (Int32.ofNat B.slots.size)] 2)) (s₁.setTop (mkF m 8 #[.val (.ref d), .val (.int (Int32.ofNat B.slots.size))] [.int (lo8 (ushr (Int32.ofNat B.slots.size - Int32.ofNat B.slots.size) 31))])) := c2.trans (by
    refine X0.alen hexec hB0 rfl rfl (hb hbytes d2) ?_
    refine XS.isub X0.here hexec rfl (hb hbytes d3) rfl ?_
    refine bipushV X0.here hexec rfl 31 (hb hbytes d4) (by decide) ?_
    refine iushr X0.here hexec rfl (hb hbytes d6) rfl ?_
    refine i2b X0.here hexec rfl (hb hbytes d7) rfl ?_
    exact Steps.refl _)
  have e0 : lo8 (ushr (Int32.ofNat B.slots.size - Int32.ofNat B.slots.size) 31) = 0 := by rw [Int32.sub_self]; decide
  rw [e0] at c3
  exact ⟨s₁, some (.int 0), _, _, _, X0, rfl, rfl, rfl, (fun h => by cases h), ⟨rfl, hh0⟩, fun fs hl => c3.trans (X0.ireturnOut hexec hret rfl (Or.inr (Or.inr (Or.inl rfl))) (hb hbytes d8) hl)⟩
end CodL
/-- the String at a is Latin-1 over a new byte[] (the heap's one new cell): the low bytes of the len chars of A from o on; every cell but a is kept -/
def Got (a : Addr) (D : Cell) (fV fC : Field) (A : Cell) (o len : Nat) (r : Option Value) (s u : State) : Prop := r = none ∧ ∃ D' V : Cell, Blank "java/lang/String" a D' u ∧ Same D D' [fV.slot, fC.slot] ∧ D'.slots[fV.slot]? = some (.ref s.heap.size) ∧ D'.slots[fC.slot]? = some (.int 0) ∧ Arr .byte s.heap.size V u ∧ V.vm = .none ∧ u.vm.findClass "[B" = some V.cls ∧ V.slots.size = len ∧ (∀ j, j < len → V.slots[j]? = some (.int (lo8 (cv A (o + j))))) ∧ (∀ (y : Addr) (c : Cell), y ≠ a → s.heap[y]? = some c → u.heap[y]? = some c) ∧ u.heap.size = s.heap.size + 1
theorem Got.mv {a : Addr} {D A : Cell} {fV fC : Field} {o len : Nat} : ∀ r (U U' V V' : State), U'.heap = U.heap → V.vm.Alike V'.vm → V'.heap = V.heap → Got a D fV fC A o len r U V → Got a D fV fC A o len r U' V' :=
  fun r U U' V V' h1 hal h2 ⟨e0, D', X, a1, a2, a3, a4, a5, a6, a7, a8, a9, a10, a11⟩ => ⟨e0, D', X, a1.mv hal h2, a2, by rw [h1]; exact a3, a4, by rw [h1]; exact a5.mv hal h2, a6, by rw [hal.findClass]; exact a7, a8, a9, by rw [h1, h2]; exact a10, by rw [h1, h2]; exact a11⟩
namespace New4
def yN : MethodName := ⟨"java/lang/String", "<init>", "([CIILjava/lang/Void;)V"⟩
abbrev yB : ByteArray := jdk_42_method_149_code
theorem d0 : decode yB 0 = .ok (.aload_n 0, 1) := by decide +kernel
theorem d1 : decode yB 1 = .ok (.invokespecial 1, 3) := by decide +kernel
theorem d4 : decode yB 4 = .ok (.iload_n 3, 1) := by decide +kernel
theorem d5 : decode yB 5 = .ok (.ifCond (.ne) 22, 3) := by decide +kernel
theorem d27 : decode yB 27 = .ok (.getstatic 38, 3) := by decide +kernel
theorem d30 : decode yB 30 = .ok (.ifCond (.eq) 28, 3) := by decide +kernel
theorem d33 : decode yB 33 = .ok (.aload_n 1, 1) := by decide +kernel
theorem d34 : decode yB 34 = .ok (.iload_n 2, 1) := by decide +kernel
theorem d35 : decode yB 35 = .ok (.iload_n 3, 1) := by decide +kernel
theorem d36 : decode yB 36 = .ok (.invokestatic 177, 3) := by decide +kernel
theorem d39 : decode yB 39 = .ok (.astore 5, 2) := by decide +kernel
theorem d41 : decode yB 41 = .ok (.aload_n 0, 1) := by decide +kernel
theorem d42 : decode yB 42 = .ok (.aload 5, 2) := by decide +kernel
theorem d44 : decode yB 44 = .ok (.iload_n 3, 1) := by decide +kernel
theorem d45 : decode yB 45 = .ok (.invokestatic 47, 3) := by decide +kernel
theorem d48 : decode yB 48 = .ok (.putfield 15, 3) := by decide +kernel
theorem d51 : decode yB 51 = .ok (.aload_n 0, 1) := by decide +kernel
theorem d52 : decode yB 52 = .ok (.aload 5, 2) := by decide +kernel
theorem d54 : decode yB 54 = .ok (.putfield 9, 3) := by decide +kernel
theorem d57 : decode yB 57 = .ok (.return_, 1) := by decide +kernel
def site : List Cond := [.fieldLink "java/lang/String" 38 "java/lang/String" "COMPACT_STRINGS" "Z", Cmp3.tab, CodL.tab, .laysFinal "java/lang/String" "java/lang/String" "value" "[B", .fieldLink "java/lang/String" 9 "java/lang/String" "value" "[B", .laysFinal "java/lang/String" "java/lang/String" "coder" "B", .fieldLink "java/lang/String" 15 "java/lang/String" "coder" "B"] ++ objW "java/lang/String" 1 ++ staticW "java/lang/String" 177 Cmp3.yN ++ staticW "java/lang/String" 47 CodL.yN
def tab : Cond := tabOf yN yB 6 none site
def P (a : Addr) (D : Cell) (fV fC : Field) (b : Addr) (A : Cell) (z : Int32) (o len : Nat) (args : Array Value) (s : State) : Prop := args = #[.ref a, .ref b, .int (Int32.ofNat o), .int (Int32.ofNat len), .null] ∧ Blank "java/lang/String" a D s ∧ Found "java/lang/String" "value" "[B" fV s ∧ Found "java/lang/String" "coder" "B" fC s ∧ Ch b A s ∧ StaticIs s "java/lang/String" "COMPACT_STRINGS" "Z" (.int z) ∧ ¬ z = 0 ∧ 0 < len ∧ o + len ≤ A.slots.size ∧ len ≤ 536870912 ∧ ∀ i, i < len → ¬ 255 < cv A (o + i)
def E (a : Addr) (D : Cell) (fV fC : Field) (A : Cell) (o len : Nat) (r : Option Value) (s u : State) : Prop := Got a D fV fC A o len r s u
/-- len > 0, no char of the range above 255: a Latin-1 String of their low bytes -/
theorem law (l : Launch) (a : Addr) (D : Cell) (fV fC : Field) (b : Addr) (A : Cell) (z : Int32) (o len : Nat) : Law l yN 5 4 2 35 yB 6 none site (P a D fV fC b A z o len) (E a D fV fC A o len) [⟨a, fC.slot⟩, ⟨a, fV.slot⟩] 1 len := by
  refine Law.of_walk (plainFor_of_name (by decide +kernel)) (by decide +kernel) (by decide +kernel) (by decide) (fun _ _ h => by rw [h.1]; rfl) (fun _ U U' hal hh h => ⟨h.1, h.2.1.mv hal hh, h.2.2.1.al hal, h.2.2.2.1.al hal, h.2.2.2.2.1.mv hal hh, h.2.2.2.2.2.1.there hal hh, h.2.2.2.2.2.2⟩) (fun r U U' V V' h1 hal h2 h => Got.mv r U U' V V' h1 hal h2 h) ?_
  intro p e s m args below meth c s₁ X0 hexec hbytes hml hret hlk hnm hown hh0 W hP
  obtain ⟨rfl, hB, f1, f2, hA, s1, hz, l0, l1, l2, hp⟩ := hP
  have a31 := hA.1.2.2.2
  have c1 : Steps p.tables e below (s₁.setTop (entryFrame m #[.ref a, .ref b, .int (Int32.ofNat o), .int (Int32.ofNat len), .null] 6)) (s₁.setTop (mkF m 0 #[.val (.ref a), .val (.ref b), .val (.int (Int32.ofNat o)), .val (.int (Int32.ofNat len)), .val .null, .unset] [])) := entry rfl
  have c2 : Steps p.tables e below (s₁.setTop (entryFrame m #[.ref a, .ref b, .int (Int32.ofNat o), .int (Int32.ofNat len), .null] 6)) (s₁.setTop (mkF m 1 #[.val (.ref a), .val (.ref b), .val (.int (Int32.ofNat o)), .val (.int (Int32.ofNat len)), .val .null, .unset] [.ref a])) := c1.trans (by
    refine XS.aloadN X0.here hexec rfl (hb hbytes d0) rfl rfl ?_
    exact Steps.refl _)
  obtain ⟨T3, X3, q3, st3⟩ := X0.oinit hexec hown (wks W (objW "java/lang/String" 1)) (g := (mkF m 1 #[.val (.ref a), .val (.ref b), .val (.int (Int32.ofNat o)), .val (.int (Int32.ofNat len)), .val .null, .unset] [.ref a])) rfl (by rw [hml]; rfl) (rest := []) rfl (hb hbytes d1) (W := 0) (by show 2 * 0 + 0 ≤ _; decide) (Nat.le_of_ble_eq_true rfl) (Nat.le_of_ble_eq_true rfl)
  have hh3 := q3.trans hh0
  have c4 : Steps p.tables e below (s₁.setTop (entryFrame m #[.ref a, .ref b, .int (Int32.ofNat o), .int (Int32.ofNat len), .null] 6)) (T3.setTop (mkF m 27 #[.val (.ref a), .val (.ref b), .val (.int (Int32.ofNat o)), .val (.int (Int32.ofNat len)), .val .null, .unset] [])) := (c2.trans (st3 _ (Steps.refl _))).trans (by
    refine XS.iloadN X3.here hexec rfl (hb hbytes d4) rfl ?_
    refine XS.ifYes X3.here hexec rfl (pc0 := 5) rfl (hb hbytes d5) rfl (i0_ne_t (nz32 (by omega) l0)) (by decide) rfl ?_
    exact Steps.refl _)
  obtain ⟨T5, X5, q5, st5⟩ := X3.sget hexec hown (wk W (.fieldLink "java/lang/String" 38 "java/lang/String" "COMPACT_STRINGS" "Z")) s1 (fun _ _ h => by rw [hh3]; exact h) (g := (mkF m 27 #[.val (.ref a), .val (.ref b), .val (.int (Int32.ofNat o)), .val (.int (Int32.ofNat len)), .val .null, .unset] [])) rfl (hb hbytes d27)
  have hh5 := q5.trans hh3
  have c6 : Steps p.tables e below (s₁.setTop (entryFrame m #[.ref a, .ref b, .int (Int32.ofNat o), .int (Int32.ofNat len), .null] 6)) (T5.setTop (mkF m 30 #[.val (.ref a), .val (.ref b), .val (.int (Int32.ofNat o)), .val (.int (Int32.ofNat len)), .val .null, .unset] [.int z])) := c4.trans (st5 _ (Steps.refl _))
  have c7 : Steps p.tables e below (s₁.setTop (entryFrame m #[.ref a, .ref b, .int (Int32.ofNat o), .int (Int32.ofNat len), .null] 6)) (T5.setTop (mkF m 36 #[.val (.ref a), .val (.ref b), .val (.int (Int32.ofNat o)), .val (.int (Int32.ofNat len)), .val .null, .unset] [.int (Int32.ofNat len), .int (Int32.ofNat o), .ref b])) := c6.trans (by
    refine XS.ifNo X5.here hexec rfl (hb hbytes d30) rfl (i0_eq_f hz) ?_
    refine XS.aloadN X5.here hexec rfl (hb hbytes d33) rfl rfl ?_
    refine XS.iloadN X5.here hexec rfl (hb hbytes d34) rfl ?_
    refine XS.iloadN X5.here hexec rfl (hb hbytes d35) rfl ?_
    exact Steps.refl _)
  obtain ⟨v8, T8, X8, E8, g8⟩ := X5.callS hexec (Cmp3.law l b A o len) hown (wks W (staticW "java/lang/String" 177 Cmp3.yN)) (wk W Cmp3.tab) (W := 0) (Nat.le_of_ble_eq_true rfl) (Nat.le_of_ble_eq_true rfl) (Nat.le_refl _) (by show 0 + len ≤ len; omega) (g := (mkF m 36 #[.val (.ref a), .val (.ref b), .val (.int (Int32.ofNat o)), .val (.int (Int32.ofNat len)), .val .null, .unset] [.int (Int32.ofNat len), .int (Int32.ofNat o), .ref b])) rfl (by rw [hml]; rfl) c7 (argsL := [.ref b, .int (Int32.ofNat o), .int (Int32.ofNat len)]) (rest := []) rfl rfl (by show 2 * 0 + 0 ≤ _; decide) (hb hbytes d36) (⟨rfl, hA.mv X5.warmed.alike hh5, l1, l2, hp⟩)
  obtain ⟨e8, z8⟩ := E8
  obtain ⟨rfl, N, n1, n2, n3, n4, n5, n6⟩ := NewArr.mv _ T5 s _ _ hh5.symm (Vm.Alike.refl _) rfl e8
  rw [hh5] at z8
  have hB1 := hB.keep X8.warmed.alike (n6 _ _ hB.1)
  have hne : s.heap.size ≠ a := (Nat.ne_of_lt (Array.getElem?_eq_some_iff.mp hB.1).1).symm
  have c9 : Steps p.tables e below (s₁.setTop (entryFrame m #[.ref a, .ref b, .int (Int32.ofNat o), .int (Int32.ofNat len), .null] 6)) (T8.setTop (mkF m 39 #[.val (.ref a), .val (.ref b), .val (.int (Int32.ofNat o)), .val (.int (Int32.ofNat len)), .val .null, .unset] [.ref s.heap.size])) := g8
  have c10 : Steps p.tables e below (s₁.setTop (entryFrame m #[.ref a, .ref b, .int (Int32.ofNat o), .int (Int32.ofNat len), .null] 6)) (T8.setTop (mkF m 45 #[.val (.ref a), .val (.ref b), .val (.int (Int32.ofNat o)), .val (.int (Int32.ofNat len)), .val .null, .val (.ref s.heap.size)] [.int (Int32.ofNat N.slots.size), .ref s.heap.size, .ref a])) := by
    have hc : Steps p.tables e below (s₁.setTop (entryFrame m #[.ref a, .ref b, .int (Int32.ofNat o), .int (Int32.ofNat len), .null] 6)) (T8.setTop (mkF m 45 #[.val (.ref a), .val (.ref b), .val (.int (Int32.ofNat o)), .val (.int (Int32.ofNat len)), .val .null, .val (.ref s.heap.size)] [.int (Int32.ofNat len), .ref s.heap.size, .ref a])) := c9.trans (by
      refine XS.astore X8.here hexec rfl (hb hbytes d39) rfl rfl rfl ?_
      refine XS.aloadN X8.here hexec rfl (hb hbytes d41) rfl rfl ?_
      refine XS.aload X8.here hexec rfl (hb hbytes d42) rfl rfl ?_
      refine XS.iloadN X8.here hexec rfl (hb hbytes d44) rfl ?_
      exact Steps.refl _)
    rw [n4]; exact hc
  obtain ⟨v11, T11, X11, E11, g11⟩ := X8.callS hexec (CodL.law l s.heap.size N) hown (wks W (staticW "java/lang/String" 47 CodL.yN)) (wk W CodL.tab) (W := 1) (Nat.le_of_ble_eq_true rfl) (Nat.le_of_ble_eq_true rfl) (Nat.le_refl _) (by show 0 + len + 0 ≤ len; omega) (g := (mkF m 45 #[.val (.ref a), .val (.ref b), .val (.int (Int32.ofNat o)), .val (.int (Int32.ofNat len)), .val .null, .val (.ref s.heap.size)] [.int (Int32.ofNat N.slots.size), .ref s.heap.size, .ref a])) rfl (by rw [hml]; rfl) c10 (argsL := [.ref s.heap.size, .int (Int32.ofNat N.slots.size)]) (rest := [.ref a]) rfl rfl (by show 2 * 0 + (1 + 0) ≤ _; decide) (hb hbytes d45) (⟨rfl, n1⟩)
  obtain ⟨rfl, q11⟩ := E11
  have hB11 := hB1.mv (X8.warmed.alike.symm.trans X11.warmed.alike) q11
  have c12 : Steps p.tables e below (s₁.setTop (entryFrame m #[.ref a, .ref b, .int (Int32.ofNat o), .int (Int32.ofNat len), .null] 6)) (T11.setTop (mkF m 48 #[.val (.ref a), .val (.ref b), .val (.int (Int32.ofNat o)), .val (.int (Int32.ofNat len)), .val .null, .val (.ref s.heap.size)] [.int 0, .ref a])) := g11
  obtain ⟨T13, X13, p13, bl13, sl13, st13⟩ := X11.finit hexec hown (wk W (.fieldLink "java/lang/String" 15 "java/lang/String" "coder" "B")) (Or.inr ⟨_, (wk W (.laysFinal "java/lang/String" "java/lang/String" "coder" "B"))⟩) (Or.inl ⟨rfl, hnm⟩) f2 (Or.inl rfl) hB11 (t := .byte) (by decide +kernel) rfl (g := (mkF m 48 #[.val (.ref a), .val (.ref b), .val (.int (Int32.ofNat o)), .val (.int (Int32.ofNat len)), .val .null, .val (.ref s.heap.size)] [.int 0, .ref a])) rfl (rest := []) rfl (hb hbytes d48)
  have c14 : Steps p.tables e below (s₁.setTop (entryFrame m #[.ref a, .ref b, .int (Int32.ofNat o), .int (Int32.ofNat len), .null] 6)) (T13.setTop (mkF m 54 #[.val (.ref a), .val (.ref b), .val (.int (Int32.ofNat o)), .val (.int (Int32.ofNat len)), .val .null, .val (.ref s.heap.size)] [.ref s.heap.size, .ref a])) := (c12.trans (st13 _ (Steps.refl _))).trans (by
    refine XS.aloadN X13.here hexec rfl (hb hbytes d51) rfl rfl ?_
    refine XS.aload X13.here hexec rfl (hb hbytes d52) rfl rfl ?_
    exact Steps.refl _)
  obtain ⟨T15, X15, p15, bl15, sl15, st15⟩ := X13.finit hexec hown (wk W (.fieldLink "java/lang/String" 9 "java/lang/String" "value" "[B")) (Or.inr ⟨_, (wk W (.laysFinal "java/lang/String" "java/lang/String" "value" "[B"))⟩) (Or.inl ⟨rfl, hnm⟩) f1 (Or.inl rfl) bl13 (t := (.array .byte)) (by decide +kernel) rfl (g := (mkF m 54 #[.val (.ref a), .val (.ref b), .val (.int (Int32.ofNat o)), .val (.int (Int32.ofNat len)), .val .null, .val (.ref s.heap.size)] [.ref s.heap.size, .ref a])) rfl (rest := []) rfl (hb hbytes d54)
  have c16 : Steps p.tables e below (s₁.setTop (entryFrame m #[.ref a, .ref b, .int (Int32.ofNat o), .int (Int32.ofNat len), .null] 6)) (T15.setTop (mkF m 57 #[.val (.ref a), .val (.ref b), .val (.int (Int32.ofNat o)), .val (.int (Int32.ofNat len)), .val .null, .val (.ref s.heap.size)] [])) := c14.trans (st15 _ (Steps.refl _))
  have ap := apart (Or.inr ⟨_, (wk W (.laysFinal "java/lang/String" "java/lang/String" "value" "[B"))⟩) (Or.inr ⟨_, (wk W (.laysFinal "java/lang/String" "java/lang/String" "coder" "B"))⟩) f1 f2 (t₁ := .array .byte) (t₂ := .byte) (by decide +kernel) (by decide +kernel) (by decide)
  have al := X8.warmed.alike.symm.trans X15.warmed.alike
  have n7 : T11.heap[s.heap.size]? = some N := by rw [q11]; exact n1.1
  exact ⟨T15, none, _, _, _, X15, by simp, rfl, by omega, (fun _ => rfl), ⟨rfl, _, N, bl15, ((Same.refl D _).set _ (by simp)).set _ (by simp), sl15, (Cell.slots_setSlot_ne _ ap).trans sl13, n1.keep al (p15.other hne (p13.other hne n7)), n2, by rw [al.findClass]; exact n3, n4, n5, fun y c h1 h2 => p15.other h1 (p13.other h1 (by rw [q11]; exact n6 y c h2)), by rw [p15.2.2, p13.2.2, q11]; exact z8⟩, fun fs hl => c16.trans (X15.returnOut hexec hret (hb hbytes d57) hl)⟩
end New4
namespace New1
def yN : MethodName := ⟨"java/lang/String", "<init>", "([C)V"⟩
abbrev yB : ByteArray := jdk_42_method_3_code
theorem d0 : decode yB 0 = .ok (.aload_n 0, 1) := by decide +kernel
theorem d1 : decode yB 1 = .ok (.aload_n 1, 1) := by decide +kernel
theorem d2 : decode yB 2 = .ok (.iconst 0, 1) := by decide +kernel
theorem d3 : decode yB 3 = .ok (.aload_n 1, 1) := by decide +kernel
theorem d4 : decode yB 4 = .ok (.arraylength, 1) := by decide +kernel
theorem d5 : decode yB 5 = .ok (.aconst_null, 1) := by decide +kernel
theorem d6 : decode yB 6 = .ok (.invokespecial 27, 3) := by decide +kernel
theorem d9 : decode yB 9 = .ok (.return_, 1) := by decide +kernel
def site : List Cond := [New4.tab] ++ initW "java/lang/String" 27 New4.yN
def tab : Cond := tabOf yN yB 2 none site
def P (a : Addr) (D : Cell) (fV fC : Field) (b : Addr) (A : Cell) (z : Int32) (args : Array Value) (s : State) : Prop := args = #[.ref a, .ref b] ∧ Blank "java/lang/String" a D s ∧ Found "java/lang/String" "value" "[B" fV s ∧ Found "java/lang/String" "coder" "B" fC s ∧ Ch b A s ∧ StaticIs s "java/lang/String" "COMPACT_STRINGS" "Z" (.int z) ∧ ¬ z = 0 ∧ 0 < A.slots.size ∧ A.slots.size ≤ 536870912 ∧ ∀ i, i < A.slots.size → ¬ 255 < cv A i
def E (a : Addr) (D : Cell) (fV fC : Field) (A : Cell) (r : Option Value) (s u : State) : Prop := Got a D fV fC A 0 A.slots.size r s u
/-- new String(chars), not empty, no char above 255: a Latin-1 String of their low bytes -/
theorem law (l : Launch) (a : Addr) (D : Cell) (fV fC : Field) (b : Addr) (A : Cell) (z : Int32) : Law l yN 2 1 3 52 yB 2 none site (P a D fV fC b A z) (E a D fV fC A) [⟨a, fC.slot⟩, ⟨a, fV.slot⟩] 1 A.slots.size := by
  refine Law.of_walk (plainFor_of_name (by decide +kernel)) (by decide +kernel) (by decide +kernel) (by decide) (fun _ _ h => by rw [h.1]; rfl) (fun _ U U' hal hh h => ⟨h.1, h.2.1.mv hal hh, h.2.2.1.al hal, h.2.2.2.1.al hal, h.2.2.2.2.1.mv hal hh, h.2.2.2.2.2.1.there hal hh, h.2.2.2.2.2.2⟩) (fun r U U' V V' h1 hal h2 h => Got.mv r U U' V V' h1 hal h2 h) ?_
  intro p e s m args below meth c s₁ X0 hexec hbytes hml hret hlk hnm hown hh0 W hP
  obtain ⟨rfl, hB, f1, f2, hA, s1, hz, l0, l2, hp⟩ := hP
  have c1 : Steps p.tables e below (s₁.setTop (entryFrame m #[.ref a, .ref b] 2)) (s₁.setTop (mkF m 0 #[.val (.ref a), .val (.ref b)] [])) := entry rfl
  have c2 : Steps p.tables e below (s₁.setTop (entryFrame m #[.ref a, .ref b] 2)) (s₁.setTop (mkF m 6 #[.val (.ref a), .val (.ref b)] [.null, .int (Int32.ofNat A.slots.size), .int 0, .ref b, .ref a])) := c1.trans (by
    refine XS.aloadN X0.here hexec rfl (hb hbytes d0) rfl rfl ?_
    refine XS.aloadN X0.here hexec rfl (hb hbytes d1) rfl rfl ?_
    refine iconstV X0.here hexec rfl 0 (hb hbytes d2) (by decide) ?_
    refine XS.aloadN X0.here hexec rfl (hb hbytes d3) rfl rfl ?_
    refine X0.alen hexec (hA.1.mv X0.warmed.alike hh0) rfl rfl (hb hbytes d4) ?_
    refine XS.aconstNull X0.here hexec rfl (hb hbytes d5) ?_
    exact Steps.refl _)
  obtain ⟨v3, T3, X3, E3, g3⟩ := X0.callN hexec (New4.law l a D fV fC b A z 0 A.slots.size) rfl hown (wks W (initW "java/lang/String" 27 New4.yN)) (W New4.tab (by simp only [site, List.mem_cons, List.mem_append, true_or, or_true])) (W := 0) (Nat.le_of_ble_eq_true rfl) (Nat.le_of_ble_eq_true rfl) (Nat.le_refl _) (by show 0 + A.slots.size ≤ A.slots.size; omega) (g := (mkF m 6 #[.val (.ref a), .val (.ref b)] [.null, .int (Int32.ofNat A.slots.size), .int (Int32.ofNat 0), .ref b, .ref a])) rfl (by rw [hml]; rfl) c2 (argsL := [.ref b, .int (Int32.ofNat 0), .int (Int32.ofNat A.slots.size), .null]) (rest := []) rfl rfl (by show 2 * 0 + 0 ≤ _; decide) (hb hbytes d6) (⟨rfl, hB.mv X0.warmed.alike hh0, f1.al X0.warmed.alike, f2.al X0.warmed.alike, hA.mv X0.warmed.alike hh0, s1.there X0.warmed.alike hh0, hz, l0, by omega, l2, fun i hi => by rw [Nat.zero_add]; exact hp i hi⟩)
  have e0 := Got.mv _ s₁ s _ _ hh0.symm (Vm.Alike.refl _) rfl E3
  obtain rfl := e0.1
  have c4 : Steps p.tables e below (s₁.setTop (entryFrame m #[.ref a, .ref b] 2)) (T3.setTop (mkF m 9 #[.val (.ref a), .val (.ref b)] [])) := g3
  exact ⟨T3, none, _, _, _, X3, by simp, rfl, by omega, (fun _ => rfl), e0, fun fs hl => c4.trans (X3.returnOut hexec hret (hb hbytes d9) hl)⟩
theorem pays {l : Launch} {R : Room} {p : Program} {e : Env} {below : List Frame} {s : State} {sargs : Array Value} {len W : Nat} (a : Addr) (D : Cell) (fV fC : Field) (b : Addr) (A : Cell) (z : Int32) (htab : tab.before sargs s = true) (hfr : 4 ≤ R.frames) (hlo : W + 65 ≤ R.locals) :
    Back l R p e below s sargs yN len W (fun A₁ a₁ => A₁.cells + 1 ≤ R.cells ∧ A₁.slots + A.slots.size ≤ R.slots ∧ P a D fV fC b A z a₁ A₁.U) (fun A₁ _ v₁ B₁ => E a D fV fC A v₁ A₁.U B₁.U ∧ B₁.locs = A₁.locs ++ [⟨a, fC.slot⟩, ⟨a, fV.slot⟩] ∧ B₁.cells = A₁.cells + 1 ∧ B₁.slots = A₁.slots + A.slots.size) :=
  (law l a D fV fC b A z).pays htab hfr (by omega)
end New1
/-- the byte, read back as charAt reads it, is the char -/
theorem lo8_mask {x : Int32} (h0 : ¬ x < 0) (h1 : ¬ 255 < x) : lo8 x &&& 255 = x := by
  have t : ∀ k : Fin 256, lo8 (Int32.ofNat k.val) &&& 255 = Int32.ofNat k.val := by decide +kernel
  rw [Int32.lt_iff_toInt_lt] at h0 h1
  have e0 : (0 : Int32).toInt = 0 := rfl
  have e1 : (255 : Int32).toInt = 255 := rfl
  obtain ⟨k, hk⟩ : ∃ k : Nat, x.toInt = k := ⟨x.toInt.toNat, by omega⟩
  have hx : x = Int32.ofNat k := Int32.toInt_inj.mp (by rw [hk, Int32.toInt_ofNat_small (by omega)])
  rw [hx]
  exact t ⟨k, by omega⟩
end StrChars
namespace StrChars.Road
open Jvm Sem ClassFile Op Lib Jvm.Stand Jvm.Free Jvm.Free.XT
open Jvm.Lib.Cold (StaticIs)
abbrev ST : String := "java/lang/String"
/-- every table word that New1's law asks, flat -/
abbrev words : List Jvm.Cond := [.code New1.yN New1.yB 2 none, .initialized ST, .methodLink ST 27 New4.yN, .instanceMethod New4.yN,
  .code New4.yN New4.yB 6 none, .fieldLink ST 38 ST "COMPACT_STRINGS" "Z", .laysFinal ST ST "value" "[B", .fieldLink ST 9 ST "value" "[B", .laysFinal ST ST "coder" "B", .fieldLink ST 15 ST "coder" "B",
  .methodLink ST 1 Lib.objectInit, .instanceMethod Lib.objectInit, .code Lib.objectInit ⟨#[0xb1]⟩ 1 none, .methodLink ST 177 Cmp3.yN, .static Cmp3.yN, .methodLink ST 47 CodL.yN, .static CodL.yN,
  .code Cmp3.yN Cmp3.yB 6 (some (.array .byte)), .initialized U16, .arrayClass .byte, .methodLink U16 115 Cmp5.yN, .static Cmp5.yN, .code Cmp5.yN Cmp5.yB 7 (some .int), .code CodL.yN CodL.yB 2 (some .byte)]
theorem tab_of {a : Array Value} {s : State} (h : ∀ w ∈ words, w.before a s = true) : New1.tab.before a s = true := by
  have h5 : Cmp5.tab.before a s = true := unparts (wk h (.code Cmp5.yN Cmp5.yB 7 (some .int))) (wks h (.initialized Cmp5.yN.cls :: Cmp5.site))
  have hc : CodL.tab.before a s = true := unparts (wk h (.code CodL.yN CodL.yB 2 (some .byte))) (wks h (.initialized CodL.yN.cls :: CodL.site))
  have q5 : ∀ w ∈ Cmp5.tab :: words, w.before a s = true := fun w hw => (List.mem_cons.mp hw).elim (fun e => e ▸ h5) (h w)
  have h3 : Cmp3.tab.before a s = true := unparts (wk q5 (.code Cmp3.yN Cmp3.yB 6 (some (.array .byte)))) (wks q5 (.initialized Cmp3.yN.cls :: Cmp3.site))
  have q3 : ∀ w ∈ Cmp3.tab :: CodL.tab :: words, w.before a s = true := fun w hw => (List.mem_cons.mp hw).elim (fun e => e ▸ h3) fun hw => (List.mem_cons.mp hw).elim (fun e => e ▸ hc) (h w)
  have h4 : New4.tab.before a s = true := unparts (wk q3 (.code New4.yN New4.yB 6 none)) (wks q3 (.initialized New4.yN.cls :: New4.site))
  have q4 : ∀ w ∈ New4.tab :: words, w.before a s = true := fun w hw => (List.mem_cons.mp hw).elim (fun e => e ▸ h4) (h w)
  exact unparts (wk q4 (.code New1.yN New1.yB 2 none)) (wks q4 (.initialized New1.yN.cls :: New1.site))
/-- the words ride from the start Z to the walk's own state -/
theorem moved {Z s : State} {a0 args : Array Value} (hZ : Z.Warmed39 s.vm) (hw : ∀ d ∈ words, d.before a0 Z = true) : ∀ d ∈ words, d.before args s = true := fun d hd => by
  have q := hw d hd
  have t : ∀ d ∈ words, d = .arrayClass .byte ∨ (d.onTables && d.keepsFace) = true := by decide +kernel
  rcases t d hd with rfl | t
  · exact RoadKit.mvA hZ q
  · exact RoadKit.mv hZ q t
/-- WHAT COMES BACK, over the tables of the start Z: h the heap at the call, h' behind it -/
def Q (Z : State) (x : Addr) (A : Cell) (h : Heap) (v : Option Value) (h' : Heap) (L : List Loc) : Prop := v = none ∧ (∀ y ∈ L, y.base = x) ∧ RoadKit.Keep h h' [x] ∧ h'.size = h.size + 1 ∧ RoadKit.Exa Z h' x ST ∧ RoadKit.Fld Z h' x ST "value" "[B" (.ref h.size) ∧ RoadKit.Fld Z h' x ST "coder" "B" (.int 0) ∧
  (∃ V : Cell, RoadKit.Arr Z h' h.size V .byte ∧ V.vm = .none ∧ Z.vm.findClass "[B" = some V.cls ∧ V.slots.size = A.slots.size ∧ ∀ j, j < A.slots.size → V.slots[j]? = some (.int (lo8 (cv A j)))) ∧
  ∀ (O n d : String) (w : Value), RoadKit.Fld Z h x O n d w → RoadKit.slotOf Z O n d ≠ RoadKit.slotOf Z ST "value" "[B" → RoadKit.slotOf Z O n d ≠ RoadKit.slotOf Z ST "coder" "B" → RoadKit.Fld Z h' x O n d w
/-- **new String(chars) AT A CALL, IN THE ROAD'S FORM**: for specialBack behind newO: x the fresh String, b the char[] with the cell A -/
theorem back {p : Program} {l : Launch} {e : Env} {R : Room} {s : State} {args : Array Value} {below : List Frame} {len W : Nat} {Z : State} {a0 : Array Value} {h : Heap} (hZ : Z.Warmed39 s.vm) (hw : ∀ d ∈ words, d.before a0 Z = true) {kI : Nat} (wi : (Jvm.Cond.instantiable ST kI).before a0 Z = true)
    {x b : Addr} {A : Cell} {z : Int32} {v0 c0 : Value} (E : RoadKit.Exa Z h x ST) (V : RoadKit.Fld Z h x ST "value" "[B" v0) (C : RoadKit.Fld Z h x ST "coder" "B" c0) (K : RoadKit.Arr Z h b A .char) (hty : Typed .char A) (S : RoadKit.Sta Z h ST "COMPACT_STRINGS" "Z" (.int z)) (hz : ¬ z = 0)
    (l0 : 0 < A.slots.size) (l2 : A.slots.size ≤ 536870912) (hp : ∀ i, i < A.slots.size → ¬ 255 < cv A i) (hfr : 4 ≤ R.frames) (hlo : W + 65 ≤ R.locals) :
    Back l R p e below s args New1.yN len W (fun P a => a = #[.ref x, .ref b] ∧ P.U.heap = h ∧ P.cells + 1 ≤ R.cells ∧ P.slots + A.slots.size ≤ R.slots)
      (fun P _ v B => ∃ L, Q Z x A h v B.U.heap L ∧ B.locs = P.locs ++ L ∧ B.cells = P.cells + 1 ∧ B.slots = P.slots + A.slots.size) := by
  intro m meth c P g ig mk a X hg hsize hdg hW hn hp'
  obtain ⟨rfl, rfl, r1, r2⟩ := hp'
  have al : Z.vm.Alike P.U.vm := hZ.alike.trans X.warmed.alike
  obtain ⟨D, cfV, kV, iV, fV, hD, gV, stV, knV, obV, asV, slV⟩ := id V
  obtain ⟨D', cfC, kC, iC, fC, hD', gC, stC, -, -, asC, slC⟩ := id C
  cases hD.symm.trans hD'
  obtain ⟨D2, kD, e1, e2, e3, e4, e5⟩ := id E
  cases hD.symm.trans e1
  obtain ⟨c2, k2, i1, i2, i3, -⟩ := Cond.instantiable_spec wi
  cases e2.symm.trans i1
  cases e3.symm.trans i2
  obtain ⟨kU, u1, u2⟩ := al.2.2 _ _ e3
  have hB : Blank ST x D P.U := ⟨hD, ⟨knV, fun q hq => by rw [hq] at obV; cases obV⟩, by rw [al.findClass]; exact e2, kU, u1, by rw [u2]; exact i3, by rw [u2]; exact e5 i3⟩
  have F1 : Found ST "value" "[B" fV P.U := ⟨SBG.found_only al ⟨cfV, kV, iV, gV⟩, stV⟩
  have F2 : Found ST "coder" "B" fC P.U := ⟨SBG.found_only al ⟨cfC, kC, iC, gC⟩, stC⟩
  have hA : Ch b A P.U := ⟨⟨K.1, State.isArrayOf_alike al K.2.1, K.2.2, by omega⟩, hty⟩
  have hS : StaticIs P.U ST "COMPACT_STRINGS" "Z" (.int z) := by
    obtain ⟨cfS, iS, kS, fS, st, cS, t1, t2, t3, t4, t5, t6, t7⟩ := S
    exact StaticIs.there (s := { Z with heap := P.U.heap }) ⟨cfS, iS, kS, fS, st, cS, t1, t2, t3, t4, t5, (fun q => by rw [q] at t6; cases t6), t7⟩ al rfl
  obtain ⟨v, B, X', ⟨⟨hv, E', V', q1, q2, q3, q4, q5, q6, q7, q8, q9, q10, q11⟩, hl, hc, hs⟩, st⟩ := New1.pays x D fV fC b A z (tab_of (moved hZ hw)) hfr hlo m meth c P g ig mk _ X hg hsize hdg hW hn ⟨r1, r2, rfl, hB, F1, F2, hA, hS, hz, l0, l2, hp⟩
  have al' : Z.vm.Alike B.U.vm := hZ.alike.trans X'.warmed.alike
  have hsz : E'.slots.size = D.slots.size := by
    obtain ⟨-, -, -, kB, w1, w2, w3⟩ := q1
    obtain ⟨kB', y1, y2⟩ := al'.2.2 _ _ e3
    rw [q2.2.1] at w1
    cases w1.symm.trans y1
    rw [w3, e5 i3, y2]
  refine ⟨v, B, X', ⟨_, ⟨hv, ?_, ⟨by omega, fun y cy hy hn' => q10 y cy (by simpa using hn') hy, fun y cy hy => ?_⟩, q11, ⟨E', _, q1.1, by rw [q2.2.1]; exact e2, by rw [q2.2.1]; exact e3, by rw [q2.1]; exact obV, fun _ => by rw [hsz]; exact e5 i3⟩,
    ⟨E', cfV, kV, iV, fV, q1.1, gV, stV, by rw [q2.1]; exact knV, by rw [q2.1]; exact obV, by rw [q2.2.1]; exact asV, q3⟩, ⟨E', cfC, kC, iC, fC, q1.1, gC, stC, by rw [q2.1]; exact knV, by rw [q2.1]; exact obV, by rw [q2.2.1]; exact asC, q4⟩,
    ⟨V', ⟨q5.1, State.isArrayOf_alike al'.symm q5.2.1, q5.2.2.1⟩, q6, by rw [← al'.findClass]; exact q7, q8, fun j hj => by have := q9 j hj; rwa [Nat.zero_add] at this⟩, fun O n d w F n1 n2 => ?_⟩, hl, hc, hs⟩, st⟩
  · intro y hy
    simp only [List.mem_cons, List.not_mem_nil, or_false] at hy
    rcases hy with rfl | rfl <;> rfl
  · by_cases q : y = x
    · subst q
      cases hD.symm.trans hy
      exact ⟨E', q1.1, q2.2.1, q2.1, hsz⟩
    · exact ⟨cy, q10 y cy q hy, rfl, rfl, rfl⟩
  · obtain ⟨D3, cf, k, i, f, g1, g2, g3, g4, g5, g6, g7⟩ := F
    cases hD.symm.trans g1
    simp only [RoadKit.slotOf, g2, gV, gC, Option.map_some, Option.getD_some] at n1 n2
    exact ⟨E', cf, k, i, f, q1.1, g2, g3, by rw [q2.1]; exact g4, by rw [q2.1]; exact g5, by rw [q2.2.1]; exact g6, by rw [q2.2.2 f.slot (by simp [n1, n2])]; exact g7⟩
end StrChars.Road
namespace StrChars.Road
open Jvm Sem ClassFile Op Lib Jvm.Stand Jvm.Free Jvm.Free.XT
/-- WHAT COMES BACK, the byte[] as a list of values -/
def QA (Z : State) (x : Addr) (zn : Int32) (cs : List Int32) (h : Heap) (v : Option Value) (h' : Heap) (L : List Loc) : Prop := v = none ∧ (∀ y ∈ L, y.base = x) ∧ RoadKit.Keep h h' [x] ∧ h'.size = h.size + 1 ∧ RoadKit.Exa Z h' x ST ∧ RoadKit.Fld Z h' x ST "value" "[B" (.ref h.size) ∧ RoadKit.Fld Z h' x ST "coder" "B" (.int 0) ∧
  (∃ kb, Z.vm.findClass "[B" = some kb ∧ RoadKit.Arv Z h' h.size kb .byte zn (cs.map fun c => .int (lo8 c)) (.int 0)) ∧
  ∀ (O n d : String) (w : Value), RoadKit.Fld Z h x O n d w → RoadKit.slotOf Z O n d ≠ RoadKit.slotOf Z ST "value" "[B" → RoadKit.slotOf Z O n d ≠ RoadKit.slotOf Z ST "coder" "B" → RoadKit.Fld Z h' x O n d w
/-- **new String(chars) AT A CALL, THE ARRAYS AS LISTS**: the char[] at b holds cs, not empty, no char above 255 -/
theorem backArv {p : Program} {l : Launch} {e : Env} {R : Room} {s : State} {args : Array Value} {below : List Frame} {len W : Nat} {Z : State} {a0 : Array Value} {h : Heap} (hZ : Z.Warmed39 s.vm) (hw : ∀ d ∈ words, d.before a0 Z = true) {kI : Nat} (wi : (Jvm.Cond.instantiable ST kI).before a0 Z = true)
    {x b : Addr} {k : ClassId} {zn z : Int32} {cs : List Int32} {dv v0 c0 : Value} (E : RoadKit.Exa Z h x ST) (V : RoadKit.Fld Z h x ST "value" "[B" v0) (C : RoadKit.Fld Z h x ST "coder" "B" c0) (K : RoadKit.Arv Z h b k .char zn (cs.map Value.int) dv) (S : RoadKit.Sta Z h ST "COMPACT_STRINGS" "Z" (.int z)) (hz : ¬ z = 0)
    (hlen : zn.toNatClampNeg = cs.length) (h0 : 0 < cs.length) (hbig : cs.length ≤ 536870912) (hall : ∀ c ∈ cs, ¬ 255 < c) (hfr : 4 ≤ R.frames) (hlo : W + 65 ≤ R.locals) :
    Back l R p e below s args New1.yN len W (fun P a => a = #[.ref x, .ref b] ∧ P.U.heap = h ∧ P.cells + 1 ≤ R.cells ∧ P.slots + cs.length ≤ R.slots)
      (fun P _ v B => ∃ L, QA Z x zn cs h v B.U.heap L ∧ B.locs = P.locs ++ L ∧ B.cells = P.cells + 1 ∧ B.slots = P.slots + cs.length) := by
  obtain ⟨A, K1, K2, K3, K4, K5, K6⟩ := K
  have e : A.slots.size = cs.length := K3.trans hlen
  have hat : ∀ (i : Nat) (hi : i < cs.length), A.slots[i]? = some (.int cs[i]) := fun i hi => by rw [K5 i (by omega)]; simp [List.getD_eq_getElem?_getD, hi]
  have hcv : ∀ (i : Nat) (hi : i < cs.length), cv A i = cs[i] := fun i hi => by unfold cv; rw [hat i hi]
  have hty : Typed .char A := fun i v hv => by
    have hi : i < A.slots.size := (Array.getElem?_eq_some_iff.mp hv).1
    have q := K5 i hi
    rw [hv] at q
    rw [Option.some.inj q]
    exact K6 i hi
  refine Back.mono (back hZ hw wi E V C K1 hty S hz (by omega) (by omega) (fun i hi => by rw [hcv i (by omega)]; exact hall _ (List.getElem_mem _)) hfr hlo) (fun P a hp => ⟨hp.1, hp.2.1, hp.2.2.1, by rw [e]; exact hp.2.2.2⟩) (fun P a v B hp hq => ?_)
  obtain ⟨L, ⟨q1, q2, q3, q4, q5, q6, q7, ⟨V', v1, v2, v3, v4, v5⟩, q9⟩, hl, hc, hs⟩ := hq
  refine ⟨L, ⟨q1, q2, q3, q4, q5, q6, q7, ⟨V'.cls, v3, V', v1, rfl, by rw [v4, e, hlen], K4, fun i hi => ?_, fun i hi => ?_⟩, q9⟩, hl, hc, by rw [hs, e]⟩
  · have hi' : i < cs.length := by omega
    rw [v5 i (by omega), hcv i hi']; simp [List.getD_eq_getElem?_getD, hi']
  · have hi' : i < cs.length := by omega
    simp only [List.getD_eq_getElem?_getD, List.getElem?_map, List.getElem?_eq_getElem hi', Option.map_some, Option.getD_some]
    exact fits_lo8 _
end StrChars.Road
namespace StrChars.Road
open Jvm Sem ClassFile Op Lib Jvm.Stand Jvm.Free Jvm.Free.XT
/-- WHAT COMES BACK, in the writer's own shape -/
def QV (Z : State) (x : Addr) (N : Int32) (bs : List Int32) (h : Heap) (n0 : Nat) (v : Option Value) (h' : Heap) (L : List Loc) : Prop := v = none ∧ RoadKit.Fr n0 L ∧ RoadKit.Keep h h' [x] ∧ RoadKit.Exa Z h' x ST ∧ RoadKit.Fld Z h' x ST "coder" "B" (.int 0) ∧
  ∃ (t : Addr) (kb : ClassId), n0 ≤ t ∧ h.size ≤ t ∧ ¬ t = x ∧ RoadKit.Fld Z h' x ST "value" "[B" (.ref t) ∧ RoadKit.Arv Z h' t kb .byte N (bs.map Value.int) (.int 0)
/-- **new String(chars) AT A CALL, FOR THE WRITER**: a char[] of n known ints, each 0 to 255 -/
theorem backV {p : Program} {l : Launch} {e : Env} {R : Room} {s : State} {args : Array Value} {below : List Frame} {len W : Nat} {Z : State} {a0 : Array Value} {h : Heap} (hZ : Z.Warmed39 s.vm) (hw : ∀ d ∈ words, d.before a0 Z = true) {kI : Nat} (wi : (Jvm.Cond.instantiable ST kI).before a0 Z = true)
    {x b : Addr} {kC : ClassId} {cs bs : List Int32} {d v0 c0 : Value} {z N : Int32} {n n0 : Nat} (hx0 : n0 ≤ x) (hh0 : n0 ≤ h.size) (E : RoadKit.Exa Z h x ST) (V : RoadKit.Fld Z h x ST "value" "[B" v0) (C : RoadKit.Fld Z h x ST "coder" "B" c0) (K : RoadKit.Arv Z h b kC .char N (cs.map Value.int) d) (S : RoadKit.Sta Z h ST "COMPACT_STRINGS" "Z" (.int z)) (hz : ¬ z = 0)
    (hn : cs.length = n) (hN : N = Int32.ofNat n) (l0 : 0 < n) (l2 : n ≤ 4000) (hp : ∀ c ∈ cs, ¬ c < 0 ∧ ¬ (255 : Int32) < c) (hb : bs = cs.map (fun c => c.toInt8.toInt32)) (hfr : 4 ≤ R.frames) (hlo : W + 65 ≤ R.locals) :
    Back l R p e below s args (⟨"java/lang/String", "<init>", "([C)V"⟩ : MethodName) len W (fun P a => a = #[.ref x, .ref b] ∧ P.U.heap = h ∧ P.cells + 1 ≤ R.cells ∧ P.slots + n ≤ R.slots)
      (fun P _ v B => ∃ L, QV Z x N bs h n0 v B.U.heap L ∧ B.locs = P.locs ++ L ∧ B.cells = P.cells + 1 ∧ B.slots = P.slots + n) := by
  subst hn hN hb
  refine Back.mono (backArv hZ hw wi E V C K S hz (n32 (by omega)) l0 (by omega) (fun c hc => (hp c hc).2) hfr hlo) (fun P a hp => hp) (fun P a v B hp hq => ?_)
  obtain ⟨L, ⟨q1, q2, q3, q4, q5, q6, q7, ⟨kb, v1, v2⟩, q9⟩, hl, hc, hs⟩ := hq
  exact ⟨L, ⟨q1, fun y hy => by rw [q2 y hy]; exact hx0, q3, q5, q7, h.size, kb, hh0, Nat.le_refl _, Nat.ne_of_gt E.lt, q6, by rw [List.map_map]; exact v2⟩, hl, hc, hs⟩
end StrChars.Road
namespace StrChars
open Jvm Sem ClassFile Op Lib Jvm.Stand Jvm.Free.XT Jvm.Free.ALB Jvm.Free.JM Jvm.Free
open Jvm.Lib.Cold (StaticIs)
def hi8 (x : Int32) : Int32 := lo8 (x >>> ((8 : Int32) &&& 31))
/-- what StringUTF16.getChar makes of two bytes -/
def pairCh (u v : Int32) : Int32 := (((u &&& 255) <<< ((0 : Int32) &&& 31)) ||| ((v &&& 255) <<< ((8 : Int32) &&& 31))).toUInt32.toUInt16.toUInt32.toInt32
theorem shr0 (c : Int32) : c >>> ((0 : Int32) &&& 31) = c := by
  have e : ((0 : Int32) &&& 31) = 0 := by decide
  rw [e]
  apply Int32.toBitVec_inj.mp
  rw [Int32.toBitVec_shiftRight]
  have e1 : ((0 : Int32).toBitVec.smod 32) = 0#32 := by decide
  rw [e1, BitVec.sshiftRight_eq']
  exact BitVec.sshiftRight_zero
theorem lo8_and (x : Int32) : (lo8 x &&& 255).toBitVec.toNat = x.toBitVec.toNat % 256 := by
  have h : (lo8 x).toBitVec = (x.toBitVec.signExtend 8).signExtend 32 := by rw [lo8, Int8.toBitVec_toInt32, Int32.toBitVec_toInt8]
  rw [Int32.toBitVec_and, BitVec.toNat_and, h]
  have e : ((x.toBitVec.signExtend 8).signExtend 32).toNat % 256 = x.toBitVec.toNat % 256 := by
    rw [BitVec.toNat_signExtend]
    have hlt := x.toBitVec.isLt
    simp only [BitVec.toNat_setWidth, BitVec.toNat_signExtend]
    split <;> split <;> omega
  rw [← e]
  exact Nat.and_two_pow_sub_one_eq_mod _ 8
theorem pair_says {c : Int32} (h0 : ¬ c < 0) (h1 : ¬ 65535 < c) : pairCh (lo8 c) (hi8 c) = c := by
  rw [Int32.lt_iff_toInt_lt] at h0 h1
  have e0 : (0 : Int32).toInt = 0 := rfl
  have e1 : (65535 : Int32).toInt = 65535 := rfl
  have hc : c.toInt = c.toBitVec.toNat := by
    have := c.toBitVec.isLt
    have e : c.toInt = c.toBitVec.toInt := rfl
    rw [e] at h0 h1
    rw [e]
    rw [BitVec.toInt_eq_toNat_cond] at h0 h1 ⊢
    split at h0 <;> split <;> omega
  have hn : c.toBitVec.toNat < 65536 := by omega
  have a1 := lo8_and c
  have a2 : (hi8 c &&& 255).toBitVec.toNat = c.toBitVec.toNat / 256 := by
    rw [hi8, lo8_and]
    have e : ((8 : Int32) &&& 31) = 8 := by decide
    rw [e, Int32.toBitVec_shiftRight]
    have e2 : ((8 : Int32).toBitVec.smod 32) = 8#32 := by decide
    rw [e2, BitVec.sshiftRight_eq', BitVec.toNat_sshiftRight_of_msb_false (by rw [BitVec.msb_eq_false_iff_two_mul_lt]; omega)]
    show c.toBitVec.toNat >>> 8 % 256 = _
    rw [Nat.shiftRight_eq_div_pow]
    omega
  unfold pairCh
  apply Int32.toBitVec_inj.mp
  apply BitVec.eq_of_toNat_eq
  have f0 : ((0 : Int32) &&& 31) = 0 := by decide
  have f8 : ((8 : Int32) &&& 31) = 8 := by decide
  rw [f0, f8]
  have g : (((lo8 c &&& 255) <<< (0 : Int32)) ||| ((hi8 c &&& 255) <<< (8 : Int32))).toBitVec.toNat = c.toBitVec.toNat := by
    rw [Int32.toBitVec_or, Int32.toBitVec_shiftLeft, Int32.toBitVec_shiftLeft]
    have s0 : ((0 : Int32).toBitVec.smod 32) = 0#32 := by decide
    have s8 : ((8 : Int32).toBitVec.smod 32) = 8#32 := by decide
    rw [s0, s8, BitVec.toNat_or]
    simp only [BitVec.shiftLeft_eq', BitVec.toNat_shiftLeft, a1, a2]
    show (c.toBitVec.toNat % 256) <<< 0 % 2 ^ 32 ||| (c.toBitVec.toNat / 256) <<< 8 % 2 ^ 32 = _
    rw [Nat.shiftLeft_zero, Nat.mod_eq_of_lt (show c.toBitVec.toNat % 256 < 2 ^ 32 by omega), Nat.mod_eq_of_lt (show (c.toBitVec.toNat / 256) <<< 8 < 2 ^ 32 by rw [Nat.shiftLeft_eq]; omega), Nat.or_comm, ← Nat.shiftLeft_add_eq_or_of_lt (by omega), Nat.shiftLeft_eq]
    omega
  show BitVec.toNat (((((lo8 c &&& 255) <<< (0 : Int32)) ||| ((hi8 c &&& 255) <<< (8 : Int32))).toBitVec.setWidth 16).setWidth 32) = _
  rw [BitVec.toNat_setWidth, BitVec.toNat_setWidth, g]
  omega
end StrChars
namespace StrChars
open Jvm Sem ClassFile Op Lib Jvm.Stand Jvm.Free.XT Jvm.Free.ALB Jvm.Free.JM Jvm.Free
open Jvm.Lib.Cold (StaticIs)
theorem shr1 {n : Nat} (h : 2 * n < 2 ^ 31) : Int32.ofNat (2 * n) >>> ((1 : Int32) &&& 31) = Int32.ofNat n := by
  have e : ((1 : Int32) &&& 31) = 1 := by decide
  rw [e]
  apply Int32.toBitVec_inj.mp
  rw [Int32.toBitVec_shiftRight]
  have e1 : ((1 : Int32).toBitVec.smod 32) = 1#32 := by decide
  have hm : (BitVec.ofNat 32 (2 * n)).toNat = 2 * n := by rw [BitVec.toNat_ofNat, Nat.mod_eq_of_lt (by omega)]
  rw [e1, BitVec.sshiftRight_eq']
  apply BitVec.eq_of_toNat_eq
  show ((BitVec.ofNat 32 (2 * n)).sshiftRight 1).toNat = (BitVec.ofNat 32 n).toNat
  rw [BitVec.toNat_sshiftRight_of_msb_false (by rw [BitVec.msb_eq_false_iff_two_mul_lt, hm]; omega), hm, BitVec.toNat_ofNat, Nat.shiftRight_eq_div_pow]
  omega
/-- charAt's cast of a byte read back -/
def chr8 (u : Int32) : Int32 := (u &&& 255).toUInt32.toUInt16.toUInt32.toInt32
theorem chr8_lo8 {c : Int32} (h0 : ¬ c < 0) (h1 : ¬ 255 < c) : chr8 (lo8 c) = c := by
  have t : ∀ k : Fin 256, (Int32.ofNat k.val).toUInt32.toUInt16.toUInt32.toInt32 = Int32.ofNat k.val := by decide +kernel
  unfold chr8
  rw [lo8_mask h0 h1]
  rw [Int32.lt_iff_toInt_lt] at h0 h1
  have e0 : (0 : Int32).toInt = 0 := rfl
  have e1 : (255 : Int32).toInt = 255 := rfl
  obtain ⟨k, hk⟩ : ∃ k : Nat, c.toInt = k := ⟨c.toInt.toNat, by omega⟩
  have hx : c = Int32.ofNat k := Int32.toInt_inj.mp (by rw [hk, Int32.toInt_ofNat_small (by omega)])
  rw [hx]
  exact t ⟨k, by omega⟩
theorem narrow_ch {c : Int32} (h0 : ¬ c < 0) (h1 : ¬ 65535 < c) : narrow .char (.int c) = .int c := by
  have q : narrow .char (.int (pairCh (lo8 c) (hi8 c))) = .int (pairCh (lo8 c) (hi8 c)) := narrow_c _
  rwa [pair_says h0 h1] at q
/-- the array's cell V codes the n chars f 0 .. f (n - 1) by the coder cd, as the JDK does: coder 1 just where some char is above 255 -/
def Cod (cd : Int32) (n : Nat) (f : Nat → Int32) (V : Cell) : Prop := (cd = 0 ∧ V.slots.size = n ∧ ∀ j, j < n → V.slots[j]? = some (.int (lo8 (f j))) ∧ ¬ 255 < f j) ∨ (cd = 1 ∧ V.slots.size = 2 * n ∧ (∀ j, j < n → V.slots[2 * j]? = some (.int (lo8 (f j))) ∧ V.slots[2 * j + 1]? = some (.int (hi8 (f j)))) ∧ ∃ j, j < n ∧ 255 < f j)
theorem Cod.cd {cd : Int32} {n : Nat} {f : Nat → Int32} {V : Cell} (h : Cod cd n f V) : cd = 0 ∨ cd = 1 := h.imp (fun q => q.1) fun q => q.1
theorem Cod.len {cd : Int32} {n : Nat} {f : Nat → Int32} {V : Cell} (h : Cod cd n f V) (hs : V.slots.size < 2 ^ 31) : Int32.ofNat V.slots.size >>> (cd &&& 31) = Int32.ofNat n := by
  rcases h with ⟨rfl, h, -⟩ | ⟨rfl, h, -⟩
  · rw [shr0, h]
  · rw [h, shr1 (by omega)]
/-- **x is a String of the n chars f 0 .. f (n - 1)**, Latin-1 or UTF-16; its array at t has the cell V -/
def Txt (x t : Addr) (V : Cell) (cd : Int32) (n : Nat) (f : Nat → Int32) (U : State) : Prop := Exact "java/lang/String" x U ∧ Has x "java/lang/String" "value" "[B" (.ref t) U ∧ Has x "java/lang/String" "coder" "B" (.int cd) U ∧ XT.Arr .byte t V U ∧ Cod cd n f V ∧ ∀ j, j < n → ¬ f j < 0 ∧ ¬ 65535 < f j
theorem Txt.mv {x t : Addr} {V : Cell} {cd : Int32} {n : Nat} {f : Nat → Int32} {U U' : State} (h : Txt x t V cd n f U) (hal : U.vm.Alike U'.vm) (hh : U'.heap = U.heap) : Txt x t V cd n f U' := ⟨h.1.mv hal hh, h.2.1.mv hal hh, h.2.2.1.mv hal hh, h.2.2.2.1.mv hal hh, h.2.2.2.2⟩
namespace Cdr
def yN : MethodName := ⟨"java/lang/String", "coder", "()B"⟩
abbrev yB : ByteArray := jdk_42_method_152_code
theorem d0 : decode yB 0 = .ok (.getstatic 38, 3) := by decide +kernel
theorem d3 : decode yB 3 = .ok (.ifCond (.eq) 10, 3) := by decide +kernel
theorem d6 : decode yB 6 = .ok (.aload_n 0, 1) := by decide +kernel
theorem d7 : decode yB 7 = .ok (.getfield 15, 3) := by decide +kernel
theorem d10 : decode yB 10 = .ok (.goto 4, 3) := by decide +kernel
theorem d14 : decode yB 14 = .ok (.ireturn, 1) := by decide +kernel
def site : List Cond := [.fieldLink "java/lang/String" 38 "java/lang/String" "COMPACT_STRINGS" "Z", .fieldLink "java/lang/String" 15 "java/lang/String" "coder" "B"]
def tab : Cond := tabOf yN yB 1 (some .byte) site
def P (x : Addr) (cd z : Int32) (args : Array Value) (s : State) : Prop := args = #[.ref x] ∧ Has x "java/lang/String" "coder" "B" (.int cd) s ∧ (cd = 0 ∨ cd = 1) ∧ StaticIs s "java/lang/String" "COMPACT_STRINGS" "Z" (.int z) ∧ ¬ z = 0
def E (cd : Int32) (r : Option Value) (s u : State) : Prop := XT.PureE (some (.int cd)) r s u
theorem law (l : Launch) (x : Addr) (cd z : Int32) : Law l yN 1 0 0 0 yB 1 (some .byte) site (P x cd z) (E cd) [] 0 0 := by
  refine Law.of_walk (plainFor_of_name (by decide +kernel)) (by decide +kernel) (by decide +kernel) (by decide) (fun _ _ h => by rw [h.1]; rfl) (fun _ U U' hal hh h => ⟨h.1, h.2.1.mv hal hh, h.2.2.1, h.2.2.2.1.there hal hh, h.2.2.2.2⟩) (fun r U U' V V' h1 hal h2 h => XT.PureE.mv r U U' V V' h1 hal h2 h) ?_
  intro p e s m args below meth c s₁ X0 hexec hbytes hml hret hlk hnm hown hh0 W hP
  obtain ⟨rfl, hx, hc, s1, hz⟩ := hP
  have c1 : Steps p.tables e below (s₁.setTop (entryFrame m #[.ref x] 1)) (s₁.setTop (mkF m 0 #[.val (.ref x)] [])) := entry rfl
  obtain ⟨T2, X2, q2, st2⟩ := X0.sget hexec hown (wk W (.fieldLink "java/lang/String" 38 "java/lang/String" "COMPACT_STRINGS" "Z")) s1 (fun _ _ h => by rw [hh0]; exact h) (g := (mkF m 0 #[.val (.ref x)] [])) rfl (hb hbytes d0)
  have hh2 := q2.trans hh0
  have c3 : Steps p.tables e below (s₁.setTop (entryFrame m #[.ref x] 1)) (T2.setTop (mkF m 7 #[.val (.ref x)] [.ref x])) := (c1.trans (st2 _ (Steps.refl _))).trans (by
    refine XS.ifNo X2.here hexec rfl (hb hbytes d3) rfl (i0_eq_f hz) ?_
    refine XS.aloadN X2.here hexec rfl (hb hbytes d6) rfl rfl ?_
    exact Steps.refl _)
  obtain ⟨T4, X4, q4, st4⟩ := X2.hget hexec hown (wk W (.fieldLink "java/lang/String" 15 "java/lang/String" "coder" "B")) (hx.mv X2.warmed.alike hh2) (g := (mkF m 7 #[.val (.ref x)] [.ref x])) rfl (rest := []) rfl (hb hbytes d7)
  have c5 : Steps p.tables e below (s₁.setTop (entryFrame m #[.ref x] 1)) (T4.setTop (mkF m 14 #[.val (.ref x)] [.int cd])) := (c3.trans (st4 _ (Steps.refl _))).trans (by
    refine XS.goto X4.here hexec rfl (pc0 := 10) rfl (hb hbytes d10) (by decide) rfl ?_
    exact Steps.refl _)
  exact ⟨T4, some (.int cd), _, _, _, X4, rfl, rfl, rfl, (fun h => by cases h), ⟨rfl, q4.trans hh2⟩, fun fs hl => c5.trans (X4.ireturnOut hexec hret (by rcases hc with rfl | rfl <;> rfl) (Or.inr (Or.inr (Or.inl rfl))) (hb hbytes d14) hl)⟩
end Cdr
namespace Len
def yN : MethodName := ⟨"java/lang/String", "length", "()I"⟩
abbrev yB : ByteArray := jdk_42_method_54_code
theorem d0 : decode yB 0 = .ok (.aload_n 0, 1) := by decide +kernel
theorem d1 : decode yB 1 = .ok (.getfield 9, 3) := by decide +kernel
theorem d4 : decode yB 4 = .ok (.arraylength, 1) := by decide +kernel
theorem d5 : decode yB 5 = .ok (.aload_n 0, 1) := by decide +kernel
theorem d6 : decode yB 6 = .ok (.invokevirtual 335, 3) := by decide +kernel
theorem d9 : decode yB 9 = .ok (.ishr, 1) := by decide +kernel
theorem d10 : decode yB 10 = .ok (.ireturn, 1) := by decide +kernel
def site : List Cond := [.fieldLink "java/lang/String" 9 "java/lang/String" "value" "[B", Cdr.tab] ++ virtW "java/lang/String" 335 "java/lang/String" Cdr.yN Cdr.yN
def tab : Cond := tabOf yN yB 1 (some .int) site
def P (x t : Addr) (V : Cell) (cd : Int32) (n : Nat) (f : Nat → Int32) (z : Int32) (args : Array Value) (s : State) : Prop := args = #[.ref x] ∧ Txt x t V cd n f s ∧ StaticIs s "java/lang/String" "COMPACT_STRINGS" "Z" (.int z) ∧ ¬ z = 0
def E (n : Nat) (r : Option Value) (s u : State) : Prop := XT.PureE (some (.int (Int32.ofNat n))) r s u
/-- length() of a String of n chars, in either coding -/
theorem law (l : Launch) (x t : Addr) (V : Cell) (cd : Int32) (n : Nat) (f : Nat → Int32) (z : Int32) : Law l yN 1 0 1 13 yB 1 (some .int) site (P x t V cd n f z) (E n) [] 0 0 := by
  refine Law.of_walk (plainFor_of_name (by decide +kernel)) (by decide +kernel) (by decide +kernel) (by decide) (fun _ _ h => by rw [h.1]; rfl) (fun _ U U' hal hh h => ⟨h.1, h.2.1.mv hal hh, h.2.2.1.there hal hh, h.2.2.2⟩) (fun r U U' V V' h1 hal h2 h => XT.PureE.mv r U U' V V' h1 hal h2 h) ?_
  intro p e s m args below meth c s₁ X0 hexec hbytes hml hret hlk hnm hown hh0 W hP
  obtain ⟨rfl, hx, s1, hz⟩ := hP
  have v31 := hx.2.2.2.1.2.2.2
  have c1 : Steps p.tables e below (s₁.setTop (entryFrame m #[.ref x] 1)) (s₁.setTop (mkF m 1 #[.val (.ref x)] [.ref x])) := Steps.trans (entry rfl) (by
    show Steps p.tables e below (s₁.setTop (mkF m 0 #[.val (.ref x)] [])) _
    refine XS.aloadN X0.here hexec rfl (hb hbytes d0) rfl rfl ?_
    exact Steps.refl _)
  obtain ⟨T2, X2, q2, st2⟩ := X0.hget hexec hown (wk W (.fieldLink "java/lang/String" 9 "java/lang/String" "value" "[B")) (hx.mv X0.warmed.alike hh0).2.1 (g := (mkF m 1 #[.val (.ref x)] [.ref x])) rfl (rest := []) rfl (hb hbytes d1)
  have hh2 := q2.trans hh0
  have hx2 := hx.mv X2.warmed.alike hh2
  have c3 : Steps p.tables e below (s₁.setTop (entryFrame m #[.ref x] 1)) (T2.setTop (mkF m 6 #[.val (.ref x)] [.ref x, .int (Int32.ofNat V.slots.size)])) := (c1.trans (st2 _ (Steps.refl _))).trans (by
    refine X2.alen hexec hx2.2.2.2.1 rfl rfl (hb hbytes d4) ?_
    refine XS.aloadN X2.here hexec rfl (hb hbytes d5) rfl rfl ?_
    exact Steps.refl _)
  obtain ⟨v4, T4, X4, E4, g4⟩ := X2.callV hexec (Cdr.law l x cd z) hown (wks W (virtW "java/lang/String" 335 "java/lang/String" Cdr.yN Cdr.yN)) rfl (by decide) (wk W Cdr.tab) (W := 1) (Nat.le_of_ble_eq_true rfl) (Nat.le_of_ble_eq_true rfl) (Nat.le_refl _) (Nat.le_refl _) (hx2.1.fc X2.warmed.alike) hx2.1.is (g := (mkF m 6 #[.val (.ref x)] [.ref x, .int (Int32.ofNat V.slots.size)])) rfl (by rw [hml]; rfl) c3 (argsL := []) (rest := [.int (Int32.ofNat V.slots.size)]) rfl rfl (by show 2 * 0 + (1 + 0) ≤ _; decide) (hb hbytes d6) (⟨rfl, hx2.2.2.1, hx.2.2.2.2.1.cd, s1.there X2.warmed.alike hh2, hz⟩)
  obtain ⟨rfl, q4⟩ := E4
  have c5 : Steps p.tables e below (s₁.setTop (entryFrame m #[.ref x] 1)) (T4.setTop (mkF m 10 #[.val (.ref x)] [.int (Int32.ofNat V.slots.size >>> (cd &&& 31))])) := Steps.trans g4 (by
    refine ishr X4.here hexec rfl (hb hbytes d9) rfl ?_
    exact Steps.refl _)
  rw [hx.2.2.2.2.1.len v31] at c5
  exact ⟨T4, some (.int (Int32.ofNat n)), _, _, _, X4, rfl, rfl, rfl, (fun h => by cases h), ⟨rfl, q4.trans hh2⟩, fun fs hl => c5.trans (X4.ireturnOut hexec hret rfl (Or.inl rfl) (hb hbytes d10) hl)⟩
theorem pays {l : Launch} {R : Room} {p : Program} {e : Env} {below : List Frame} {s : State} {sargs : Array Value} {len W : Nat} (x t : Addr) (V : Cell) (cd : Int32) (n : Nat) (f : Nat → Int32) (z : Int32) (htab : tab.before sargs s = true) (hfr : 2 ≤ R.frames) (hlo : W + 25 ≤ R.locals) :
    Back l R p e below s sargs yN len W (fun A₁ a₁ => A₁.cells + 0 ≤ R.cells ∧ A₁.slots + 0 ≤ R.slots ∧ P x t V cd n f z a₁ A₁.U) (fun A₁ _ v₁ B₁ => E n v₁ A₁.U B₁.U ∧ B₁.locs = A₁.locs ++ [] ∧ B₁.cells = A₁.cells + 0 ∧ B₁.slots = A₁.slots + 0) :=
  (law l x t V cd n f z).pays htab hfr (by omega)
end Len
namespace IsL
def yN : MethodName := ⟨"java/lang/String", "isLatin1", "()Z"⟩
abbrev yB : ByteArray := jdk_42_method_154_code
theorem d0 : decode yB 0 = .ok (.getstatic 38, 3) := by decide +kernel
theorem d3 : decode yB 3 = .ok (.ifCond (.eq) 14, 3) := by decide +kernel
theorem d6 : decode yB 6 = .ok (.aload_n 0, 1) := by decide +kernel
theorem d7 : decode yB 7 = .ok (.getfield 15, 3) := by decide +kernel
theorem d10 : decode yB 10 = .ok (.ifCond (.ne) 7, 3) := by decide +kernel
theorem d13 : decode yB 13 = .ok (.iconst 1, 1) := by decide +kernel
theorem d14 : decode yB 14 = .ok (.goto 4, 3) := by decide +kernel
theorem d17 : decode yB 17 = .ok (.iconst 0, 1) := by decide +kernel
theorem d18 : decode yB 18 = .ok (.ireturn, 1) := by decide +kernel
def site : List Cond := [.fieldLink "java/lang/String" 38 "java/lang/String" "COMPACT_STRINGS" "Z", .fieldLink "java/lang/String" 15 "java/lang/String" "coder" "B"]
def tab : Cond := tabOf yN yB 1 (some .boolean) site
def P (x : Addr) (cd z : Int32) (args : Array Value) (s : State) : Prop := args = #[.ref x] ∧ Has x "java/lang/String" "coder" "B" (.int cd) s ∧ (cd = 0 ∨ cd = 1) ∧ StaticIs s "java/lang/String" "COMPACT_STRINGS" "Z" (.int z) ∧ ¬ z = 0
def E (cd : Int32) (r : Option Value) (s u : State) : Prop := XT.PureE (some (.int (1 - cd))) r s u
theorem law (l : Launch) (x : Addr) (cd z : Int32) : Law l yN 1 0 0 0 yB 1 (some .boolean) site (P x cd z) (E cd) [] 0 0 := by
  refine Law.of_walk (plainFor_of_name (by decide +kernel)) (by decide +kernel) (by decide +kernel) (by decide) (fun _ _ h => by rw [h.1]; rfl) (fun _ U U' hal hh h => ⟨h.1, h.2.1.mv hal hh, h.2.2.1, h.2.2.2.1.there hal hh, h.2.2.2.2⟩) (fun r U U' V V' h1 hal h2 h => XT.PureE.mv r U U' V V' h1 hal h2 h) ?_
  intro p e s m args below meth c s₁ X0 hexec hbytes hml hret hlk hnm hown hh0 W hP
  obtain ⟨rfl, hx, hc, s1, hz⟩ := hP
  have c1 : Steps p.tables e below (s₁.setTop (entryFrame m #[.ref x] 1)) (s₁.setTop (mkF m 0 #[.val (.ref x)] [])) := entry rfl
  obtain ⟨T2, X2, q2, st2⟩ := X0.sget hexec hown (wk W (.fieldLink "java/lang/String" 38 "java/lang/String" "COMPACT_STRINGS" "Z")) s1 (fun _ _ h => by rw [hh0]; exact h) (g := (mkF m 0 #[.val (.ref x)] [])) rfl (hb hbytes d0)
  have hh2 := q2.trans hh0
  have c3 : Steps p.tables e below (s₁.setTop (entryFrame m #[.ref x] 1)) (T2.setTop (mkF m 7 #[.val (.ref x)] [.ref x])) := (c1.trans (st2 _ (Steps.refl _))).trans (by
    refine XS.ifNo X2.here hexec rfl (hb hbytes d3) rfl (i0_eq_f hz) ?_
    refine XS.aloadN X2.here hexec rfl (hb hbytes d6) rfl rfl ?_
    exact Steps.refl _)
  obtain ⟨T4, X4, q4, st4⟩ := X2.hget hexec hown (wk W (.fieldLink "java/lang/String" 15 "java/lang/String" "coder" "B")) (hx.mv X2.warmed.alike hh2) (g := (mkF m 7 #[.val (.ref x)] [.ref x])) rfl (rest := []) rfl (hb hbytes d7)
  have c5 : Steps p.tables e below (s₁.setTop (entryFrame m #[.ref x] 1)) (T4.setTop (mkF m 10 #[.val (.ref x)] [.int cd])) := c3.trans (st4 _ (Steps.refl _))
  have c6 : Steps p.tables e below (s₁.setTop (entryFrame m #[.ref x] 1)) (T4.setTop (mkF m 18 #[.val (.ref x)] [.int (1 - cd)])) := by
    rcases hc with rfl | rfl
    · exact c5.trans (by
        refine XS.ifNo X4.here hexec rfl (hb hbytes d10) rfl (i0_ne_f rfl) ?_
        refine iconstV X4.here hexec rfl 1 (hb hbytes d13) (by decide) ?_
        refine XS.goto X4.here hexec rfl (pc0 := 14) rfl (hb hbytes d14) (by decide) rfl ?_
        exact Steps.refl _)
    · exact c5.trans (by
        refine XS.ifYes X4.here hexec rfl (pc0 := 10) rfl (hb hbytes d10) rfl (i0_ne_t (by decide)) (by decide) rfl ?_
        refine iconstV X4.here hexec rfl 0 (hb hbytes d17) (by decide) ?_
        exact Steps.refl _)
  exact ⟨T4, some (.int (1 - cd)), _, _, _, X4, rfl, rfl, rfl, (fun h => by cases h), ⟨rfl, q4.trans hh2⟩, fun fs hl => c6.trans (X4.ireturnOut hexec hret (by rcases hc with rfl | rfl <;> rfl) (Or.inr (Or.inl rfl)) (hb hbytes d18) hl)⟩
end IsL
namespace LChA
def yN : MethodName := ⟨"java/lang/StringLatin1", "charAt", "([BI)C"⟩
abbrev yB : ByteArray := jdk_43_method_2_code
theorem d0 : decode yB 0 = .ok (.iload_n 1, 1) := by decide +kernel
theorem d1 : decode yB 1 = .ok (.aload_n 0, 1) := by decide +kernel
theorem d2 : decode yB 2 = .ok (.arraylength, 1) := by decide +kernel
theorem d3 : decode yB 3 = .ok (.invokestatic 9, 3) := by decide +kernel
theorem d6 : decode yB 6 = .ok (.aload_n 0, 1) := by decide +kernel
theorem d7 : decode yB 7 = .ok (.iload_n 1, 1) := by decide +kernel
theorem d8 : decode yB 8 = .ok (.baload, 1) := by decide +kernel
theorem d9 : decode yB 9 = .ok (.sipush 255, 3) := by decide +kernel
theorem d12 : decode yB 12 = .ok (.iand, 1) := by decide +kernel
theorem d13 : decode yB 13 = .ok (.i2c, 1) := by decide +kernel
theorem d14 : decode yB 14 = .ok (.ireturn, 1) := by decide +kernel
def site : List Cond := [JO.Str_checkIndex.tab] ++ staticW "java/lang/StringLatin1" 9 JO.Str_checkIndex.yN
def tab : Cond := tabOf yN yB 2 (some .char) site
def P (t : Addr) (V : Cell) (i : Nat) (u : Int32) (fm : Value) (args : Array Value) (s : State) : Prop := args = #[.ref t, .int (Int32.ofNat i)] ∧ XT.Arr .byte t V s ∧ V.slots[i]? = some (.int u) ∧ (StaticIs s "jdk/internal/util/Preconditions" "SIOOBE_FORMATTER" "Ljava/util/function/BiFunction;" fm ∧ fm.isRef = true)
def E (u : Int32) (r : Option Value) (s w : State) : Prop := XT.PureE (some (.int (chr8 u))) r s w
theorem law (l : Launch) (t : Addr) (V : Cell) (i : Nat) (u : Int32) (fm : Value) : Law l yN 2 2 2 27 yB 2 (some .char) site (P t V i u fm) (E u) [] 0 0 := by
  refine Law.of_walk (plainFor_of_name (by decide +kernel)) (by decide +kernel) (by decide +kernel) (by decide) (fun _ _ h => by rw [h.1]; rfl) (fun _ U U' hal hh h => ⟨h.1, h.2.1.mv hal hh, h.2.2.1, h.2.2.2.1.there hal hh, h.2.2.2.2⟩) (fun r U U' V V' h1 hal h2 h => XT.PureE.mv r U U' V V' h1 hal h2 h) ?_
  intro p e s m args below meth c s₁ X0 hexec hbytes hml hret hlk hnm hown hh0 W hP
  obtain ⟨rfl, hV, hu, s1, rf⟩ := hP
  have v31 := hV.2.2.2
  have hi : i < V.slots.size := (Array.getElem?_eq_some_iff.mp hu).1
  have c1 : Steps p.tables e below (s₁.setTop (entryFrame m #[.ref t, .int (Int32.ofNat i)] 2)) (s₁.setTop (mkF m 0 #[.val (.ref t), .val (.int (Int32.ofNat i))] [])) := entry rfl
  have c2 : Steps p.tables e below (s₁.setTop (entryFrame m #[.ref t, .int (Int32.ofNat i)] 2)) (s₁.setTop (mkF m 3 #[.val (.ref t), .val (.int (Int32.ofNat i))] [.int (Int32.ofNat V.slots.size), .int (Int32.ofNat i)])) := c1.trans (by
    refine XS.iloadN X0.here hexec rfl (hb hbytes d0) rfl ?_
    refine XS.aloadN X0.here hexec rfl (hb hbytes d1) rfl rfl ?_
    refine X0.alen hexec (hV.mv X0.warmed.alike hh0) rfl rfl (hb hbytes d2) ?_
    exact Steps.refl _)
  obtain ⟨v3, T3, X3, E3, g3⟩ := X0.callS hexec (JO.Str_checkIndex.law l (Int32.ofNat i) (Int32.ofNat V.slots.size) fm) hown (wks W (staticW "java/lang/StringLatin1" 9 JO.Str_checkIndex.yN)) (wk W JO.Str_checkIndex.tab) (W := 0) (Nat.le_of_ble_eq_true rfl) (Nat.le_of_ble_eq_true rfl) (Nat.le_refl _) (Nat.le_refl _) (g := (mkF m 3 #[.val (.ref t), .val (.int (Int32.ofNat i))] [.int (Int32.ofNat V.slots.size), .int (Int32.ofNat i)])) rfl (by rw [hml]; rfl) c2 (argsL := [.int (Int32.ofNat i), .int (Int32.ofNat V.slots.size)]) (rest := []) rfl rfl (by show 2 * 0 + 0 ≤ _; decide) (hb hbytes d3) (⟨rfl, rf, s1.there X0.warmed.alike hh0, Int32.ofNat_not_neg (by omega), lt32 v31 hi⟩)
  obtain ⟨rfl, q3⟩ := E3
  have hh3 := q3.trans hh0
  have c4 : Steps p.tables e below (s₁.setTop (entryFrame m #[.ref t, .int (Int32.ofNat i)] 2)) (T3.setTop (mkF m 14 #[.val (.ref t), .val (.int (Int32.ofNat i))] [.int (chr8 u)])) := Steps.trans g3 (by
    refine XS.aloadN X3.here hexec rfl (hb hbytes d6) rfl rfl ?_
    refine XS.iloadN X3.here hexec rfl (hb hbytes d7) rfl ?_
    refine X3.aget hexec (hV.mv X3.warmed.alike hh3) rfl hu rfl rfl (hb hbytes d8) ?_
    refine sipushV X3.here hexec rfl 255 (hb hbytes d9) (by decide) ?_
    refine XS.iand X3.here hexec rfl (hb hbytes d12) rfl ?_
    refine i2c X3.here hexec rfl (hb hbytes d13) rfl ?_
    exact Steps.refl _)
  exact ⟨T3, some (.int (chr8 u)), _, _, _, X3, rfl, rfl, rfl, (fun h => by cases h), ⟨rfl, hh3⟩, fun fs hl => c4.trans (X3.ireturnOut hexec hret (narrow_c _) (Or.inr (Or.inr (Or.inr (Or.inl rfl)))) (hb hbytes d14) hl)⟩
end LChA
end StrChars
namespace StrChars.Road
open Jvm Sem ClassFile Op Lib Jvm.Stand Jvm.Free Jvm.Free.XT
open Jvm.Lib.Cold (StaticIs)
theorem consq {a : Array Value} {s : State} {c : Jvm.Cond} {L : List Jvm.Cond} (h0 : c.before a s = true) (h : ∀ w ∈ L, w.before a s = true) : ∀ w ∈ c :: L, w.before a s = true := fun w hw => (List.mem_cons.mp hw).elim (fun e => e ▸ h0) (h w)
/-- the words of String.length(), either coding -/
abbrev wordsLen : List Jvm.Cond := [.code Len.yN Len.yB 1 (some .int), .initialized ST, .fieldLink ST 9 ST "value" "[B", .fieldLink ST 38 ST "COMPACT_STRINGS" "Z", .fieldLink ST 15 ST "coder" "B", .code Cdr.yN Cdr.yB 1 (some .byte), .methodLink ST 335 Cdr.yN, .declares Cdr.yN, .selects ST Cdr.yN Cdr.yN, .instanceMethod Cdr.yN]
theorem tabLen_of {a : Array Value} {s : State} (h : ∀ w ∈ wordsLen, w.before a s = true) : Len.tab.before a s = true := by
  have hc : Cdr.tab.before a s = true := unparts (wk h (.code Cdr.yN Cdr.yB 1 (some .byte))) (wks h (.initialized Cdr.yN.cls :: Cdr.site))
  have q := consq hc h
  exact unparts (wk q (.code Len.yN Len.yB 1 (some .int))) (wks q (.initialized Len.yN.cls :: Len.site))
theorem movedLen {Z s : State} {a0 args : Array Value} (hZ : Z.Warmed39 s.vm) (hw : ∀ d ∈ wordsLen, d.before a0 Z = true) : ∀ d ∈ wordsLen, d.before args s = true := fun d hd => by
  have q := hw d hd
  have t : ∀ d ∈ wordsLen, d = .arrayClass .byte ∨ (d.onTables && d.keepsFace) = true := by decide +kernel
  rcases t d hd with rfl | t
  · exact RoadKit.mvA hZ q
  · exact RoadKit.mv hZ q t
/-- the bytes of the chars cs, low before high -/
def wideBytes : List Int32 → List Value
  | [] => []
  | c :: cs => .int (lo8 c) :: .int (hi8 c) :: wideBytes cs
theorem wide_lo (d : Value) : ∀ (cs : List Int32) (j : Nat), j < cs.length → (wideBytes cs).getD (2 * j) d = .int (lo8 (cs.getD j 0))
  | [], j, h => absurd h (Nat.not_lt_zero j)
  | c :: cs, 0, _ => rfl
  | c :: cs, j + 1, h => by
    have q := wide_lo d cs j (by simpa using h)
    rw [show 2 * (j + 1) = 2 * j + 1 + 1 from by omega]
    simpa [wideBytes] using q
theorem wide_hi (d : Value) : ∀ (cs : List Int32) (j : Nat), j < cs.length → (wideBytes cs).getD (2 * j + 1) d = .int (hi8 (cs.getD j 0))
  | [], j, h => absurd h (Nat.not_lt_zero j)
  | c :: cs, 0, _ => rfl
  | c :: cs, j + 1, h => by
    have q := wide_hi d cs j (by simpa using h)
    rw [show 2 * (j + 1) + 1 = 2 * j + 1 + 1 + 1 from by omega]
    simpa [wideBytes] using q
theorem low_at (d : Value) (cs : List Int32) (j : Nat) (h : j < cs.length) : (cs.map fun c => Value.int (lo8 c)).getD j d = .int (lo8 (cs.getD j 0)) := by
  simp [List.getD_eq_getElem?_getD, h]
/-- an array of N2 bytes vs codes the chars cs by the coder cd -/
def CodA (cs : List Int32) (cd N2 : Int32) (vs : List Value) : Prop := (cd = 0 ∧ N2 = Int32.ofNat cs.length ∧ vs = (cs.map fun c => Value.int (lo8 c)) ∧ ∀ c ∈ cs, ¬ 255 < c) ∨ (cd = 1 ∧ N2 = Int32.ofNat (2 * cs.length) ∧ vs = wideBytes cs ∧ ∃ c ∈ cs, 255 < c)
theorem CodA.cod {cs : List Int32} {cd N2 : Int32} {vs : List Value} {V : Cell} (h : CodA cs cd N2 vs) (hn : 2 * cs.length < 2 ^ 31) (hs : V.slots.size = N2.toNatClampNeg) (hv : RoadKit.Has V vs (.int 0)) : Cod cd cs.length (fun j => cs.getD j 0) V := by
  rcases h with ⟨rfl, rfl, rfl, h⟩ | ⟨rfl, rfl, rfl, c, hc, hw⟩
  · rw [n32 (by omega)] at hs
    exact Or.inl ⟨rfl, hs, fun j hj => ⟨by rw [hv j (by omega), low_at _ _ _ hj], by
      have e : cs.getD j 0 = cs[j] := by simp [List.getD_eq_getElem?_getD, hj]
      show ¬ 255 < cs.getD j 0
      rw [e]; exact h _ (List.getElem_mem _)⟩⟩
  · rw [n32 (by omega)] at hs
    obtain ⟨j, hj, rfl⟩ := List.getElem_of_mem hc
    exact Or.inr ⟨rfl, hs, fun j hj => ⟨by rw [hv _ (by omega), wide_lo _ _ _ hj], by rw [hv _ (by omega), wide_hi _ _ _ hj]⟩, j, hj, by
      have e : cs.getD j 0 = cs[j] := by simp [List.getD_eq_getElem?_getD, hj]
      show 255 < cs.getD j 0
      rw [e]; exact hw⟩
/-- an object of exactly java/lang/String, its two fields found: as the laws ask it -/
theorem strObj {Z U : State} {a0 : Array Value} {kI : Nat} (wi : (Jvm.Cond.instantiable ST kI).before a0 Z = true) (al : Z.vm.Alike U.vm) {x : Addr} {v0 c0 : Value} (E : RoadKit.Exa Z U.heap x ST) (V : RoadKit.Fld Z U.heap x ST "value" "[B" v0) (C : RoadKit.Fld Z U.heap x ST "coder" "B" c0) :
    ∃ (D : Cell) (fV fC : Field), Blank ST x D U ∧ Found ST "value" "[B" fV U ∧ Found ST "coder" "B" fC U ∧ D.slots[fV.slot]? = some v0 ∧ D.slots[fC.slot]? = some c0 ∧ RoadKit.slotOf Z ST "value" "[B" = fV.slot ∧ RoadKit.slotOf Z ST "coder" "B" = fC.slot := by
  obtain ⟨D, cfV, kV, iV, fV, hD, gV, stV, knV, obV, asV, slV⟩ := V
  obtain ⟨D', cfC, kC, iC, fC, hD', gC, stC, -, -, asC, slC⟩ := C
  cases hD.symm.trans hD'
  obtain ⟨D2, kD, e1, e2, e3, e4, e5⟩ := E
  cases hD.symm.trans e1
  obtain ⟨c2, k2, i1, i2, i3, -⟩ := Cond.instantiable_spec wi
  cases e2.symm.trans i1
  cases e3.symm.trans i2
  obtain ⟨kU, u1, u2⟩ := al.2.2 _ _ e3
  exact ⟨D, fV, fC, ⟨hD, ⟨knV, fun q hq => by rw [hq] at obV; cases obV⟩, by rw [al.findClass]; exact e2, kU, u1, by rw [u2]; exact i3, by rw [u2]; exact e5 i3⟩, ⟨SBG.found_only al ⟨cfV, kV, iV, gV⟩, stV⟩, ⟨SBG.found_only al ⟨cfC, kC, iC, gC⟩, stC⟩, slV, slC, by simp [RoadKit.slotOf, gV], by simp [RoadKit.slotOf, gC]⟩
theorem sta_is {Z U : State} (al : Z.vm.Alike U.vm) {C n d : String} {v : Value} (S : RoadKit.Sta Z U.heap C n d v) : StaticIs U C n d v := by
  obtain ⟨cfS, iS, kS, fS, st, cS, t1, t2, t3, t4, t5, t6, t7⟩ := S
  exact StaticIs.there (s := { Z with heap := U.heap }) ⟨cfS, iS, kS, fS, st, cS, t1, t2, t3, t4, t5, (fun q => by rw [q] at t6; cases t6), t7⟩ al rfl
/-- **length() OF SUCH A STRING** -/
theorem lenW {p : Program} {l : Launch} {e : Env} {R : Room} {s : State} {args : Array Value} {below : List Frame} {len W : Nat} {Z : State} {a0 : Array Value} {h : Heap} (hZ : Z.Warmed39 s.vm) (hw : ∀ d ∈ wordsLen, d.before a0 Z = true) {kI : Nat} (wi : (Jvm.Cond.instantiable ST kI).before a0 Z = true)
    {x t : Addr} {kb : ClassId} {cs : List Int32} {cd N2 z : Int32} {vs : List Value} (E : RoadKit.Exa Z h x ST) (V : RoadKit.Fld Z h x ST "value" "[B" (.ref t)) (C : RoadKit.Fld Z h x ST "coder" "B" (.int cd)) (K : RoadKit.Arv Z h t kb .byte N2 vs (.int 0)) (hc : CodA cs cd N2 vs) (hb : ∀ c ∈ cs, ¬ c < 0 ∧ ¬ (65535 : Int32) < c)
    (S : RoadKit.Sta Z h ST "COMPACT_STRINGS" "Z" (.int z)) (hz : ¬ z = 0) (l2 : cs.length ≤ 4000) (hfr : 2 ≤ R.frames) (hlo : W + 25 ≤ R.locals) :
    Back l R p e below s args (⟨"java/lang/String", "length", "()I"⟩ : MethodName) len W (fun P a => a = #[.ref x] ∧ P.U.heap = h ∧ P.cells + 0 ≤ R.cells ∧ P.slots + 0 ≤ R.slots)
      (fun P _ v B => ∃ L, (v = some (.int (Int32.ofNat cs.length)) ∧ L = [] ∧ B.U.heap = h) ∧ B.locs = P.locs ++ L ∧ B.cells = P.cells + 0 ∧ B.slots = P.slots + 0) := by
  obtain ⟨A, K1, K2, K3, K4, K5, K6⟩ := K
  have hcod := hc.cod (by omega) K3 K5
  intro m meth c P g ig mk a X hg hsize hdg hW hn hp'
  obtain ⟨rfl, rfl, r1, r2⟩ := hp'
  have al : Z.vm.Alike P.U.vm := hZ.alike.trans X.warmed.alike
  obtain ⟨D, fV, fC, hB, F1, F2, g1, g2, -, -⟩ := strObj wi al E V C
  have hx : Txt x t A cd cs.length (fun j => cs.getD j 0) P.U := ⟨⟨_, hB.2.2.1, D, hB.1, rfl, by cases q : D.vm <;> first | rfl | exact absurd q (hB.2.1.2 _)⟩, Has.of hB F1 g1, Has.of hB F2 g2, ⟨K1.1, State.isArrayOf_alike al K1.2.1, K1.2.2, by rcases hcod with ⟨-, q, -⟩ | ⟨-, q, -⟩ <;> omega⟩, hcod, fun j hj => by
    have e : cs.getD j 0 = cs[j] := by simp [List.getD_eq_getElem?_getD, hj]
    show ¬ cs.getD j 0 < 0 ∧ ¬ 65535 < cs.getD j 0
    rw [e]; exact hb _ (List.getElem_mem _)⟩
  obtain ⟨v, B, X', ⟨⟨hv, hh⟩, hl, hk, hs⟩, st⟩ := Len.pays x t A cd cs.length (fun j => cs.getD j 0) z (tabLen_of (movedLen hZ hw)) hfr hlo m meth c P g ig mk _ X hg hsize hdg hW hn ⟨r1, r2, rfl, hx, sta_is al S, hz⟩
  exact ⟨v, B, X', ⟨[], ⟨hv, rfl, hh⟩, hl, hk, hs⟩, st⟩
end StrChars.Road
namespace StrChars
open Jvm Sem ClassFile Op Lib Jvm.Stand Jvm.Free.XT Jvm.Free.ALB Jvm.Free.JM Jvm.Free
open Jvm.Lib.Cold (StaticIs)
namespace Emp
def yN : MethodName := ⟨"java/lang/String", "isEmpty", "()Z"⟩
abbrev yB : ByteArray := jdk_42_method_55_code
theorem d0 : decode yB 0 = .ok (.aload_n 0, 1) := by decide +kernel
theorem d1 : decode yB 1 = .ok (.getfield 9, 3) := by decide +kernel
theorem d4 : decode yB 4 = .ok (.arraylength, 1) := by decide +kernel
theorem d5 : decode yB 5 = .ok (.ifCond (.ne) 7, 3) := by decide +kernel
theorem d8 : decode yB 8 = .ok (.iconst 1, 1) := by decide +kernel
theorem d9 : decode yB 9 = .ok (.goto 4, 3) := by decide +kernel
theorem d12 : decode yB 12 = .ok (.iconst 0, 1) := by decide +kernel
theorem d13 : decode yB 13 = .ok (.ireturn, 1) := by decide +kernel
def site : List Cond := [.fieldLink "java/lang/String" 9 "java/lang/String" "value" "[B"]
def tab : Cond := tabOf yN yB 1 (some .boolean) site
def P (x t : Addr) (V : Cell) (cd : Int32) (n : Nat) (f : Nat → Int32) (args : Array Value) (s : State) : Prop := args = #[.ref x] ∧ Txt x t V cd n f s
def E (n : Nat) (r : Option Value) (s u : State) : Prop := XT.PureE (some (.int (if n = 0 then 1 else 0))) r s u
/-- isEmpty() of a String of n chars -/
theorem law (l : Launch) (x t : Addr) (V : Cell) (cd : Int32) (n : Nat) (f : Nat → Int32) : Law l yN 1 0 0 0 yB 1 (some .boolean) site (P x t V cd n f) (E n) [] 0 0 := by
  refine Law.of_walk (plainFor_of_name (by decide +kernel)) (by decide +kernel) (by decide +kernel) (by decide) (fun _ _ h => by rw [h.1]; rfl) (fun _ U U' hal hh h => ⟨h.1, h.2.mv hal hh⟩) (fun r U U' V V' h1 hal h2 h => XT.PureE.mv r U U' V V' h1 hal h2 h) ?_
  intro p e s m args below meth c s₁ X0 hexec hbytes hml hret hlk hnm hown hh0 W hP
  obtain ⟨rfl, hx⟩ := hP
  have v31 := hx.2.2.2.1.2.2.2
  have c1 : Steps p.tables e below (s₁.setTop (entryFrame m #[.ref x] 1)) (s₁.setTop (mkF m 1 #[.val (.ref x)] [.ref x])) := Steps.trans (entry rfl) (by
    show Steps p.tables e below (s₁.setTop (mkF m 0 #[.val (.ref x)] [])) _
    refine XS.aloadN X0.here hexec rfl (hb hbytes d0) rfl rfl ?_
    exact Steps.refl _)
  obtain ⟨T2, X2, q2, st2⟩ := X0.hget hexec hown (wk W (.fieldLink "java/lang/String" 9 "java/lang/String" "value" "[B")) (hx.mv X0.warmed.alike hh0).2.1 (g := (mkF m 1 #[.val (.ref x)] [.ref x])) rfl (rest := []) rfl (hb hbytes d1)
  have hh2 := q2.trans hh0
  have hx2 := hx.mv X2.warmed.alike hh2
  have c3 : Steps p.tables e below (s₁.setTop (entryFrame m #[.ref x] 1)) (T2.setTop (mkF m 5 #[.val (.ref x)] [.int (Int32.ofNat V.slots.size)])) := (c1.trans (st2 _ (Steps.refl _))).trans (by
    refine X2.alen hexec hx2.2.2.2.1 rfl rfl (hb hbytes d4) ?_
    exact Steps.refl _)
  have hz : V.slots.size = 0 ↔ n = 0 := by
    rcases hx.2.2.2.2.1 with ⟨-, q, -⟩ | ⟨-, q, -⟩ <;> omega
  by_cases h0 : n = 0
  · have c4 : Steps p.tables e below (s₁.setTop (entryFrame m #[.ref x] 1)) (T2.setTop (mkF m 13 #[.val (.ref x)] [.int 1])) := c3.trans (by
      refine XS.ifNo X2.here hexec rfl (hb hbytes d5) rfl (i0_ne_f (by rw [hz.mpr h0]; rfl)) ?_
      refine iconstV X2.here hexec rfl 1 (hb hbytes d8) (by decide) ?_
      refine XS.goto X2.here hexec rfl (pc0 := 9) rfl (hb hbytes d9) (by decide) rfl ?_
      exact Steps.refl _)
    exact ⟨T2, some (.int 1), _, _, _, X2, rfl, rfl, rfl, (fun h => by cases h), ⟨by rw [if_pos h0], hh2⟩, fun fs hl => c4.trans (X2.ireturnOut hexec hret rfl (Or.inr (Or.inl rfl)) (hb hbytes d13) hl)⟩
  · have c4 : Steps p.tables e below (s₁.setTop (entryFrame m #[.ref x] 1)) (T2.setTop (mkF m 13 #[.val (.ref x)] [.int 0])) := c3.trans (by
      refine XS.ifYes X2.here hexec rfl (pc0 := 5) rfl (hb hbytes d5) rfl (i0_ne_t (nz32 v31 (by omega))) (by decide) rfl ?_
      refine iconstV X2.here hexec rfl 0 (hb hbytes d12) (by decide) ?_
      exact Steps.refl _)
    exact ⟨T2, some (.int 0), _, _, _, X2, rfl, rfl, rfl, (fun h => by cases h), ⟨by rw [if_neg h0], hh2⟩, fun fs hl => c4.trans (X2.ireturnOut hexec hret rfl (Or.inr (Or.inl rfl)) (hb hbytes d13) hl)⟩
theorem pays {l : Launch} {R : Room} {p : Program} {e : Env} {below : List Frame} {s : State} {sargs : Array Value} {len W : Nat} (x t : Addr) (V : Cell) (cd : Int32) (n : Nat) (f : Nat → Int32) (htab : tab.before sargs s = true) (hfr : 1 ≤ R.frames) (hlo : W + 12 ≤ R.locals) :
    Back l R p e below s sargs yN len W (fun A₁ a₁ => A₁.cells + 0 ≤ R.cells ∧ A₁.slots + 0 ≤ R.slots ∧ P x t V cd n f a₁ A₁.U) (fun A₁ _ v₁ B₁ => E n v₁ A₁.U B₁.U ∧ B₁.locs = A₁.locs ++ [] ∧ B₁.cells = A₁.cells + 0 ∧ B₁.slots = A₁.slots + 0) :=
  (law l x t V cd n f).pays htab hfr (by omega)
end Emp
/-- what place i of a byte[]'s cell holds -/
def yv (A : Cell) (i : Nat) : Int32 := match A.slots[i]? with | some (.int x) => x | _ => 0
theorem yv_get {a : Addr} {A : Cell} {U : State} (h : XT.Arr .byte a A U) (ht : Typed .byte A) {i : Nat} (hi : i < A.slots.size) : A.slots[i]? = some (.int (yv A i)) := by
  have e := Array.getElem?_eq_getElem hi
  have f := ht i _ e
  unfold yv; rw [e]
  generalize A.slots[i] = v at f
  cases v <;> simp [fits] at f ⊢
/-- the two arrays are equal, place for place -/
def EqC (A B : Cell) : Prop := A.slots.size = B.slots.size ∧ ∀ i, i < A.slots.size → yv A i = yv B i
/-- a boolean that says whether p -/
def Says01 (q : Prop) (r : Option Value) (s u : State) : Prop := ∃ v : Int32, r = some (.int v) ∧ u.heap = s.heap ∧ ((v = 1 ∧ q) ∨ (v = 0 ∧ ¬ q))
theorem Says01.mv {q : Prop} : ∀ r (U U' V V' : State), U'.heap = U.heap → V.vm.Alike V'.vm → V'.heap = V.heap → Says01 q r U V → Says01 q r U' V' :=
  fun r U U' V V' h1 _ h2 ⟨v, a, b, c⟩ => ⟨v, a, by rw [h1, h2]; exact b, c⟩
namespace LEq
def yN : MethodName := ⟨"java/lang/StringLatin1", "equals", "([B[B)Z"⟩
abbrev yB : ByteArray := jdk_43_method_13_code
theorem d0 : decode yB 0 = .ok (.aload_n 0, 1) := by decide +kernel
theorem d1 : decode yB 1 = .ok (.arraylength, 1) := by decide +kernel
theorem d2 : decode yB 2 = .ok (.aload_n 1, 1) := by decide +kernel
theorem d3 : decode yB 3 = .ok (.arraylength, 1) := by decide +kernel
theorem d4 : decode yB 4 = .ok (.if_icmp (.ne) 30, 3) := by decide +kernel
theorem d7 : decode yB 7 = .ok (.iconst 0, 1) := by decide +kernel
theorem d8 : decode yB 8 = .ok (.istore_n 2, 1) := by decide +kernel
theorem d9 : decode yB 9 = .ok (.iload_n 2, 1) := by decide +kernel
theorem d10 : decode yB 10 = .ok (.aload_n 0, 1) := by decide +kernel
theorem d11 : decode yB 11 = .ok (.arraylength, 1) := by decide +kernel
theorem d12 : decode yB 12 = .ok (.if_icmp (.ge) 20, 3) := by decide +kernel
theorem d15 : decode yB 15 = .ok (.aload_n 0, 1) := by decide +kernel
theorem d16 : decode yB 16 = .ok (.iload_n 2, 1) := by decide +kernel
theorem d17 : decode yB 17 = .ok (.baload, 1) := by decide +kernel
theorem d18 : decode yB 18 = .ok (.aload_n 1, 1) := by decide +kernel
theorem d19 : decode yB 19 = .ok (.iload_n 2, 1) := by decide +kernel
theorem d20 : decode yB 20 = .ok (.baload, 1) := by decide +kernel
theorem d21 : decode yB 21 = .ok (.if_icmp (.eq) 5, 3) := by decide +kernel
theorem d24 : decode yB 24 = .ok (.iconst 0, 1) := by decide +kernel
theorem d25 : decode yB 25 = .ok (.ireturn, 1) := by decide +kernel
theorem d26 : decode yB 26 = .ok (.iinc 2 1, 3) := by decide +kernel
theorem d29 : decode yB 29 = .ok (.goto (-20), 3) := by decide +kernel
theorem d32 : decode yB 32 = .ok (.iconst 1, 1) := by decide +kernel
theorem d33 : decode yB 33 = .ok (.ireturn, 1) := by decide +kernel
theorem d34 : decode yB 34 = .ok (.iconst 0, 1) := by decide +kernel
theorem d35 : decode yB 35 = .ok (.ireturn, 1) := by decide +kernel
def site : List Cond := []
def tab : Cond := tabOf yN yB 3 (some .boolean) site
def P (a : Addr) (A : Cell) (b : Addr) (B : Cell) (args : Array Value) (s : State) : Prop := args = #[.ref a, .ref b] ∧ XT.Arr .byte a A s ∧ Typed .byte A ∧ XT.Arr .byte b B s ∧ Typed .byte B
/-- whether two byte[] are equal, place for place -/
theorem law (l : Launch) (a : Addr) (A : Cell) (b : Addr) (B : Cell) : Law l yN 2 2 0 0 yB 3 (some .boolean) site (P a A b B) (Says01 (EqC A B)) [] 0 0 := by
  refine Law.of_walk (plainFor_of_name (by decide +kernel)) (by decide +kernel) (by decide +kernel) (by decide) (fun _ _ h => by rw [h.1]; rfl) (fun _ U U' hal hh h => ⟨h.1, h.2.1.mv hal hh, h.2.2.1, h.2.2.2.1.mv hal hh, h.2.2.2.2⟩) (fun r U U' V V' h1 hal h2 h => Says01.mv r U U' V V' h1 hal h2 h) ?_
  intro p e s m args below meth c s₁ X0 hexec hbytes hml hret hlk hnm hown hh0 W hP
  obtain ⟨rfl, hA, tA, hB, tB⟩ := hP
  have a31 := hA.2.2.2
  have b31 := hB.2.2.2
  have hA0 := hA.mv X0.warmed.alike hh0
  have hB0 := hB.mv X0.warmed.alike hh0
  have c1 : Steps p.tables e below (s₁.setTop (entryFrame m #[.ref a, .ref b] 3)) (s₁.setTop (mkF m 0 #[.val (.ref a), .val (.ref b), .unset] [])) := entry rfl
  have c2 : Steps p.tables e below (s₁.setTop (entryFrame m #[.ref a, .ref b] 3)) (s₁.setTop (mkF m 4 #[.val (.ref a), .val (.ref b), .unset] [.int (Int32.ofNat B.slots.size), .int (Int32.ofNat A.slots.size)])) := c1.trans (by
    refine XS.aloadN X0.here hexec rfl (hb hbytes d0) rfl rfl ?_
    refine X0.alen hexec hA0 rfl rfl (hb hbytes d1) ?_
    refine XS.aloadN X0.here hexec rfl (hb hbytes d2) rfl rfl ?_
    refine X0.alen hexec hB0 rfl rfl (hb hbytes d3) ?_
    exact Steps.refl _)
  by_cases hs : A.slots.size = B.slots.size
  · have c3 : Steps p.tables e below (s₁.setTop (entryFrame m #[.ref a, .ref b] 3)) (s₁.setTop (mkF m 9 #[.val (.ref a), .val (.ref b), .val (.int 0)] [])) := c2.trans (by
      refine XS.icmpNo X0.here hexec rfl (hb hbytes d4) rfl (ii_ne_f (by rw [hs])) ?_
      refine iconstV X0.here hexec rfl 0 (hb hbytes d7) (by decide) ?_
      refine XS.istoreN X0.here hexec rfl (hb hbytes d8) rfl rfl ?_
      exact Steps.refl _)
    have loop : ∀ (r i : Nat), i + r = A.slots.size → (∀ j, j < i → yv A j = yv B j) → Steps p.tables e below (s₁.setTop (entryFrame m #[.ref a, .ref b] 3)) (s₁.setTop (mkF m 9 #[.val (.ref a), .val (.ref b), .val (.int (Int32.ofNat i))] [])) → ∃ (pc : Nat) (Ls : Array Slot) (v : Int32), (pc = 25 ∨ pc = 33) ∧ ((v = 1 ∧ EqC A B) ∨ (v = 0 ∧ ¬ EqC A B)) ∧ Steps p.tables e below (s₁.setTop (entryFrame m #[.ref a, .ref b] 3)) (s₁.setTop (mkF m pc Ls [.int v])) := by
      intro r
      induction r with
      | zero =>
        intro i hi he cl
        exact ⟨33, _, 1, Or.inr rfl, Or.inl ⟨rfl, hs, fun j hj => he j (by omega)⟩, cl.trans (by
          refine XS.iloadN X0.here hexec rfl (hb hbytes d9) rfl ?_
          refine XS.aloadN X0.here hexec rfl (hb hbytes d10) rfl rfl ?_
          refine X0.alen hexec hA0 rfl rfl (hb hbytes d11) ?_
          refine XS.icmpYes X0.here hexec rfl (pc0 := 12) rfl (hb hbytes d12) rfl (ii_ge_t (nlt32 (by omega) (by omega))) (by decide) rfl ?_
          refine iconstV X0.here hexec rfl 1 (hb hbytes d32) (by decide) ?_
          exact Steps.refl _)⟩
      | succ r ih =>
        intro i hi he cl
        have c4 : Steps p.tables e below (s₁.setTop (entryFrame m #[.ref a, .ref b] 3)) (s₁.setTop (mkF m 21 #[.val (.ref a), .val (.ref b), .val (.int (Int32.ofNat i))] [.int (yv B i), .int (yv A i)])) := cl.trans (by
          refine XS.iloadN X0.here hexec rfl (hb hbytes d9) rfl ?_
          refine XS.aloadN X0.here hexec rfl (hb hbytes d10) rfl rfl ?_
          refine X0.alen hexec hA0 rfl rfl (hb hbytes d11) ?_
          refine XS.icmpNo X0.here hexec rfl (hb hbytes d12) rfl (ii_ge_f (lt32 (by omega) (by omega))) ?_
          refine XS.aloadN X0.here hexec rfl (hb hbytes d15) rfl rfl ?_
          refine XS.iloadN X0.here hexec rfl (hb hbytes d16) rfl ?_
          refine X0.aget hexec hA0 rfl (yv_get hA tA (i := i) (by omega)) rfl rfl (hb hbytes d17) ?_
          refine XS.aloadN X0.here hexec rfl (hb hbytes d18) rfl rfl ?_
          refine XS.iloadN X0.here hexec rfl (hb hbytes d19) rfl ?_
          refine X0.aget hexec hB0 rfl (yv_get hB tB (i := i) (by omega)) rfl rfl (hb hbytes d20) ?_
          exact Steps.refl _)
        by_cases hv : yv A i = yv B i
        · have c5 : Steps p.tables e below (s₁.setTop (entryFrame m #[.ref a, .ref b] 3)) (s₁.setTop (mkF m 9 #[.val (.ref a), .val (.ref b), .val (.int (Int32.ofNat i + 1))] [])) := c4.trans (by
            refine XS.icmpYes X0.here hexec rfl (pc0 := 21) rfl (hb hbytes d21) rfl (ii_eq_t hv) (by decide) rfl ?_
            refine iincV X0.here hexec rfl 1 (hb hbytes d26) (by decide) rfl rfl ?_
            refine XS.goto X0.here hexec rfl (pc0 := 29) rfl (hb hbytes d29) (by decide) rfl ?_
            exact Steps.refl _)
          rw [succ32] at c5
          exact ih (i + 1) (by omega) (fun j hj => by
            by_cases e : j = i
            · rw [e]; exact hv
            · exact he j (by omega)) c5
        · exact ⟨25, _, 0, Or.inl rfl, Or.inr ⟨rfl, fun q => hv (q.2 i (by omega))⟩, c4.trans (by
            refine XS.icmpNo X0.here hexec rfl (hb hbytes d21) rfl (ii_eq_f hv) ?_
            refine iconstV X0.here hexec rfl 0 (hb hbytes d24) (by decide) ?_
            exact Steps.refl _)⟩
    obtain ⟨pc, Ls, v, hpc, hv, cz⟩ := loop A.slots.size 0 (by omega) (fun j hj => absurd hj (Nat.not_lt_zero j)) c3
    have nv : narrow .boolean (.int v) = .int v := by rcases hv with ⟨rfl, -⟩ | ⟨rfl, -⟩ <;> rfl
    rcases hpc with rfl | rfl
    · exact ⟨s₁, some (.int v), _, _, _, X0, rfl, rfl, rfl, (fun h => by cases h), ⟨v, rfl, hh0, hv⟩, fun fs hl => cz.trans (X0.ireturnOut hexec hret nv (Or.inr (Or.inl rfl)) (hb hbytes d25) hl)⟩
    · exact ⟨s₁, some (.int v), _, _, _, X0, rfl, rfl, rfl, (fun h => by cases h), ⟨v, rfl, hh0, hv⟩, fun fs hl => cz.trans (X0.ireturnOut hexec hret nv (Or.inr (Or.inl rfl)) (hb hbytes d33) hl)⟩
  · have c3 : Steps p.tables e below (s₁.setTop (entryFrame m #[.ref a, .ref b] 3)) (s₁.setTop (mkF m 35 #[.val (.ref a), .val (.ref b), .unset] [.int 0])) := c2.trans (by
      refine XS.icmpYes X0.here hexec rfl (pc0 := 4) rfl (hb hbytes d4) rfl (ii_ne_t (ne32 a31 b31 hs)) (by decide) rfl ?_
      refine iconstV X0.here hexec rfl 0 (hb hbytes d34) (by decide) ?_
      exact Steps.refl _)
    exact ⟨s₁, some (.int 0), _, _, _, X0, rfl, rfl, rfl, (fun h => by cases h), ⟨0, rfl, hh0, Or.inr ⟨rfl, fun q => hs q.1⟩⟩, fun fs hl => c3.trans (X0.ireturnOut hexec hret rfl (Or.inr (Or.inl rfl)) (hb hbytes d35) hl)⟩
end LEq
theorem Cod.ty {cd : Int32} {n : Nat} {f : Nat → Int32} {V : Cell} (h : Cod cd n f V) : Typed .byte V := fun i v hv => by
  have hi : i < V.slots.size := (Array.getElem?_eq_some_iff.mp hv).1
  rcases h with ⟨-, k1, k2⟩ | ⟨-, k1, k2, -⟩
  · rw [(k2 i (by omega)).1] at hv; cases hv; exact fits_lo8 _
  · rcases Nat.mod_two_eq_zero_or_one i with e | e
    · obtain ⟨j, rfl⟩ : ∃ j, i = 2 * j := ⟨i / 2, by omega⟩
      rw [(k2 j (by omega)).1] at hv; cases hv; exact fits_lo8 _
    · obtain ⟨j, rfl⟩ : ∃ j, i = 2 * j + 1 := ⟨i / 2, by omega⟩
      rw [(k2 j (by omega)).2] at hv; cases hv; exact fits_lo8 _
/-- the same text -/
def SameT (n : Nat) (f : Nat → Int32) (k : Nat) (g : Nat → Int32) : Prop := n = k ∧ ∀ j, j < n → f j = g j
theorem lo8_inj {x y : Int32} (h0 : ¬ x < 0) (h1 : ¬ 255 < x) (k0 : ¬ y < 0) (k1 : ¬ 255 < y) (h : lo8 x = lo8 y) : x = y := by
  rw [← lo8_mask h0 h1, ← lo8_mask k0 k1, h]
/-- arrays coded by one coder are equal just where the texts are -/
theorem Cod.eqv {cd : Int32} {n k : Nat} {f g : Nat → Int32} {V V' : Cell} (h : Cod cd n f V) (h' : Cod cd k g V') (hf : ∀ j, j < n → ¬ f j < 0 ∧ ¬ 65535 < f j) (hg : ∀ j, j < k → ¬ g j < 0 ∧ ¬ 65535 < g j) : EqC V V' ↔ SameT n f k g := by
  have yvv : ∀ {W : Cell} {i : Nat} {x : Int32}, W.slots[i]? = some (.int x) → yv W i = x := fun q => by unfold yv; rw [q]
  rcases h with ⟨rfl, k1, k2⟩ | ⟨rfl, k1, k2, -⟩
  · rcases h' with ⟨-, m1, m2⟩ | ⟨e, -⟩
    · constructor
      · rintro ⟨e1, e2⟩
        refine ⟨by omega, fun j hj => ?_⟩
        have q := e2 j (by omega)
        rw [yvv (k2 j hj).1, yvv (m2 j (by omega)).1] at q
        exact lo8_inj (hf j hj).1 (k2 j hj).2 (hg j (by omega)).1 (m2 j (by omega)).2 q
      · rintro ⟨rfl, e2⟩
        refine ⟨by omega, fun j hj => ?_⟩
        rw [yvv (k2 j (by omega)).1, yvv (m2 j (by omega)).1, e2 j (by omega)]
    · exact absurd e (by decide)
  · rcases h' with ⟨e, -⟩ | ⟨-, m1, m2, -⟩
    · exact absurd e (by decide)
    · constructor
      · rintro ⟨e1, e2⟩
        refine ⟨by omega, fun j hj => ?_⟩
        have q1 := e2 (2 * j) (by omega)
        have q2 := e2 (2 * j + 1) (by omega)
        rw [yvv (k2 j hj).1, yvv (m2 j (by omega)).1] at q1
        rw [yvv (k2 j hj).2, yvv (m2 j (by omega)).2] at q2
        rw [← pair_says (hf j hj).1 (hf j hj).2, ← pair_says (hg j (by omega)).1 (hg j (by omega)).2, q1, q2]
      · rintro ⟨rfl, e2⟩
        refine ⟨by omega, fun i hi => ?_⟩
        rcases Nat.mod_two_eq_zero_or_one i with e | e
        · obtain ⟨j, rfl⟩ : ∃ j, i = 2 * j := ⟨i / 2, by omega⟩
          rw [yvv (k2 j (by omega)).1, yvv (m2 j (by omega)).1, e2 j (by omega)]
        · obtain ⟨j, rfl⟩ : ∃ j, i = 2 * j + 1 := ⟨i / 2, by omega⟩
          rw [yvv (k2 j (by omega)).2, yvv (m2 j (by omega)).2, e2 j (by omega)]
/-- two codings differ: so do the texts -/
theorem Cod.dif {cd cd' : Int32} {n k : Nat} {f g : Nat → Int32} {V V' : Cell} (h : Cod cd n f V) (h' : Cod cd' k g V') (hne : ¬ cd = cd') : ¬ SameT n f k g := by
  rintro ⟨rfl, e⟩
  rcases h with ⟨rfl, -, k2⟩ | ⟨rfl, -, -, j, hj, hw⟩
  · rcases h' with ⟨rfl, -⟩ | ⟨-, -, -, j, hj, hw⟩
    · exact hne rfl
    · exact (k2 j hj).2 (by rw [e j hj]; exact hw)
  · rcases h' with ⟨-, -, m2⟩ | ⟨rfl, -⟩
    · exact (m2 j hj).2 (by rw [← e j hj]; exact hw)
    · exact hne rfl
/-- an object of exactly C is an instance of C -/
theorem cinst {p : Program} {l : Launch} {e : Env} {R : Room} {s : State} {m : MethodId} {args : Array Value} {below : List Frame} {meth : Method} {c : Code} {T : State} {locs : List Loc} {cells slots : Nat} (X : Stand p l e R s m args below meth c T locs cells slots) (hexec : p.tables.exec = Jvm.exec) {own C : String} {index : Nat} (hown : s.vm.findClass own = some m.cls) (hlink : (Cond.classLink own index C).before args s = true) {a : Addr} (hE : Exact C a T)
    {g : JFrame} (hg : g.method = m) {rest : List Value} (hstack : g.stack = .ref a :: rest) (hdg : decode c.code g.pc = .ok (.instanceof index, 3)) :
    ∃ T', Stand p l e R s m args below meth c T' locs cells slots ∧ T'.heap = T.heap ∧ ∀ target, Steps p.tables e below (T'.setTop { g with pc := g.pc + 3, stack := .int 1 :: rest }) target → Steps p.tables e below (T.setTop g) target := by
  obtain ⟨cB, h1, D, h2, h3, h4⟩ := hE
  have h1' : s.vm.findClass C = some cB := by rw [← X.warmed.alike.findClass]; exact h1
  obtain ⟨vm', X', st⟩ := X.instanceofYes hexec hown hlink h2 h4 h1' (by rw [h3]; exact Jvm.Free.SB.assignable_self _ _) hg hstack hdg
  exact ⟨_, X', rfl, st⟩
theorem cself {p : Program} {l : Launch} {e : Env} {R : Room} {s : State} {m : MethodId} {args : Array Value} {below : List Frame} {meth : Method} {c : Code} {T : State} {locs : List Loc} {cells slots : Nat} (X : Stand p l e R s m args below meth c T locs cells slots) (hexec : p.tables.exec = Jvm.exec) {own C : String} {index : Nat} (hown : s.vm.findClass own = some m.cls) (hlink : (Cond.classLink own index C).before args s = true) {a : Addr} (hE : Exact C a T)
    {g : JFrame} (hg : g.method = m) {rest : List Value} (hstack : g.stack = .ref a :: rest) (hdg : decode c.code g.pc = .ok (.checkcast index, 3)) :
    ∃ T', Stand p l e R s m args below meth c T' locs cells slots ∧ T'.heap = T.heap ∧ ∀ target, Steps p.tables e below (T'.setTop { g with pc := g.pc + 3, stack := .ref a :: rest }) target → Steps p.tables e below (T.setTop g) target := by
  obtain ⟨cB, h1, D, h2, h3, h4⟩ := hE
  have h1' : s.vm.findClass C = some cB := by rw [← X.warmed.alike.findClass]; exact h1
  obtain ⟨vm', X', st⟩ := X.checkcastYes hexec hown hlink h2 h4 h1' (by rw [h3]; exact Jvm.Free.SB.assignable_self _ _) hg hstack hdg
  exact ⟨_, X', rfl, fun t h => st t (by rw [← hstack] at h; exact h)⟩
namespace SEq
def yN : MethodName := ⟨"java/lang/String", "equals", "(Ljava/lang/Object;)Z"⟩
abbrev yB : ByteArray := jdk_42_method_66_code
theorem d0 : decode yB 0 = .ok (.aload_n 0, 1) := by decide +kernel
theorem d1 : decode yB 1 = .ok (.aload_n 1, 1) := by decide +kernel
theorem d2 : decode yB 2 = .ok (.if_acmp (.ne) 5, 3) := by decide +kernel
theorem d5 : decode yB 5 = .ok (.iconst 1, 1) := by decide +kernel
theorem d6 : decode yB 6 = .ok (.ireturn, 1) := by decide +kernel
theorem d7 : decode yB 7 = .ok (.aload_n 1, 1) := by decide +kernel
theorem d8 : decode yB 8 = .ok (.instanceof 10, 3) := by decide +kernel
theorem d11 : decode yB 11 = .ok (.ifCond (.eq) 43, 3) := by decide +kernel
theorem d14 : decode yB 14 = .ok (.aload_n 1, 1) := by decide +kernel
theorem d15 : decode yB 15 = .ok (.checkcast 10, 3) := by decide +kernel
theorem d18 : decode yB 18 = .ok (.astore_n 2, 1) := by decide +kernel
theorem d19 : decode yB 19 = .ok (.getstatic 38, 3) := by decide +kernel
theorem d22 : decode yB 22 = .ok (.ifCond (.eq) 14, 3) := by decide +kernel
theorem d25 : decode yB 25 = .ok (.aload_n 0, 1) := by decide +kernel
theorem d26 : decode yB 26 = .ok (.getfield 15, 3) := by decide +kernel
theorem d29 : decode yB 29 = .ok (.aload_n 2, 1) := by decide +kernel
theorem d30 : decode yB 30 = .ok (.getfield 15, 3) := by decide +kernel
theorem d33 : decode yB 33 = .ok (.if_icmp (.ne) 21, 3) := by decide +kernel
theorem d36 : decode yB 36 = .ok (.aload_n 0, 1) := by decide +kernel
theorem d37 : decode yB 37 = .ok (.getfield 9, 3) := by decide +kernel
theorem d40 : decode yB 40 = .ok (.aload_n 2, 1) := by decide +kernel
theorem d41 : decode yB 41 = .ok (.getfield 9, 3) := by decide +kernel
theorem d44 : decode yB 44 = .ok (.invokestatic 541, 3) := by decide +kernel
theorem d47 : decode yB 47 = .ok (.ifCond (.eq) 7, 3) := by decide +kernel
theorem d50 : decode yB 50 = .ok (.iconst 1, 1) := by decide +kernel
theorem d51 : decode yB 51 = .ok (.goto 4, 3) := by decide +kernel
theorem d54 : decode yB 54 = .ok (.iconst 0, 1) := by decide +kernel
theorem d55 : decode yB 55 = .ok (.ireturn, 1) := by decide +kernel
def site : List Cond := [.classLink "java/lang/String" 10 "java/lang/String", .fieldLink "java/lang/String" 38 "java/lang/String" "COMPACT_STRINGS" "Z", .fieldLink "java/lang/String" 15 "java/lang/String" "coder" "B", .fieldLink "java/lang/String" 9 "java/lang/String" "value" "[B", LEq.tab] ++ staticW "java/lang/String" 541 LEq.yN
def tab : Cond := tabOf yN yB 3 (some .boolean) site
def P (x t : Addr) (V : Cell) (cd : Int32) (n : Nat) (f : Nat → Int32) (y t' : Addr) (V' : Cell) (cd' : Int32) (k : Nat) (g : Nat → Int32) (z : Int32) (args : Array Value) (s : State) : Prop := args = #[.ref x, .ref y] ∧ Txt x t V cd n f s ∧ Txt y t' V' cd' k g s ∧ StaticIs s "java/lang/String" "COMPACT_STRINGS" "Z" (.int z) ∧ ¬ z = 0
/-- equals(Object) of two Strings: whether the texts are the same -/
theorem law (l : Launch) (x t : Addr) (V : Cell) (cd : Int32) (n : Nat) (f : Nat → Int32) (y t' : Addr) (V' : Cell) (cd' : Int32) (k : Nat) (g : Nat → Int32) (z : Int32) : Law l yN 2 1 1 14 yB 3 (some .boolean) site (P x t V cd n f y t' V' cd' k g z) (Says01 (SameT n f k g)) [] 0 0 := by
  refine Law.of_walk (plainFor_of_name (by decide +kernel)) (by decide +kernel) (by decide +kernel) (by decide) (fun _ _ h => by rw [h.1]; rfl) (fun _ U U' hal hh h => ⟨h.1, h.2.1.mv hal hh, h.2.2.1.mv hal hh, h.2.2.2.1.there hal hh, h.2.2.2.2⟩) (fun r U U' V V' h1 hal h2 h => Says01.mv r U U' V V' h1 hal h2 h) ?_
  intro p e s m args below meth c s₁ X0 hexec hbytes hml hret hlk hnm hown hh0 W hP
  obtain ⟨rfl, hx, hy, s1, hz⟩ := hP
  have c1 : Steps p.tables e below (s₁.setTop (entryFrame m #[.ref x, .ref y] 3)) (s₁.setTop (mkF m 2 #[.val (.ref x), .val (.ref y), .unset] [.ref y, .ref x])) := Steps.trans (entry rfl) (by
    show Steps p.tables e below (s₁.setTop (mkF m 0 #[.val (.ref x), .val (.ref y), .unset] [])) _
    refine XS.aloadN X0.here hexec rfl (hb hbytes d0) rfl rfl ?_
    refine XS.aloadN X0.here hexec rfl (hb hbytes d1) rfl rfl ?_
    exact Steps.refl _)
  by_cases hxy : x = y
  · have c2 : Steps p.tables e below (s₁.setTop (entryFrame m #[.ref x, .ref y] 3)) (s₁.setTop (mkF m 6 #[.val (.ref x), .val (.ref y), .unset] [.int 1])) := c1.trans (by
      refine acmpNo X0.here hexec rfl (hb hbytes d2) rfl rfl rfl (by simp [acmp, hxy]) ?_
      refine iconstV X0.here hexec rfl 1 (hb hbytes d5) (by decide) ?_
      exact Steps.refl _)
    subst hxy
    have ec : cd = cd' := by
      obtain ⟨D, fd, a1, a2, a3⟩ := hx.2.2.1
      obtain ⟨D', fd', b1, b2, b3⟩ := hy.2.2.1
      cases a1.symm.trans b1
      obtain ⟨q1, q2, q3, q4⟩ := a2.1
      obtain ⟨r1, r2, r3, r4⟩ := b2.1
      cases q4.symm.trans r4
      cases a3.symm.trans b3; rfl
    have et : t = t' := by
      obtain ⟨D, fd, a1, a2, a3⟩ := hx.2.1
      obtain ⟨D', fd', b1, b2, b3⟩ := hy.2.1
      cases a1.symm.trans b1
      obtain ⟨q1, q2, q3, q4⟩ := a2.1
      obtain ⟨r1, r2, r3, r4⟩ := b2.1
      cases q4.symm.trans r4
      cases a3.symm.trans b3; rfl
    subst ec et
    have ev : V = V' := by cases hx.2.2.2.1.1.symm.trans hy.2.2.2.1.1; rfl
    subst ev
    have hs : SameT n f k g := (Cod.eqv hx.2.2.2.2.1 hy.2.2.2.2.1 hx.2.2.2.2.2 hy.2.2.2.2.2).mp ⟨rfl, fun _ _ => rfl⟩
    exact ⟨s₁, some (.int 1), _, _, _, X0, rfl, rfl, rfl, (fun h => by cases h), ⟨1, rfl, hh0, Or.inl ⟨rfl, hs⟩⟩, fun fs hl => c2.trans (X0.ireturnOut hexec hret rfl (Or.inr (Or.inl rfl)) (hb hbytes d6) hl)⟩
  · have c2 : Steps p.tables e below (s₁.setTop (entryFrame m #[.ref x, .ref y] 3)) (s₁.setTop (mkF m 8 #[.val (.ref x), .val (.ref y), .unset] [.ref y])) := c1.trans (by
      refine acmpYes X0.here hexec rfl (pc0 := 2) rfl (hb hbytes d2) rfl rfl rfl (by simp [acmp, hxy]) (by decide) rfl ?_
      refine XS.aloadN X0.here hexec rfl (hb hbytes d7) rfl rfl ?_
      exact Steps.refl _)
    obtain ⟨T3, X3, q3, st3⟩ := cinst X0 hexec hown (wk W (.classLink "java/lang/String" 10 "java/lang/String")) (hy.mv X0.warmed.alike hh0).1 (g := (mkF m 8 #[.val (.ref x), .val (.ref y), .unset] [.ref y])) rfl (rest := []) rfl (hb hbytes d8)
    have hh3 := q3.trans hh0
    have c4 : Steps p.tables e below (s₁.setTop (entryFrame m #[.ref x, .ref y] 3)) (T3.setTop (mkF m 15 #[.val (.ref x), .val (.ref y), .unset] [.ref y])) := (c2.trans (st3 _ (Steps.refl _))).trans (by
      refine XS.ifNo X3.here hexec rfl (hb hbytes d11) rfl (i0_eq_f (by decide)) ?_
      refine XS.aloadN X3.here hexec rfl (hb hbytes d14) rfl rfl ?_
      exact Steps.refl _)
    obtain ⟨T5, X5, q5, st5⟩ := cself X3 hexec hown (wk W (.classLink "java/lang/String" 10 "java/lang/String")) (hy.mv X3.warmed.alike hh3).1 (g := (mkF m 15 #[.val (.ref x), .val (.ref y), .unset] [.ref y])) rfl (rest := []) rfl (hb hbytes d15)
    have hh5 := q5.trans hh3
    have c6 : Steps p.tables e below (s₁.setTop (entryFrame m #[.ref x, .ref y] 3)) (T5.setTop (mkF m 19 #[.val (.ref x), .val (.ref y), .val (.ref y)] [])) := (c4.trans (st5 _ (Steps.refl _))).trans (by
      refine XS.astoreN X5.here hexec rfl (hb hbytes d18) rfl rfl rfl ?_
      exact Steps.refl _)
    obtain ⟨T7, X7, q7, st7⟩ := X5.sget hexec hown (wk W (.fieldLink "java/lang/String" 38 "java/lang/String" "COMPACT_STRINGS" "Z")) s1 (fun _ _ h => by rw [hh5]; exact h) (g := (mkF m 19 #[.val (.ref x), .val (.ref y), .val (.ref y)] [])) rfl (hb hbytes d19)
    have hh7 := q7.trans hh5
    have c8 : Steps p.tables e below (s₁.setTop (entryFrame m #[.ref x, .ref y] 3)) (T7.setTop (mkF m 26 #[.val (.ref x), .val (.ref y), .val (.ref y)] [.ref x])) := (c6.trans (st7 _ (Steps.refl _))).trans (by
      refine XS.ifNo X7.here hexec rfl (hb hbytes d22) rfl (i0_eq_f hz) ?_
      refine XS.aloadN X7.here hexec rfl (hb hbytes d25) rfl rfl ?_
      exact Steps.refl _)
    obtain ⟨T9, X9, q9, st9⟩ := X7.hget hexec hown (wk W (.fieldLink "java/lang/String" 15 "java/lang/String" "coder" "B")) (hx.mv X7.warmed.alike hh7).2.2.1 (g := (mkF m 26 #[.val (.ref x), .val (.ref y), .val (.ref y)] [.ref x])) rfl (rest := []) rfl (hb hbytes d26)
    have hh9 := q9.trans hh7
    have c10 : Steps p.tables e below (s₁.setTop (entryFrame m #[.ref x, .ref y] 3)) (T9.setTop (mkF m 30 #[.val (.ref x), .val (.ref y), .val (.ref y)] [.ref y, .int cd])) := (c8.trans (st9 _ (Steps.refl _))).trans (by
      refine XS.aloadN X9.here hexec rfl (hb hbytes d29) rfl rfl ?_
      exact Steps.refl _)
    obtain ⟨T11, X11, q11, st11⟩ := X9.hget hexec hown (wk W (.fieldLink "java/lang/String" 15 "java/lang/String" "coder" "B")) (hy.mv X9.warmed.alike hh9).2.2.1 (g := (mkF m 30 #[.val (.ref x), .val (.ref y), .val (.ref y)] [.ref y, .int cd])) rfl (rest := [.int cd]) rfl (hb hbytes d30)
    have hh11 := q11.trans hh9
    have c12 : Steps p.tables e below (s₁.setTop (entryFrame m #[.ref x, .ref y] 3)) (T11.setTop (mkF m 33 #[.val (.ref x), .val (.ref y), .val (.ref y)] [.int cd', .int cd])) := c10.trans (st11 _ (Steps.refl _))
    by_cases hcd : cd = cd'
    · subst hcd
      have c13 : Steps p.tables e below (s₁.setTop (entryFrame m #[.ref x, .ref y] 3)) (T11.setTop (mkF m 37 #[.val (.ref x), .val (.ref y), .val (.ref y)] [.ref x])) := c12.trans (by
        refine XS.icmpNo X11.here hexec rfl (hb hbytes d33) rfl (ii_ne_f rfl) ?_
        refine XS.aloadN X11.here hexec rfl (hb hbytes d36) rfl rfl ?_
        exact Steps.refl _)
      obtain ⟨T14, X14, q14, st14⟩ := X11.hget hexec hown (wk W (.fieldLink "java/lang/String" 9 "java/lang/String" "value" "[B")) (hx.mv X11.warmed.alike hh11).2.1 (g := (mkF m 37 #[.val (.ref x), .val (.ref y), .val (.ref y)] [.ref x])) rfl (rest := []) rfl (hb hbytes d37)
      have hh14 := q14.trans hh11
      have c15 : Steps p.tables e below (s₁.setTop (entryFrame m #[.ref x, .ref y] 3)) (T14.setTop (mkF m 41 #[.val (.ref x), .val (.ref y), .val (.ref y)] [.ref y, .ref t])) := (c13.trans (st14 _ (Steps.refl _))).trans (by
        refine XS.aloadN X14.here hexec rfl (hb hbytes d40) rfl rfl ?_
        exact Steps.refl _)
      obtain ⟨T16, X16, q16, st16⟩ := X14.hget hexec hown (wk W (.fieldLink "java/lang/String" 9 "java/lang/String" "value" "[B")) (hy.mv X14.warmed.alike hh14).2.1 (g := (mkF m 41 #[.val (.ref x), .val (.ref y), .val (.ref y)] [.ref y, .ref t])) rfl (rest := [.ref t]) rfl (hb hbytes d41)
      have hh16 := q16.trans hh14
      have c17 : Steps p.tables e below (s₁.setTop (entryFrame m #[.ref x, .ref y] 3)) (T16.setTop (mkF m 44 #[.val (.ref x), .val (.ref y), .val (.ref y)] [.ref t', .ref t])) := c15.trans (st16 _ (Steps.refl _))
      obtain ⟨v18, T18, X18, E18, g18⟩ := X16.callS hexec (LEq.law l t V t' V') hown (wks W (staticW "java/lang/String" 541 LEq.yN)) (wk W LEq.tab) (W := 0) (Nat.le_of_ble_eq_true rfl) (Nat.le_of_ble_eq_true rfl) (Nat.le_refl _) (Nat.le_refl _) (g := (mkF m 44 #[.val (.ref x), .val (.ref y), .val (.ref y)] [.ref t', .ref t])) rfl (by rw [hml]; rfl) c17 (argsL := [.ref t, .ref t']) (rest := []) rfl rfl (by show 2 * 0 + 0 ≤ _; decide) (hb hbytes d44) (⟨rfl, hx.2.2.2.1.mv X16.warmed.alike hh16, hx.2.2.2.2.1.ty, hy.2.2.2.1.mv X16.warmed.alike hh16, hy.2.2.2.2.1.ty⟩)
      obtain ⟨v, rfl, q18, hv⟩ := E18
      have iff := Cod.eqv hx.2.2.2.2.1 hy.2.2.2.2.1 hx.2.2.2.2.2 hy.2.2.2.2.2
      rcases hv with ⟨rfl, he⟩ | ⟨rfl, he⟩
      · have c19 : Steps p.tables e below (s₁.setTop (entryFrame m #[.ref x, .ref y] 3)) (T18.setTop (mkF m 55 #[.val (.ref x), .val (.ref y), .val (.ref y)] [.int 1])) := Steps.trans g18 (by
          refine XS.ifNo X18.here hexec rfl (hb hbytes d47) rfl (i0_eq_f (by decide)) ?_
          refine iconstV X18.here hexec rfl 1 (hb hbytes d50) (by decide) ?_
          refine XS.goto X18.here hexec rfl (pc0 := 51) rfl (hb hbytes d51) (by decide) rfl ?_
          exact Steps.refl _)
        exact ⟨T18, some (.int 1), _, _, _, X18, rfl, rfl, rfl, (fun h => by cases h), ⟨1, rfl, q18.trans hh16, Or.inl ⟨rfl, iff.mp he⟩⟩, fun fs hl => c19.trans (X18.ireturnOut hexec hret rfl (Or.inr (Or.inl rfl)) (hb hbytes d55) hl)⟩
      · have c19 : Steps p.tables e below (s₁.setTop (entryFrame m #[.ref x, .ref y] 3)) (T18.setTop (mkF m 55 #[.val (.ref x), .val (.ref y), .val (.ref y)] [.int 0])) := Steps.trans g18 (by
          refine XS.ifYes X18.here hexec rfl (pc0 := 47) rfl (hb hbytes d47) rfl (i0_eq_t rfl) (by decide) rfl ?_
          refine iconstV X18.here hexec rfl 0 (hb hbytes d54) (by decide) ?_
          exact Steps.refl _)
        exact ⟨T18, some (.int 0), _, _, _, X18, rfl, rfl, rfl, (fun h => by cases h), ⟨0, rfl, q18.trans hh16, Or.inr ⟨rfl, fun q => he (iff.mpr q)⟩⟩, fun fs hl => c19.trans (X18.ireturnOut hexec hret rfl (Or.inr (Or.inl rfl)) (hb hbytes d55) hl)⟩
    · have c13 : Steps p.tables e below (s₁.setTop (entryFrame m #[.ref x, .ref y] 3)) (T11.setTop (mkF m 55 #[.val (.ref x), .val (.ref y), .val (.ref y)] [.int 0])) := c12.trans (by
        refine XS.icmpYes X11.here hexec rfl (pc0 := 33) rfl (hb hbytes d33) rfl (ii_ne_t hcd) (by decide) rfl ?_
        refine iconstV X11.here hexec rfl 0 (hb hbytes d54) (by decide) ?_
        exact Steps.refl _)
      exact ⟨T11, some (.int 0), _, _, _, X11, rfl, rfl, rfl, (fun h => by cases h), ⟨0, rfl, hh11, Or.inr ⟨rfl, Cod.dif hx.2.2.2.2.1 hy.2.2.2.2.1 hcd⟩⟩, fun fs hl => c13.trans (X11.ireturnOut hexec hret rfl (Or.inr (Or.inl rfl)) (hb hbytes d55) hl)⟩
theorem pays {l : Launch} {R : Room} {p : Program} {e : Env} {below : List Frame} {s : State} {sargs : Array Value} {len W : Nat} (x t : Addr) (V : Cell) (cd : Int32) (n : Nat) (f : Nat → Int32) (y t' : Addr) (V' : Cell) (cd' : Int32) (k : Nat) (g : Nat → Int32) (z : Int32) (htab : tab.before sargs s = true) (hfr : 2 ≤ R.frames) (hlo : W + 28 ≤ R.locals) :
    Back l R p e below s sargs yN len W (fun A₁ a₁ => A₁.cells + 0 ≤ R.cells ∧ A₁.slots + 0 ≤ R.slots ∧ P x t V cd n f y t' V' cd' k g z a₁ A₁.U) (fun A₁ _ v₁ B₁ => Says01 (SameT n f k g) v₁ A₁.U B₁.U ∧ B₁.locs = A₁.locs ++ [] ∧ B₁.cells = A₁.cells + 0 ∧ B₁.slots = A₁.slots + 0) :=
  (law l x t V cd n f y t' V' cd' k g z).pays htab hfr (by omega)
end SEq
end StrChars
namespace StrChars.Road
open Jvm Sem ClassFile Op Lib Jvm.Stand Jvm.Free Jvm.Free.XT
open Jvm.Lib.Cold (StaticIs)
/-- the words of String.isEmpty() -/
abbrev wordsEmp : List Jvm.Cond := [.code Emp.yN Emp.yB 1 (some .boolean), .initialized ST, .fieldLink ST 9 ST "value" "[B"]
theorem tabEmp_of {a : Array Value} {s : State} (h : ∀ w ∈ wordsEmp, w.before a s = true) : Emp.tab.before a s = true := unparts (wk h (.code Emp.yN Emp.yB 1 (some .boolean))) (wks h (.initialized Emp.yN.cls :: Emp.site))
theorem movedEmp {Z s : State} {a0 args : Array Value} (hZ : Z.Warmed39 s.vm) (hw : ∀ d ∈ wordsEmp, d.before a0 Z = true) : ∀ d ∈ wordsEmp, d.before args s = true := fun d hd => by
  have t : ∀ d ∈ wordsEmp, (d.onTables && d.keepsFace) = true := by decide +kernel
  exact RoadKit.mv hZ (hw d hd) (t d hd)
/-- the words of String.equals(Object) -/
abbrev wordsEq : List Jvm.Cond := [.code SEq.yN SEq.yB 3 (some .boolean), .initialized ST, .classLink ST 10 ST, .fieldLink ST 38 ST "COMPACT_STRINGS" "Z", .fieldLink ST 15 ST "coder" "B", .fieldLink ST 9 ST "value" "[B", .methodLink ST 541 LEq.yN, .static LEq.yN, .code LEq.yN LEq.yB 3 (some .boolean), .initialized "java/lang/StringLatin1"]
theorem tabEq_of {a : Array Value} {s : State} (h : ∀ w ∈ wordsEq, w.before a s = true) : SEq.tab.before a s = true := by
  have hl : LEq.tab.before a s = true := unparts (wk h (.code LEq.yN LEq.yB 3 (some .boolean))) (wks h (.initialized LEq.yN.cls :: LEq.site))
  have q := consq hl h
  exact unparts (wk q (.code SEq.yN SEq.yB 3 (some .boolean))) (wks q (.initialized SEq.yN.cls :: SEq.site))
theorem movedEq {Z s : State} {a0 args : Array Value} (hZ : Z.Warmed39 s.vm) (hw : ∀ d ∈ wordsEq, d.before a0 Z = true) : ∀ d ∈ wordsEq, d.before args s = true := fun d hd => by
  have t : ∀ d ∈ wordsEq, (d.onTables && d.keepsFace) = true := by decide +kernel
  exact RoadKit.mv hZ (hw d hd) (t d hd)
/-- the road's facts of a String, as the laws ask it -/
theorem txt_of {Z U : State} {a0 : Array Value} {kI : Nat} (wi : (Jvm.Cond.instantiable ST kI).before a0 Z = true) (al : Z.vm.Alike U.vm) {x t : Addr} {kb : ClassId} {cs : List Int32} {cd N2 : Int32} {vs : List Value} (E : RoadKit.Exa Z U.heap x ST) (V : RoadKit.Fld Z U.heap x ST "value" "[B" (.ref t)) (C : RoadKit.Fld Z U.heap x ST "coder" "B" (.int cd)) (K : RoadKit.Arv Z U.heap t kb .byte N2 vs (.int 0)) (hc : CodA cs cd N2 vs) (hb : ∀ c ∈ cs, ¬ c < 0 ∧ ¬ (65535 : Int32) < c) (l2 : cs.length ≤ 4000) :
    ∃ A, Txt x t A cd cs.length (fun j => cs.getD j 0) U := by
  obtain ⟨A, K1, K2, K3, K4, K5, K6⟩ := K
  have hcod := hc.cod (by omega) K3 K5
  obtain ⟨D, fV, fC, hB, F1, F2, g1, g2, -, -⟩ := strObj wi al E V C
  exact ⟨A, ⟨_, hB.2.2.1, D, hB.1, rfl, by cases q : D.vm <;> first | rfl | exact absurd q (hB.2.1.2 _)⟩, Has.of hB F1 g1, Has.of hB F2 g2, ⟨K1.1, State.isArrayOf_alike al K1.2.1, K1.2.2, by rcases hcod with ⟨-, q, -⟩ | ⟨-, q, -⟩ <;> omega⟩, hcod, fun j hj => by
    have e : cs.getD j 0 = cs[j] := by simp [List.getD_eq_getElem?_getD, hj]
    show ¬ cs.getD j 0 < 0 ∧ ¬ 65535 < cs.getD j 0
    rw [e]; exact hb _ (List.getElem_mem _)⟩
theorem same_list (cs ds : List Int32) : SameT cs.length (fun j => cs.getD j 0) ds.length (fun j => ds.getD j 0) ↔ cs = ds := by
  constructor
  · rintro ⟨e, q⟩
    refine List.ext_getElem e fun j h1 h2 => ?_
    have := q j h1
    simpa [List.getD_eq_getElem?_getD, h1, h2] using this
  · rintro rfl
    exact ⟨rfl, fun _ _ => rfl⟩
/-- **isEmpty() OF SUCH A STRING** -/
theorem empW {p : Program} {l : Launch} {e : Env} {R : Room} {s : State} {args : Array Value} {below : List Frame} {len W : Nat} {Z : State} {a0 : Array Value} {h : Heap} (hZ : Z.Warmed39 s.vm) (hw : ∀ d ∈ wordsEmp, d.before a0 Z = true) {kI : Nat} (wi : (Jvm.Cond.instantiable ST kI).before a0 Z = true)
    {x t : Addr} {kb : ClassId} {cs : List Int32} {cd N2 : Int32} {vs : List Value} (E : RoadKit.Exa Z h x ST) (V : RoadKit.Fld Z h x ST "value" "[B" (.ref t)) (C : RoadKit.Fld Z h x ST "coder" "B" (.int cd)) (K : RoadKit.Arv Z h t kb .byte N2 vs (.int 0)) (hc : CodA cs cd N2 vs) (hb : ∀ c ∈ cs, ¬ c < 0 ∧ ¬ (65535 : Int32) < c) (l2 : cs.length ≤ 4000) (hfr : 1 ≤ R.frames) (hlo : W + 12 ≤ R.locals) :
    Back l R p e below s args (⟨"java/lang/String", "isEmpty", "()Z"⟩ : MethodName) len W (fun P a => a = #[.ref x] ∧ P.U.heap = h ∧ P.cells + 0 ≤ R.cells ∧ P.slots + 0 ≤ R.slots)
      (fun P _ v B => ∃ L, (v = some (.int (if cs.length = 0 then 1 else 0)) ∧ L = [] ∧ B.U.heap = h) ∧ B.locs = P.locs ++ L ∧ B.cells = P.cells + 0 ∧ B.slots = P.slots + 0) := by
  intro m meth c P g ig mk a X hg hsize hdg hW hn hp'
  obtain ⟨rfl, rfl, r1, r2⟩ := hp'
  have al : Z.vm.Alike P.U.vm := hZ.alike.trans X.warmed.alike
  obtain ⟨A, hx⟩ := txt_of wi al E V C K hc hb l2
  obtain ⟨v, B, X', ⟨⟨hv, hh⟩, hl, hk, hs⟩, st⟩ := Emp.pays x t A cd cs.length (fun j => cs.getD j 0) (tabEmp_of (movedEmp hZ hw)) hfr hlo m meth c P g ig mk _ X hg hsize hdg hW hn ⟨r1, r2, rfl, hx⟩
  exact ⟨v, B, X', ⟨[], ⟨hv, rfl, hh⟩, hl, hk, hs⟩, st⟩
/-- **equals(Object) OF TWO SUCH STRINGS**: 1 just where the chars are the same -/
theorem eqW {p : Program} {l : Launch} {e : Env} {R : Room} {s : State} {args : Array Value} {below : List Frame} {len W : Nat} {Z : State} {a0 : Array Value} {h : Heap} (hZ : Z.Warmed39 s.vm) (hw : ∀ d ∈ wordsEq, d.before a0 Z = true) {kI : Nat} (wi : (Jvm.Cond.instantiable ST kI).before a0 Z = true)
    {x t : Addr} {kb : ClassId} {cs : List Int32} {cd N2 : Int32} {vs : List Value} (E : RoadKit.Exa Z h x ST) (V : RoadKit.Fld Z h x ST "value" "[B" (.ref t)) (C : RoadKit.Fld Z h x ST "coder" "B" (.int cd)) (K : RoadKit.Arv Z h t kb .byte N2 vs (.int 0)) (hc : CodA cs cd N2 vs) (hb : ∀ c ∈ cs, ¬ c < 0 ∧ ¬ (65535 : Int32) < c) (l2 : cs.length ≤ 4000)
    {y t' : Addr} {kb' : ClassId} {ds : List Int32} {cd' N2' : Int32} {vs' : List Value} (E' : RoadKit.Exa Z h y ST) (V' : RoadKit.Fld Z h y ST "value" "[B" (.ref t')) (C' : RoadKit.Fld Z h y ST "coder" "B" (.int cd')) (K' : RoadKit.Arv Z h t' kb' .byte N2' vs' (.int 0)) (hc' : CodA ds cd' N2' vs') (hb' : ∀ c ∈ ds, ¬ c < 0 ∧ ¬ (65535 : Int32) < c) (l2' : ds.length ≤ 4000)
    {z : Int32} (S : RoadKit.Sta Z h ST "COMPACT_STRINGS" "Z" (.int z)) (hz : ¬ z = 0) (hfr : 2 ≤ R.frames) (hlo : W + 28 ≤ R.locals) :
    Back l R p e below s args (⟨"java/lang/String", "equals", "(Ljava/lang/Object;)Z"⟩ : MethodName) len W (fun P a => a = #[.ref x, .ref y] ∧ P.U.heap = h ∧ P.cells + 0 ≤ R.cells ∧ P.slots + 0 ≤ R.slots)
      (fun P _ v B => ∃ L, (((v = some (.int 1) ∧ cs = ds) ∨ (v = some (.int 0) ∧ ¬ cs = ds)) ∧ L = [] ∧ B.U.heap = h) ∧ B.locs = P.locs ++ L ∧ B.cells = P.cells + 0 ∧ B.slots = P.slots + 0) := by
  intro m meth c P g ig mk a X hg hsize hdg hW hn hp'
  obtain ⟨rfl, rfl, r1, r2⟩ := hp'
  have al : Z.vm.Alike P.U.vm := hZ.alike.trans X.warmed.alike
  obtain ⟨A, hx⟩ := txt_of wi al E V C K hc hb l2
  obtain ⟨A', hy⟩ := txt_of wi al E' V' C' K' hc' hb' l2'
  obtain ⟨v, B, X', ⟨⟨w, hv, hh, hq⟩, hl, hk, hs⟩, st⟩ := SEq.pays x t A cd cs.length (fun j => cs.getD j 0) y t' A' cd' ds.length (fun j => ds.getD j 0) z (tabEq_of (movedEq hZ hw)) hfr hlo m meth c P g ig mk _ X hg hsize hdg hW hn ⟨r1, r2, rfl, hx, hy, sta_is al S, hz⟩
  refine ⟨v, B, X', ⟨[], ⟨?_, rfl, hh⟩, hl, hk, hs⟩, st⟩
  rcases hq with ⟨rfl, q⟩ | ⟨rfl, q⟩
  · exact Or.inl ⟨hv, (same_list cs ds).mp q⟩
  · exact Or.inr ⟨hv, fun e => q ((same_list cs ds).mpr e)⟩
end StrChars.Road
namespace StrChars
open Jvm Sem ClassFile Op Lib Jvm.Stand Jvm.Free.XT Jvm.Free.ALB Jvm.Free.JM Jvm.Free
open Jvm.Lib.Cold (StaticIs)
namespace ChN
def yN : MethodName := ⟨"java/lang/String", "charAt", "(I)C"⟩
abbrev yB : ByteArray := jdk_42_method_56_code
theorem d0 : decode yB 0 = .ok (.aload_n 0, 1) := by decide +kernel
theorem d1 : decode yB 1 = .ok (.invokevirtual 492, 3) := by decide +kernel
theorem d4 : decode yB 4 = .ok (.ifCond (.eq) 12, 3) := by decide +kernel
theorem d7 : decode yB 7 = .ok (.aload_n 0, 1) := by decide +kernel
theorem d8 : decode yB 8 = .ok (.getfield 9, 3) := by decide +kernel
theorem d11 : decode yB 11 = .ok (.iload_n 1, 1) := by decide +kernel
theorem d12 : decode yB 12 = .ok (.invokestatic 495, 3) := by decide +kernel
theorem d15 : decode yB 15 = .ok (.ireturn, 1) := by decide +kernel
def site : List Cond := [.fieldLink "java/lang/String" 9 "java/lang/String" "value" "[B", IsL.tab, LChA.tab] ++ virtW "java/lang/String" 492 "java/lang/String" IsL.yN IsL.yN ++ staticW "java/lang/String" 495 LChA.yN
def tab : Cond := tabOf yN yB 2 (some .char) site
def P (x t : Addr) (V : Cell) (n : Nat) (f : Nat → Int32) (z : Int32) (fm : Value) (i : Nat) (args : Array Value) (s : State) : Prop := args = #[.ref x, .int (Int32.ofNat i)] ∧ Txt x t V 0 n f s ∧ i < n ∧ StaticIs s "java/lang/String" "COMPACT_STRINGS" "Z" (.int z) ∧ ¬ z = 0 ∧ StaticIs s "jdk/internal/util/Preconditions" "SIOOBE_FORMATTER" "Ljava/util/function/BiFunction;" fm ∧ fm.isRef = true
def E (f : Nat → Int32) (i : Nat) (r : Option Value) (s u : State) : Prop := XT.PureE (some (.int (f i))) r s u
/-- charAt(i) of a Latin-1 String of n chars, i < n: f i -/
theorem law (l : Launch) (x t : Addr) (V : Cell) (n : Nat) (f : Nat → Int32) (z : Int32) (fm : Value) (i : Nat) : Law l yN 2 1 3 40 yB 2 (some .char) site (P x t V n f z fm i) (E f i) [] 0 0 := by
  refine Law.of_walk (plainFor_of_name (by decide +kernel)) (by decide +kernel) (by decide +kernel) (by decide) (fun _ _ h => by rw [h.1]; rfl) (fun _ U U' hal hh h => ⟨h.1, h.2.1.mv hal hh, h.2.2.1, h.2.2.2.1.there hal hh, h.2.2.2.2.1, h.2.2.2.2.2.1.there hal hh, h.2.2.2.2.2.2⟩) (fun r U U' V V' h1 hal h2 h => XT.PureE.mv r U U' V V' h1 hal h2 h) ?_
  intro p e s m args below meth c s₁ X0 hexec hbytes hml hret hlk hnm hown hh0 W hP
  obtain ⟨rfl, hx, hi, s1, hz, s3, rf⟩ := hP
  have v31 := hx.2.2.2.1.2.2.2
  have hr := hx.2.2.2.2.2 i hi
  have hx0 := hx.mv X0.warmed.alike hh0
  have c1 : Steps p.tables e below (s₁.setTop (entryFrame m #[.ref x, .int (Int32.ofNat i)] 2)) (s₁.setTop (mkF m 1 #[.val (.ref x), .val (.int (Int32.ofNat i))] [.ref x])) := Steps.trans (entry rfl) (by
    show Steps p.tables e below (s₁.setTop (mkF m 0 #[.val (.ref x), .val (.int (Int32.ofNat i))] [])) _
    refine XS.aloadN X0.here hexec rfl (hb hbytes d0) rfl rfl ?_
    exact Steps.refl _)
  obtain ⟨v2, T2, X2, E2, g2⟩ := X0.callV hexec (IsL.law l x 0 z) hown (wks W (virtW "java/lang/String" 492 "java/lang/String" IsL.yN IsL.yN)) rfl (by decide) (wk W IsL.tab) (W := 0) (Nat.le_of_ble_eq_true rfl) (Nat.le_of_ble_eq_true rfl) (Nat.le_refl _) (Nat.le_refl _) (hx0.1.fc X0.warmed.alike) hx0.1.is (g := (mkF m 1 #[.val (.ref x), .val (.int (Int32.ofNat i))] [.ref x])) rfl (by rw [hml]; rfl) c1 (argsL := []) (rest := []) rfl rfl (by show 2 * 0 + 0 ≤ _; decide) (hb hbytes d1) (⟨rfl, hx0.2.2.1, hx.2.2.2.2.1.cd, s1.there X0.warmed.alike hh0, hz⟩)
  obtain ⟨rfl, q2⟩ := E2
  have hh2 := q2.trans hh0
  have hx2 := hx.mv X2.warmed.alike hh2
  obtain ⟨-, k1, k2⟩ | ⟨k0, -⟩ := hx.2.2.2.2.1
  · have c3 : Steps p.tables e below (s₁.setTop (entryFrame m #[.ref x, .int (Int32.ofNat i)] 2)) (T2.setTop (mkF m 8 #[.val (.ref x), .val (.int (Int32.ofNat i))] [.ref x])) := Steps.trans g2 (by
      refine XS.ifNo X2.here hexec rfl (hb hbytes d4) rfl (i0_eq_f (by decide)) ?_
      refine XS.aloadN X2.here hexec rfl (hb hbytes d7) rfl rfl ?_
      exact Steps.refl _)
    obtain ⟨T4, X4, q4, st4⟩ := X2.hget hexec hown (wk W (.fieldLink "java/lang/String" 9 "java/lang/String" "value" "[B")) hx2.2.1 (g := (mkF m 8 #[.val (.ref x), .val (.int (Int32.ofNat i))] [.ref x])) rfl (rest := []) rfl (hb hbytes d8)
    have hh4 := q4.trans hh2
    have c5 : Steps p.tables e below (s₁.setTop (entryFrame m #[.ref x, .int (Int32.ofNat i)] 2)) (T4.setTop (mkF m 12 #[.val (.ref x), .val (.int (Int32.ofNat i))] [.int (Int32.ofNat i), .ref t])) := (c3.trans (st4 _ (Steps.refl _))).trans (by
      refine XS.iloadN X4.here hexec rfl (hb hbytes d11) rfl ?_
      exact Steps.refl _)
    obtain ⟨v6, T6, X6, E6, g6⟩ := X4.callS hexec (LChA.law l t V i (lo8 (f i)) fm) hown (wks W (staticW "java/lang/String" 495 LChA.yN)) (wk W LChA.tab) (W := 0) (Nat.le_of_ble_eq_true rfl) (Nat.le_of_ble_eq_true rfl) (Nat.le_refl _) (Nat.le_refl _) (g := (mkF m 12 #[.val (.ref x), .val (.int (Int32.ofNat i))] [.int (Int32.ofNat i), .ref t])) rfl (by rw [hml]; rfl) c5 (argsL := [.ref t, .int (Int32.ofNat i)]) (rest := []) rfl rfl (by show 2 * 0 + 0 ≤ _; decide) (hb hbytes d12) (⟨rfl, hx.2.2.2.1.mv X4.warmed.alike hh4, (k2 i hi).1, s3.there X4.warmed.alike hh4, rf⟩)
    obtain ⟨rfl, q6⟩ := E6
    rw [chr8_lo8 hr.1 (k2 i hi).2] at g6
    exact ⟨T6, some (.int (f i)), _, _, _, X6, rfl, rfl, rfl, (fun h => by cases h), ⟨rfl, q6.trans hh4⟩, fun fs hl => Steps.trans g6 (X6.ireturnOut hexec hret (narrow_ch hr.1 hr.2) (Or.inr (Or.inr (Or.inr (Or.inl rfl)))) (hb hbytes d15) hl)⟩
  · exact absurd k0 (by decide)
theorem pays {l : Launch} {R : Room} {p : Program} {e : Env} {below : List Frame} {s : State} {sargs : Array Value} {len W : Nat} (x t : Addr) (V : Cell) (n : Nat) (f : Nat → Int32) (z : Int32) (fm : Value) (i : Nat) (htab : tab.before sargs s = true) (hfr : 4 ≤ R.frames) (hlo : W + 53 ≤ R.locals) :
    Back l R p e below s sargs yN len W (fun A₁ a₁ => A₁.cells + 0 ≤ R.cells ∧ A₁.slots + 0 ≤ R.slots ∧ P x t V n f z fm i a₁ A₁.U) (fun A₁ _ v₁ B₁ => E f i v₁ A₁.U B₁.U ∧ B₁.locs = A₁.locs ++ [] ∧ B₁.cells = A₁.cells + 0 ∧ B₁.slots = A₁.slots + 0) :=
  (law l x t V n f z fm i).pays htab hfr (by omega)
end ChN
end StrChars
namespace StrChars.Road
open Jvm Sem ClassFile Op Lib Jvm.Stand Jvm.Free Jvm.Free.XT
open Jvm.Lib.Cold (StaticIs)
/-- the words of String.charAt(int), the Latin-1 road alone -/
abbrev wordsChN : List Jvm.Cond := [.code ChN.yN ChN.yB 2 (some .char), .initialized ST, .fieldLink ST 9 ST "value" "[B", .fieldLink ST 38 ST "COMPACT_STRINGS" "Z", .fieldLink ST 15 ST "coder" "B", .code IsL.yN IsL.yB 1 (some .boolean), .methodLink ST 492 IsL.yN, .declares IsL.yN, .selects ST IsL.yN IsL.yN, .instanceMethod IsL.yN,
  .methodLink ST 495 LChA.yN, .static LChA.yN, .code LChA.yN LChA.yB 2 (some .char), .initialized "java/lang/StringLatin1", .methodLink "java/lang/StringLatin1" 9 JO.Str_checkIndex.yN, .static JO.Str_checkIndex.yN, .code JO.Str_checkIndex.yN JO.Str_checkIndex.yB 2 none,
  .fieldLink ST 1053 "jdk/internal/util/Preconditions" "SIOOBE_FORMATTER" "Ljava/util/function/BiFunction;", .methodLink ST 1059 JC.PreCheck.yN, .static JC.PreCheck.yN, .code JC.PreCheck.yN JC.PreCheck.yB 3 (some .int), .initialized "jdk/internal/util/Preconditions"]
theorem tabChN_of {a : Array Value} {s : State} (h : ∀ w ∈ wordsChN, w.before a s = true) : ChN.tab.before a s = true := by
  have hp : JC.PreCheck.tab.before a s = true := unparts (wk h (.code JC.PreCheck.yN JC.PreCheck.yB 3 (some .int))) (wks h (.initialized JC.PreCheck.yN.cls :: JC.PreCheck.site))
  have qk := consq hp h
  have hk : JO.Str_checkIndex.tab.before a s = true := unparts (wk qk (.code JO.Str_checkIndex.yN JO.Str_checkIndex.yB 2 none)) (wks qk (.initialized JO.Str_checkIndex.yN.cls :: JO.Str_checkIndex.site))
  have ql := consq hk h
  have hl : LChA.tab.before a s = true := unparts (wk ql (.code LChA.yN LChA.yB 2 (some .char))) (wks ql (.initialized LChA.yN.cls :: LChA.site))
  have hi : IsL.tab.before a s = true := unparts (wk h (.code IsL.yN IsL.yB 1 (some .boolean))) (wks h (.initialized IsL.yN.cls :: IsL.site))
  have q := consq hi (consq hl h)
  exact unparts (wk q (.code ChN.yN ChN.yB 2 (some .char))) (wks q (.initialized ChN.yN.cls :: ChN.site))
theorem movedChN {Z s : State} {a0 args : Array Value} (hZ : Z.Warmed39 s.vm) (hw : ∀ d ∈ wordsChN, d.before a0 Z = true) : ∀ d ∈ wordsChN, d.before args s = true := fun d hd => by
  have t : ∀ d ∈ wordsChN, (d.onTables && d.keepsFace) = true := by decide +kernel
  exact RoadKit.mv hZ (hw d hd) (t d hd)
/-- **charAt(i) OF A LATIN-1 STRING**, i < n: the char -/
theorem chN {p : Program} {l : Launch} {e : Env} {R : Room} {s : State} {args : Array Value} {below : List Frame} {len W : Nat} {Z : State} {a0 : Array Value} {h : Heap} (hZ : Z.Warmed39 s.vm) (hw : ∀ d ∈ wordsChN, d.before a0 Z = true) {kI : Nat} (wi : (Jvm.Cond.instantiable ST kI).before a0 Z = true)
    {x t : Addr} {kb : ClassId} {cs : List Int32} {N2 z : Int32} {vs : List Value} {fm : Value} {i : Nat} {j : Int32} (E : RoadKit.Exa Z h x ST) (V : RoadKit.Fld Z h x ST "value" "[B" (.ref t)) (C : RoadKit.Fld Z h x ST "coder" "B" (.int 0)) (K : RoadKit.Arv Z h t kb .byte N2 vs (.int 0)) (hc : CodA cs 0 N2 vs) (hb : ∀ c ∈ cs, ¬ c < 0 ∧ ¬ (65535 : Int32) < c)
    (S : RoadKit.Sta Z h ST "COMPACT_STRINGS" "Z" (.int z)) (hz : ¬ z = 0) (F : RoadKit.Sta Z h "jdk/internal/util/Preconditions" "SIOOBE_FORMATTER" "Ljava/util/function/BiFunction;" fm) (rf : fm.isRef = true) (l2 : cs.length ≤ 4000) (hi : i < cs.length) (hj : j = Int32.ofNat i) (hfr : 4 ≤ R.frames) (hlo : W + 53 ≤ R.locals) :
    Back l R p e below s args (⟨"java/lang/String", "charAt", "(I)C"⟩ : MethodName) len W (fun P a => a = #[.ref x, .int j] ∧ P.U.heap = h ∧ P.cells + 0 ≤ R.cells ∧ P.slots + 0 ≤ R.slots)
      (fun P _ v B => ∃ L, (v = some (.int (cs.getD i 0)) ∧ L = [] ∧ B.U.heap = h) ∧ B.locs = P.locs ++ L ∧ B.cells = P.cells + 0 ∧ B.slots = P.slots + 0) := by
  subst hj
  intro m meth c P g ig mk a X hg hsize hdg hW hn hp'
  obtain ⟨rfl, rfl, r1, r2⟩ := hp'
  have al : Z.vm.Alike P.U.vm := hZ.alike.trans X.warmed.alike
  obtain ⟨A, hx⟩ := txt_of wi al E V C K hc hb l2
  obtain ⟨v, B, X', ⟨⟨hv, hh⟩, hl, hk, hs⟩, st⟩ := ChN.pays x t A cs.length (fun j => cs.getD j 0) z fm i (tabChN_of (movedChN hZ hw)) hfr hlo m meth c P g ig mk _ X hg hsize hdg hW hn ⟨r1, r2, rfl, hx, hi, sta_is al S, hz, sta_is al F, rf⟩
  exact ⟨v, B, X', ⟨[], ⟨hv, rfl, hh⟩, hl, hk, hs⟩, st⟩
/-- what backV says of its String, as the contracts of this text ask it: cs's low bytes, coder 0 -/
theorem codOf {cs : List Int32} {n : Nat} (hn : cs.length = n) (hb : ∀ c ∈ cs, ¬ 255 < c) : CodA cs 0 (Int32.ofNat n) ((cs.map lo8).map Value.int) := Or.inl ⟨rfl, by rw [hn], by simp [List.map_map, Function.comp_def], hb⟩
end StrChars.Road
end Jvm.Pilot.@@N@@

namespace Jvm.Pilot.@@N@@
open Jvm Jvm.ClassFile Sem Op Lib Jvm.Free Jvm.Stand Jvm.LawKit Jvm.RoadKit Bundle Jvm.Pilot.@@N@@.Jvm.D
theorem own_cat {v : Value} (h : v.isRef = true) : v.category = 1 := by rcases ref_cases h with rfl | ⟨_, rfl⟩ <;> rfl
theorem own_store {l : Array Slot} {i : Nat} {v : Value} {o : Slot} (ho : One o) (hv : v.category = 1) (hold : l[i]? = some o := by rfl) : storeLocals l i v = some (l.setIfInBounds i (.val v)) := XS.store1 hold ho hv

theorem wd0 {Z : State} {a0 : Array Value} (hw : ∀ d ∈ tables_1, d.before a0 Z = true) : ((Jvm.Cond.constant "com/example/oxpecker/oxpecker/MessageTemplateSoleParameterPinLaw" (12 : Nat) (2147483647 : Int32))).before a0 Z = true := hw _ (List.mem_of_getElem? (i := 0) rfl)
theorem wd1 {Z : State} {a0 : Array Value} (hw : ∀ d ∈ tables_1, d.before a0 Z = true) : ((Jvm.Cond.methodLink "com/example/oxpecker/oxpecker/MessageTemplateSoleParameterPinLaw" (13 : Nat) ({ cls := "com/example/oxpecker/oxpecker/MessageTemplateSoleParameterPinLaw", name := "ch", desc := "(I)C" } : Jvm.MethodName))).before a0 Z = true := hw _ (List.mem_of_getElem? (i := 1) rfl)
theorem wd2 {Z : State} {a0 : Array Value} (hw : ∀ d ∈ tables_1, d.before a0 Z = true) : ((Jvm.Cond.static ({ cls := "com/example/oxpecker/oxpecker/MessageTemplateSoleParameterPinLaw", name := "ch", desc := "(I)C" } : Jvm.MethodName))).before a0 Z = true := hw _ (List.mem_of_getElem? (i := 2) rfl)
theorem wd3 {Z : State} {a0 : Array Value} (hw : ∀ d ∈ tables_1, d.before a0 Z = true) : ((Jvm.Cond.initialized "com/example/oxpecker/oxpecker/MessageTemplateSoleParameterPinLaw")).before a0 Z = true := hw _ (List.mem_of_getElem? (i := 3) rfl)
theorem wd4 {Z : State} {a0 : Array Value} (hw : ∀ d ∈ tables_1, d.before a0 Z = true) : ((Jvm.Cond.code ({ cls := "com/example/oxpecker/oxpecker/MessageTemplateSoleParameterPinLaw", name := "ch", desc := "(I)C" } : Jvm.MethodName) method_2_code (2 : Nat) (Option.some Jvm.ClassFile.FieldType.char))).before a0 Z = true := hw _ (List.mem_of_getElem? (i := 4) rfl)
theorem wd5 {Z : State} {a0 : Array Value} (hw : ∀ d ∈ tables_1, d.before a0 Z = true) : ((Jvm.Cond.methodLink "com/example/oxpecker/oxpecker/MessageTemplateSoleParameterPinLaw" (19 : Nat) ({ cls := "com/example/oxpecker/oxpecker/MessageTemplateSoleParameterPinLaw", name := "make", desc := "(ICCCCC)Ljava/lang/String;" } : Jvm.MethodName))).before a0 Z = true := hw _ (List.mem_of_getElem? (i := 5) rfl)
theorem wd6 {Z : State} {a0 : Array Value} (hw : ∀ d ∈ tables_1, d.before a0 Z = true) : ((Jvm.Cond.static ({ cls := "com/example/oxpecker/oxpecker/MessageTemplateSoleParameterPinLaw", name := "make", desc := "(ICCCCC)Ljava/lang/String;" } : Jvm.MethodName))).before a0 Z = true := hw _ (List.mem_of_getElem? (i := 6) rfl)
theorem wd7 {Z : State} {a0 : Array Value} (hw : ∀ d ∈ tables_1, d.before a0 Z = true) : ((Jvm.Cond.code ({ cls := "com/example/oxpecker/oxpecker/MessageTemplateSoleParameterPinLaw", name := "make", desc := "(ICCCCC)Ljava/lang/String;" } : Jvm.MethodName) method_4_code (6 : Nat) (Option.some (Jvm.ClassFile.FieldType.object "java/lang/String")))).before a0 Z = true := hw _ (List.mem_of_getElem? (i := 7) rfl)
theorem wd8 {Z : State} {a0 : Array Value} (hw : ∀ d ∈ tables_1, d.before a0 Z = true) : ((Jvm.Cond.classLink "com/example/oxpecker/oxpecker/MessageTemplateSoleParameterPinLaw" (7 : Nat) "java/lang/String")).before a0 Z = true := hw _ (List.mem_of_getElem? (i := 8) rfl)
theorem wd9 {Z : State} {a0 : Array Value} (hw : ∀ d ∈ tables_1, d.before a0 Z = true) : ((Jvm.Cond.instantiable "java/lang/String" (4 : Nat))).before a0 Z = true := hw _ (List.mem_of_getElem? (i := 9) rfl)
theorem wd10 {Z : State} {a0 : Array Value} (hw : ∀ d ∈ tables_1, d.before a0 Z = true) : ((Jvm.Cond.initialized "java/lang/String")).before a0 Z = true := hw _ (List.mem_of_getElem? (i := 10) rfl)
theorem wd11 {Z : State} {a0 : Array Value} (hw : ∀ d ∈ tables_1, d.before a0 Z = true) : ((Jvm.Cond.arrayClass Jvm.ClassFile.FieldType.char)).before a0 Z = true := hw _ (List.mem_of_getElem? (i := 11) rfl)
theorem wd12 {Z : State} {a0 : Array Value} (hw : ∀ d ∈ tables_1, d.before a0 Z = true) : ((Jvm.Cond.methodLink "com/example/oxpecker/oxpecker/MessageTemplateSoleParameterPinLaw" (9 : Nat) ({ cls := "java/lang/String", name := "<init>", desc := "([C)V" } : Jvm.MethodName))).before a0 Z = true := hw _ (List.mem_of_getElem? (i := 12) rfl)
theorem wd13 {Z : State} {a0 : Array Value} (hw : ∀ d ∈ tables_1, d.before a0 Z = true) : ((Jvm.Cond.instanceMethod ({ cls := "java/lang/String", name := "<init>", desc := "([C)V" } : Jvm.MethodName))).before a0 Z = true := hw _ (List.mem_of_getElem? (i := 13) rfl)
theorem wd14 {Z : State} {a0 : Array Value} (hw : ∀ d ∈ tables_1, d.before a0 Z = true) : ((Jvm.Cond.code ({ cls := "java/lang/String", name := "<init>", desc := "([C)V" } : Jvm.MethodName) jdk_42_method_3_code (2 : Nat) (Option.none : Option Jvm.ClassFile.FieldType))).before a0 Z = true := hw _ (List.mem_of_getElem? (i := 14) rfl)
theorem wd15 {Z : State} {a0 : Array Value} (hw : ∀ d ∈ tables_1, d.before a0 Z = true) : ((Jvm.Cond.methodLink "java/lang/String" (27 : Nat) ({ cls := "java/lang/String", name := "<init>", desc := "([CIILjava/lang/Void;)V" } : Jvm.MethodName))).before a0 Z = true := hw _ (List.mem_of_getElem? (i := 15) rfl)
theorem wd16 {Z : State} {a0 : Array Value} (hw : ∀ d ∈ tables_1, d.before a0 Z = true) : ((Jvm.Cond.instanceMethod ({ cls := "java/lang/String", name := "<init>", desc := "([CIILjava/lang/Void;)V" } : Jvm.MethodName))).before a0 Z = true := hw _ (List.mem_of_getElem? (i := 16) rfl)
theorem wd18 {Z : State} {a0 : Array Value} (hw : ∀ d ∈ tables_1, d.before a0 Z = true) : ((Jvm.Cond.code ({ cls := "java/lang/String", name := "<init>", desc := "([CIILjava/lang/Void;)V" } : Jvm.MethodName) jdk_42_method_149_code (6 : Nat) (Option.none : Option Jvm.ClassFile.FieldType))).before a0 Z = true := hw _ (List.mem_of_getElem? (i := 18) rfl)
theorem wd19 {Z : State} {a0 : Array Value} (hw : ∀ d ∈ tables_1, d.before a0 Z = true) : ((Jvm.Cond.methodLink "java/lang/String" (1 : Nat) ({ cls := "java/lang/Object", name := "<init>", desc := "()V" } : Jvm.MethodName))).before a0 Z = true := hw _ (List.mem_of_getElem? (i := 19) rfl)
theorem wd20 {Z : State} {a0 : Array Value} (hw : ∀ d ∈ tables_1, d.before a0 Z = true) : ((Jvm.Cond.instanceMethod ({ cls := "java/lang/Object", name := "<init>", desc := "()V" } : Jvm.MethodName))).before a0 Z = true := hw _ (List.mem_of_getElem? (i := 20) rfl)
theorem wd21 {Z : State} {a0 : Array Value} (hw : ∀ d ∈ tables_1, d.before a0 Z = true) : ((Jvm.Cond.code ({ cls := "java/lang/Object", name := "<init>", desc := "()V" } : Jvm.MethodName) object_method_1_code (1 : Nat) (Option.none : Option Jvm.ClassFile.FieldType))).before a0 Z = true := hw _ (List.mem_of_getElem? (i := 21) rfl)
theorem wd22 {Z : State} {a0 : Array Value} (hw : ∀ d ∈ tables_1, d.before a0 Z = true) : ((Jvm.Cond.stringLink "java/lang/String" (7 : Nat) "")).before a0 Z = true := hw _ (List.mem_of_getElem? (i := 22) rfl)
theorem wd23 {Z : State} {a0 : Array Value} (hw : ∀ d ∈ tables_1, d.before a0 Z = true) : ((Jvm.Cond.arrayClass Jvm.ClassFile.FieldType.byte)).before a0 Z = true := hw _ (List.mem_of_getElem? (i := 23) rfl)
theorem wd24 {Z : State} {a0 : Array Value} (hw : ∀ d ∈ tables_1, d.before a0 Z = true) : ((Jvm.Cond.laysFinal "java/lang/String" "java/lang/String" "value" "[B")).before a0 Z = true := hw _ (List.mem_of_getElem? (i := 24) rfl)
theorem wd25 {Z : State} {a0 : Array Value} (hw : ∀ d ∈ tables_1, d.before a0 Z = true) : ((Jvm.Cond.laysFinal "java/lang/String" "java/lang/String" "coder" "B")).before a0 Z = true := hw _ (List.mem_of_getElem? (i := 25) rfl)
theorem wd28 {Z : State} {a0 : Array Value} (hw : ∀ d ∈ tables_1, d.before a0 Z = true) : ((Jvm.Cond.fieldLink "java/lang/String" (9 : Nat) "java/lang/String" "value" "[B")).before a0 Z = true := hw _ (List.mem_of_getElem? (i := 28) rfl)
theorem wd29 {Z : State} {a0 : Array Value} (hw : ∀ d ∈ tables_1, d.before a0 Z = true) : ((Jvm.Cond.fieldLink "java/lang/String" (15 : Nat) "java/lang/String" "coder" "B")).before a0 Z = true := hw _ (List.mem_of_getElem? (i := 29) rfl)
theorem wd30 {Z : State} {a0 : Array Value} (hw : ∀ d ∈ tables_1, d.before a0 Z = true) : ((Jvm.Cond.methodLink "com/example/oxpecker/oxpecker/MessageTemplateSoleParameterPinLaw" (27 : Nat) ({ cls := "com/example/oxpecker/oxpecker/MessageTemplate", name := "soleParameter", desc := "(Ljava/lang/String;)Ljava/lang/String;" } : Jvm.MethodName))).before a0 Z = true := hw _ (List.mem_of_getElem? (i := 30) rfl)
theorem wd31 {Z : State} {a0 : Array Value} (hw : ∀ d ∈ tables_1, d.before a0 Z = true) : ((Jvm.Cond.static ({ cls := "com/example/oxpecker/oxpecker/MessageTemplate", name := "soleParameter", desc := "(Ljava/lang/String;)Ljava/lang/String;" } : Jvm.MethodName))).before a0 Z = true := hw _ (List.mem_of_getElem? (i := 31) rfl)
theorem wd32 {Z : State} {a0 : Array Value} (hw : ∀ d ∈ tables_1, d.before a0 Z = true) : ((Jvm.Cond.initialized "com/example/oxpecker/oxpecker/MessageTemplate")).before a0 Z = true := hw _ (List.mem_of_getElem? (i := 32) rfl)
theorem wd33 {Z : State} {a0 : Array Value} (hw : ∀ d ∈ tables_1, d.before a0 Z = true) : ((Jvm.Cond.code ({ cls := "com/example/oxpecker/oxpecker/MessageTemplate", name := "soleParameter", desc := "(Ljava/lang/String;)Ljava/lang/String;" } : Jvm.MethodName) prog_5_method_4_code (2 : Nat) (Option.some (Jvm.ClassFile.FieldType.object "java/lang/String")))).before a0 Z = true := hw _ (List.mem_of_getElem? (i := 33) rfl)
theorem wd34 {Z : State} {a0 : Array Value} (hw : ∀ d ∈ tables_1, d.before a0 Z = true) : ((Jvm.Cond.methodLink "com/example/oxpecker/oxpecker/MessageTemplate" (57 : Nat) ({ cls := "java/lang/String", name := "isEmpty", desc := "()Z" } : Jvm.MethodName))).before a0 Z = true := hw _ (List.mem_of_getElem? (i := 34) rfl)
theorem wd35 {Z : State} {a0 : Array Value} (hw : ∀ d ∈ tables_1, d.before a0 Z = true) : ((Jvm.Cond.declares ({ cls := "java/lang/String", name := "isEmpty", desc := "()Z" } : Jvm.MethodName))).before a0 Z = true := hw _ (List.mem_of_getElem? (i := 35) rfl)
theorem wd36 {Z : State} {a0 : Array Value} (hw : ∀ d ∈ tables_1, d.before a0 Z = true) : ((Jvm.Cond.instanceMethod ({ cls := "java/lang/String", name := "isEmpty", desc := "()Z" } : Jvm.MethodName))).before a0 Z = true := hw _ (List.mem_of_getElem? (i := 36) rfl)
theorem wd37 {Z : State} {a0 : Array Value} (hw : ∀ d ∈ tables_1, d.before a0 Z = true) : ((Jvm.Cond.selects "java/lang/String" ({ cls := "java/lang/String", name := "isEmpty", desc := "()Z" } : Jvm.MethodName) ({ cls := "java/lang/String", name := "isEmpty", desc := "()Z" } : Jvm.MethodName))).before a0 Z = true := hw _ (List.mem_of_getElem? (i := 37) rfl)
theorem wd38 {Z : State} {a0 : Array Value} (hw : ∀ d ∈ tables_1, d.before a0 Z = true) : ((Jvm.Cond.code ({ cls := "java/lang/String", name := "isEmpty", desc := "()Z" } : Jvm.MethodName) jdk_42_method_55_code (1 : Nat) (Option.some Jvm.ClassFile.FieldType.boolean))).before a0 Z = true := hw _ (List.mem_of_getElem? (i := 38) rfl)
theorem wd39 {Z : State} {a0 : Array Value} (hw : ∀ d ∈ tables_1, d.before a0 Z = true) : ((Jvm.Cond.fieldLink "java/lang/String" (38 : Nat) "java/lang/String" "COMPACT_STRINGS" "Z")).before a0 Z = true := hw _ (List.mem_of_getElem? (i := 39) rfl)
theorem wd50 {Z : State} {a0 : Array Value} (hw : ∀ d ∈ tables_1, d.before a0 Z = true) : ((Jvm.Cond.methodLink "com/example/oxpecker/oxpecker/MessageTemplate" (23 : Nat) ({ cls := "com/example/oxpecker/oxpecker/MessageTemplate", name := "parameterEnd", desc := "(Ljava/lang/String;I)I" } : Jvm.MethodName))).before a0 Z = true := hw _ (List.mem_of_getElem? (i := 50) rfl)
theorem wd51 {Z : State} {a0 : Array Value} (hw : ∀ d ∈ tables_1, d.before a0 Z = true) : ((Jvm.Cond.static ({ cls := "com/example/oxpecker/oxpecker/MessageTemplate", name := "parameterEnd", desc := "(Ljava/lang/String;I)I" } : Jvm.MethodName))).before a0 Z = true := hw _ (List.mem_of_getElem? (i := 51) rfl)
theorem wd52 {Z : State} {a0 : Array Value} (hw : ∀ d ∈ tables_1, d.before a0 Z = true) : ((Jvm.Cond.code ({ cls := "com/example/oxpecker/oxpecker/MessageTemplate", name := "parameterEnd", desc := "(Ljava/lang/String;I)I" } : Jvm.MethodName) prog_5_method_9_code (4 : Nat) (Option.some Jvm.ClassFile.FieldType.int))).before a0 Z = true := hw _ (List.mem_of_getElem? (i := 52) rfl)
theorem wd53 {Z : State} {a0 : Array Value} (hw : ∀ d ∈ tables_1, d.before a0 Z = true) : ((Jvm.Cond.methodLink "com/example/oxpecker/oxpecker/MessageTemplate" (61 : Nat) ({ cls := "java/lang/String", name := "charAt", desc := "(I)C" } : Jvm.MethodName))).before a0 Z = true := hw _ (List.mem_of_getElem? (i := 53) rfl)
theorem wd54 {Z : State} {a0 : Array Value} (hw : ∀ d ∈ tables_1, d.before a0 Z = true) : ((Jvm.Cond.declares ({ cls := "java/lang/String", name := "charAt", desc := "(I)C" } : Jvm.MethodName))).before a0 Z = true := hw _ (List.mem_of_getElem? (i := 54) rfl)
theorem wd55 {Z : State} {a0 : Array Value} (hw : ∀ d ∈ tables_1, d.before a0 Z = true) : ((Jvm.Cond.instanceMethod ({ cls := "java/lang/String", name := "charAt", desc := "(I)C" } : Jvm.MethodName))).before a0 Z = true := hw _ (List.mem_of_getElem? (i := 55) rfl)
theorem wd56 {Z : State} {a0 : Array Value} (hw : ∀ d ∈ tables_1, d.before a0 Z = true) : ((Jvm.Cond.selects "java/lang/String" ({ cls := "java/lang/String", name := "charAt", desc := "(I)C" } : Jvm.MethodName) ({ cls := "java/lang/String", name := "charAt", desc := "(I)C" } : Jvm.MethodName))).before a0 Z = true := hw _ (List.mem_of_getElem? (i := 56) rfl)
theorem wd57 {Z : State} {a0 : Array Value} (hw : ∀ d ∈ tables_1, d.before a0 Z = true) : ((Jvm.Cond.code ({ cls := "java/lang/String", name := "charAt", desc := "(I)C" } : Jvm.MethodName) jdk_42_method_56_code (2 : Nat) (Option.some Jvm.ClassFile.FieldType.char))).before a0 Z = true := hw _ (List.mem_of_getElem? (i := 57) rfl)
theorem wd58 {Z : State} {a0 : Array Value} (hw : ∀ d ∈ tables_1, d.before a0 Z = true) : ((Jvm.Cond.methodLink "java/lang/String" (492 : Nat) ({ cls := "java/lang/String", name := "isLatin1", desc := "()Z" } : Jvm.MethodName))).before a0 Z = true := hw _ (List.mem_of_getElem? (i := 58) rfl)
theorem wd59 {Z : State} {a0 : Array Value} (hw : ∀ d ∈ tables_1, d.before a0 Z = true) : ((Jvm.Cond.declares ({ cls := "java/lang/String", name := "isLatin1", desc := "()Z" } : Jvm.MethodName))).before a0 Z = true := hw _ (List.mem_of_getElem? (i := 59) rfl)
theorem wd60 {Z : State} {a0 : Array Value} (hw : ∀ d ∈ tables_1, d.before a0 Z = true) : ((Jvm.Cond.instanceMethod ({ cls := "java/lang/String", name := "isLatin1", desc := "()Z" } : Jvm.MethodName))).before a0 Z = true := hw _ (List.mem_of_getElem? (i := 60) rfl)
theorem wd61 {Z : State} {a0 : Array Value} (hw : ∀ d ∈ tables_1, d.before a0 Z = true) : ((Jvm.Cond.selects "java/lang/String" ({ cls := "java/lang/String", name := "isLatin1", desc := "()Z" } : Jvm.MethodName) ({ cls := "java/lang/String", name := "isLatin1", desc := "()Z" } : Jvm.MethodName))).before a0 Z = true := hw _ (List.mem_of_getElem? (i := 61) rfl)
theorem wd62 {Z : State} {a0 : Array Value} (hw : ∀ d ∈ tables_1, d.before a0 Z = true) : ((Jvm.Cond.code ({ cls := "java/lang/String", name := "isLatin1", desc := "()Z" } : Jvm.MethodName) jdk_42_method_154_code (1 : Nat) (Option.some Jvm.ClassFile.FieldType.boolean))).before a0 Z = true := hw _ (List.mem_of_getElem? (i := 62) rfl)
theorem wd65 {Z : State} {a0 : Array Value} (hw : ∀ d ∈ tables_1, d.before a0 Z = true) : ((Jvm.Cond.initialized "java/lang/StringLatin1")).before a0 Z = true := hw _ (List.mem_of_getElem? (i := 65) rfl)
theorem wd70 {Z : State} {a0 : Array Value} (hw : ∀ d ∈ tables_1, d.before a0 Z = true) : ((Jvm.Cond.fieldLink "java/lang/String" (1053 : Nat) "jdk/internal/util/Preconditions" "SIOOBE_FORMATTER" "Ljava/util/function/BiFunction;")).before a0 Z = true := hw _ (List.mem_of_getElem? (i := 70) rfl)
theorem wd71 {Z : State} {a0 : Array Value} (hw : ∀ d ∈ tables_1, d.before a0 Z = true) : ((Jvm.Cond.initialized "jdk/internal/util/Preconditions")).before a0 Z = true := hw _ (List.mem_of_getElem? (i := 71) rfl)
theorem wd75 {Z : State} {a0 : Array Value} (hw : ∀ d ∈ tables_1, d.before a0 Z = true) : ((Jvm.Cond.methodLink "com/example/oxpecker/oxpecker/MessageTemplate" (19 : Nat) ({ cls := "java/lang/String", name := "length", desc := "()I" } : Jvm.MethodName))).before a0 Z = true := hw _ (List.mem_of_getElem? (i := 75) rfl)
theorem wd76 {Z : State} {a0 : Array Value} (hw : ∀ d ∈ tables_1, d.before a0 Z = true) : ((Jvm.Cond.declares ({ cls := "java/lang/String", name := "length", desc := "()I" } : Jvm.MethodName))).before a0 Z = true := hw _ (List.mem_of_getElem? (i := 76) rfl)
theorem wd77 {Z : State} {a0 : Array Value} (hw : ∀ d ∈ tables_1, d.before a0 Z = true) : ((Jvm.Cond.instanceMethod ({ cls := "java/lang/String", name := "length", desc := "()I" } : Jvm.MethodName))).before a0 Z = true := hw _ (List.mem_of_getElem? (i := 77) rfl)
theorem wd78 {Z : State} {a0 : Array Value} (hw : ∀ d ∈ tables_1, d.before a0 Z = true) : ((Jvm.Cond.selects "java/lang/String" ({ cls := "java/lang/String", name := "length", desc := "()I" } : Jvm.MethodName) ({ cls := "java/lang/String", name := "length", desc := "()I" } : Jvm.MethodName))).before a0 Z = true := hw _ (List.mem_of_getElem? (i := 78) rfl)
theorem wd79 {Z : State} {a0 : Array Value} (hw : ∀ d ∈ tables_1, d.before a0 Z = true) : ((Jvm.Cond.code ({ cls := "java/lang/String", name := "length", desc := "()I" } : Jvm.MethodName) jdk_42_method_54_code (1 : Nat) (Option.some Jvm.ClassFile.FieldType.int))).before a0 Z = true := hw _ (List.mem_of_getElem? (i := 79) rfl)
theorem wd85 {Z : State} {a0 : Array Value} (hw : ∀ d ∈ tables_1, d.before a0 Z = true) : ((Jvm.Cond.methodLink "com/example/oxpecker/oxpecker/MessageTemplate" (91 : Nat) ({ cls := "com/example/oxpecker/oxpecker/MessageTemplate", name := "isInName", desc := "(C)Z" } : Jvm.MethodName))).before a0 Z = true := hw _ (List.mem_of_getElem? (i := 85) rfl)
theorem wd86 {Z : State} {a0 : Array Value} (hw : ∀ d ∈ tables_1, d.before a0 Z = true) : ((Jvm.Cond.static ({ cls := "com/example/oxpecker/oxpecker/MessageTemplate", name := "isInName", desc := "(C)Z" } : Jvm.MethodName))).before a0 Z = true := hw _ (List.mem_of_getElem? (i := 86) rfl)
theorem wd87 {Z : State} {a0 : Array Value} (hw : ∀ d ∈ tables_1, d.before a0 Z = true) : ((Jvm.Cond.code ({ cls := "com/example/oxpecker/oxpecker/MessageTemplate", name := "isInName", desc := "(C)Z" } : Jvm.MethodName) prog_5_method_10_code (1 : Nat) (Option.some Jvm.ClassFile.FieldType.boolean))).before a0 Z = true := hw _ (List.mem_of_getElem? (i := 87) rfl)
theorem wd88 {Z : State} {a0 : Array Value} (hw : ∀ d ∈ tables_1, d.before a0 Z = true) : ((Jvm.Cond.methodLink "com/example/oxpecker/oxpecker/MessageTemplateSoleParameterPinLaw" (23 : Nat) ({ cls := "com/example/oxpecker/oxpecker/MessageTemplateSoleParameterPinLaw", name := "inName", desc := "(C)Z" } : Jvm.MethodName))).before a0 Z = true := hw _ (List.mem_of_getElem? (i := 88) rfl)
theorem wd89 {Z : State} {a0 : Array Value} (hw : ∀ d ∈ tables_1, d.before a0 Z = true) : ((Jvm.Cond.static ({ cls := "com/example/oxpecker/oxpecker/MessageTemplateSoleParameterPinLaw", name := "inName", desc := "(C)Z" } : Jvm.MethodName))).before a0 Z = true := hw _ (List.mem_of_getElem? (i := 89) rfl)
theorem wd90 {Z : State} {a0 : Array Value} (hw : ∀ d ∈ tables_1, d.before a0 Z = true) : ((Jvm.Cond.code ({ cls := "com/example/oxpecker/oxpecker/MessageTemplateSoleParameterPinLaw", name := "inName", desc := "(C)Z" } : Jvm.MethodName) method_3_code (1 : Nat) (Option.some Jvm.ClassFile.FieldType.boolean))).before a0 Z = true := hw _ (List.mem_of_getElem? (i := 90) rfl)
theorem wd91 {Z : State} {a0 : Array Value} (hw : ∀ d ∈ tables_1, d.before a0 Z = true) : ((Jvm.Cond.methodLink "com/example/oxpecker/oxpecker/MessageTemplate" (31 : Nat) ({ cls := "java/lang/String", name := "substring", desc := "(II)Ljava/lang/String;" } : Jvm.MethodName))).before a0 Z = true := hw _ (List.mem_of_getElem? (i := 91) rfl)
theorem wd92 {Z : State} {a0 : Array Value} (hw : ∀ d ∈ tables_1, d.before a0 Z = true) : ((Jvm.Cond.declares ({ cls := "java/lang/String", name := "substring", desc := "(II)Ljava/lang/String;" } : Jvm.MethodName))).before a0 Z = true := hw _ (List.mem_of_getElem? (i := 92) rfl)
theorem wd93 {Z : State} {a0 : Array Value} (hw : ∀ d ∈ tables_1, d.before a0 Z = true) : ((Jvm.Cond.instanceMethod ({ cls := "java/lang/String", name := "substring", desc := "(II)Ljava/lang/String;" } : Jvm.MethodName))).before a0 Z = true := hw _ (List.mem_of_getElem? (i := 93) rfl)
theorem wd94 {Z : State} {a0 : Array Value} (hw : ∀ d ∈ tables_1, d.before a0 Z = true) : ((Jvm.Cond.selects "java/lang/String" ({ cls := "java/lang/String", name := "substring", desc := "(II)Ljava/lang/String;" } : Jvm.MethodName) ({ cls := "java/lang/String", name := "substring", desc := "(II)Ljava/lang/String;" } : Jvm.MethodName))).before a0 Z = true := hw _ (List.mem_of_getElem? (i := 94) rfl)
theorem wd95 {Z : State} {a0 : Array Value} (hw : ∀ d ∈ tables_1, d.before a0 Z = true) : ((Jvm.Cond.code ({ cls := "java/lang/String", name := "substring", desc := "(II)Ljava/lang/String;" } : Jvm.MethodName) jdk_42_method_92_code (5 : Nat) (Option.some (Jvm.ClassFile.FieldType.object "java/lang/String")))).before a0 Z = true := hw _ (List.mem_of_getElem? (i := 95) rfl)
theorem wd96 {Z : State} {a0 : Array Value} (hw : ∀ d ∈ tables_1, d.before a0 Z = true) : ((Jvm.Cond.methodLink "java/lang/String" (505 : Nat) ({ cls := "java/lang/String", name := "length", desc := "()I" } : Jvm.MethodName))).before a0 Z = true := hw _ (List.mem_of_getElem? (i := 96) rfl)
theorem wd97 {Z : State} {a0 : Array Value} (hw : ∀ d ∈ tables_1, d.before a0 Z = true) : ((Jvm.Cond.methodLink "java/lang/String" (521 : Nat) ({ cls := "java/lang/String", name := "checkBoundsBeginEnd", desc := "(III)V" } : Jvm.MethodName))).before a0 Z = true := hw _ (List.mem_of_getElem? (i := 97) rfl)
theorem wd98 {Z : State} {a0 : Array Value} (hw : ∀ d ∈ tables_1, d.before a0 Z = true) : ((Jvm.Cond.static ({ cls := "java/lang/String", name := "checkBoundsBeginEnd", desc := "(III)V" } : Jvm.MethodName))).before a0 Z = true := hw _ (List.mem_of_getElem? (i := 98) rfl)
theorem wd99 {Z : State} {a0 : Array Value} (hw : ∀ d ∈ tables_1, d.before a0 Z = true) : ((Jvm.Cond.code ({ cls := "java/lang/String", name := "checkBoundsBeginEnd", desc := "(III)V" } : Jvm.MethodName) jdk_42_method_158_code (3 : Nat) (Option.none : Option Jvm.ClassFile.FieldType))).before a0 Z = true := hw _ (List.mem_of_getElem? (i := 99) rfl)
theorem wd100 {Z : State} {a0 : Array Value} (hw : ∀ d ∈ tables_1, d.before a0 Z = true) : ((Jvm.Cond.methodLink "java/lang/String" (1062 : Nat) ({ cls := "jdk/internal/util/Preconditions", name := "checkFromToIndex", desc := "(IIILjava/util/function/BiFunction;)I" } : Jvm.MethodName))).before a0 Z = true := hw _ (List.mem_of_getElem? (i := 100) rfl)
theorem wd101 {Z : State} {a0 : Array Value} (hw : ∀ d ∈ tables_1, d.before a0 Z = true) : ((Jvm.Cond.static ({ cls := "jdk/internal/util/Preconditions", name := "checkFromToIndex", desc := "(IIILjava/util/function/BiFunction;)I" } : Jvm.MethodName))).before a0 Z = true := hw _ (List.mem_of_getElem? (i := 101) rfl)
theorem wd102 {Z : State} {a0 : Array Value} (hw : ∀ d ∈ tables_1, d.before a0 Z = true) : ((Jvm.Cond.code ({ cls := "jdk/internal/util/Preconditions", name := "checkFromToIndex", desc := "(IIILjava/util/function/BiFunction;)I" } : Jvm.MethodName) jdk_41_method_12_code (4 : Nat) (Option.some Jvm.ClassFile.FieldType.int))).before a0 Z = true := hw _ (List.mem_of_getElem? (i := 102) rfl)
theorem wd103 {Z : State} {a0 : Array Value} (hw : ∀ d ∈ tables_1, d.before a0 Z = true) : ((Jvm.Cond.methodLink "java/lang/String" (685 : Nat) ({ cls := "java/lang/StringLatin1", name := "newString", desc := "([BII)Ljava/lang/String;" } : Jvm.MethodName))).before a0 Z = true := hw _ (List.mem_of_getElem? (i := 103) rfl)
theorem wd104 {Z : State} {a0 : Array Value} (hw : ∀ d ∈ tables_1, d.before a0 Z = true) : ((Jvm.Cond.static ({ cls := "java/lang/StringLatin1", name := "newString", desc := "([BII)Ljava/lang/String;" } : Jvm.MethodName))).before a0 Z = true := hw _ (List.mem_of_getElem? (i := 104) rfl)
theorem wd105 {Z : State} {a0 : Array Value} (hw : ∀ d ∈ tables_1, d.before a0 Z = true) : ((Jvm.Cond.code ({ cls := "java/lang/StringLatin1", name := "newString", desc := "([BII)Ljava/lang/String;" } : Jvm.MethodName) jdk_43_method_47_code (3 : Nat) (Option.some (Jvm.ClassFile.FieldType.object "java/lang/String")))).before a0 Z = true := hw _ (List.mem_of_getElem? (i := 105) rfl)
theorem wd106 {Z : State} {a0 : Array Value} (hw : ∀ d ∈ tables_1, d.before a0 Z = true) : ((Jvm.Cond.classLink "java/lang/StringLatin1" (1 : Nat) "java/lang/String")).before a0 Z = true := hw _ (List.mem_of_getElem? (i := 106) rfl)
theorem wd107 {Z : State} {a0 : Array Value} (hw : ∀ d ∈ tables_1, d.before a0 Z = true) : ((Jvm.Cond.methodLink "java/lang/StringLatin1" (232 : Nat) ({ cls := "java/util/Arrays", name := "copyOfRange", desc := "([BII)[B" } : Jvm.MethodName))).before a0 Z = true := hw _ (List.mem_of_getElem? (i := 107) rfl)
theorem wd108 {Z : State} {a0 : Array Value} (hw : ∀ d ∈ tables_1, d.before a0 Z = true) : ((Jvm.Cond.static ({ cls := "java/util/Arrays", name := "copyOfRange", desc := "([BII)[B" } : Jvm.MethodName))).before a0 Z = true := hw _ (List.mem_of_getElem? (i := 108) rfl)
theorem wd109 {Z : State} {a0 : Array Value} (hw : ∀ d ∈ tables_1, d.before a0 Z = true) : ((Jvm.Cond.initialized "java/util/Arrays")).before a0 Z = true := hw _ (List.mem_of_getElem? (i := 109) rfl)
theorem wd110 {Z : State} {a0 : Array Value} (hw : ∀ d ∈ tables_1, d.before a0 Z = true) : ((Jvm.Cond.code ({ cls := "java/util/Arrays", name := "copyOfRange", desc := "([BII)[B" } : Jvm.MethodName) jdk_65_method_132_code (3 : Nat) (Option.some (Jvm.ClassFile.FieldType.array Jvm.ClassFile.FieldType.byte)))).before a0 Z = true := hw _ (List.mem_of_getElem? (i := 110) rfl)
theorem wd111 {Z : State} {a0 : Array Value} (hw : ∀ d ∈ tables_1, d.before a0 Z = true) : ((Jvm.Cond.methodLink "java/util/Arrays" (339 : Nat) ({ cls := "java/util/Arrays", name := "copyOfRangeByte", desc := "([BII)[B" } : Jvm.MethodName))).before a0 Z = true := hw _ (List.mem_of_getElem? (i := 111) rfl)
theorem wd112 {Z : State} {a0 : Array Value} (hw : ∀ d ∈ tables_1, d.before a0 Z = true) : ((Jvm.Cond.static ({ cls := "java/util/Arrays", name := "copyOfRangeByte", desc := "([BII)[B" } : Jvm.MethodName))).before a0 Z = true := hw _ (List.mem_of_getElem? (i := 112) rfl)
theorem wd113 {Z : State} {a0 : Array Value} (hw : ∀ d ∈ tables_1, d.before a0 Z = true) : ((Jvm.Cond.code ({ cls := "java/util/Arrays", name := "copyOfRangeByte", desc := "([BII)[B" } : Jvm.MethodName) jdk_65_method_133_code (5 : Nat) (Option.some (Jvm.ClassFile.FieldType.array Jvm.ClassFile.FieldType.byte)))).before a0 Z = true := hw _ (List.mem_of_getElem? (i := 113) rfl)
theorem wd114 {Z : State} {a0 : Array Value} (hw : ∀ d ∈ tables_1, d.before a0 Z = true) : ((Jvm.Cond.methodLink "java/util/Arrays" (343 : Nat) ({ cls := "java/util/Arrays", name := "checkLength", desc := "(II)V" } : Jvm.MethodName))).before a0 Z = true := hw _ (List.mem_of_getElem? (i := 114) rfl)
theorem wd115 {Z : State} {a0 : Array Value} (hw : ∀ d ∈ tables_1, d.before a0 Z = true) : ((Jvm.Cond.static ({ cls := "java/util/Arrays", name := "checkLength", desc := "(II)V" } : Jvm.MethodName))).before a0 Z = true := hw _ (List.mem_of_getElem? (i := 115) rfl)
theorem wd116 {Z : State} {a0 : Array Value} (hw : ∀ d ∈ tables_1, d.before a0 Z = true) : ((Jvm.Cond.code ({ cls := "java/util/Arrays", name := "checkLength", desc := "(II)V" } : Jvm.MethodName) jdk_65_method_131_code (2 : Nat) (Option.none : Option Jvm.ClassFile.FieldType))).before a0 Z = true := hw _ (List.mem_of_getElem? (i := 116) rfl)
theorem wd117 {Z : State} {a0 : Array Value} (hw : ∀ d ∈ tables_1, d.before a0 Z = true) : ((Jvm.Cond.methodLink "java/util/Arrays" (304 : Nat) ({ cls := "java/lang/Math", name := "min", desc := "(II)I" } : Jvm.MethodName))).before a0 Z = true := hw _ (List.mem_of_getElem? (i := 117) rfl)
theorem wd118 {Z : State} {a0 : Array Value} (hw : ∀ d ∈ tables_1, d.before a0 Z = true) : ((Jvm.Cond.static ({ cls := "java/lang/Math", name := "min", desc := "(II)I" } : Jvm.MethodName))).before a0 Z = true := hw _ (List.mem_of_getElem? (i := 118) rfl)
theorem wd119 {Z : State} {a0 : Array Value} (hw : ∀ d ∈ tables_1, d.before a0 Z = true) : ((Jvm.Cond.initialized "java/lang/Math")).before a0 Z = true := hw _ (List.mem_of_getElem? (i := 119) rfl)
theorem wd120 {Z : State} {a0 : Array Value} (hw : ∀ d ∈ tables_1, d.before a0 Z = true) : ((Jvm.Cond.code ({ cls := "java/lang/Math", name := "min", desc := "(II)I" } : Jvm.MethodName) jdk_29_method_69_code (2 : Nat) (Option.some Jvm.ClassFile.FieldType.int))).before a0 Z = true := hw _ (List.mem_of_getElem? (i := 120) rfl)
theorem wd121 {Z : State} {a0 : Array Value} (hw : ∀ d ∈ tables_1, d.before a0 Z = true) : ((Jvm.Cond.methodLink "java/util/Arrays" (150 : Nat) ({ cls := "java/lang/System", name := "arraycopy", desc := "(Ljava/lang/Object;ILjava/lang/Object;II)V" } : Jvm.MethodName))).before a0 Z = true := hw _ (List.mem_of_getElem? (i := 121) rfl)
theorem wd122 {Z : State} {a0 : Array Value} (hw : ∀ d ∈ tables_1, d.before a0 Z = true) : ((Jvm.Cond.static ({ cls := "java/lang/System", name := "arraycopy", desc := "(Ljava/lang/Object;ILjava/lang/Object;II)V" } : Jvm.MethodName))).before a0 Z = true := hw _ (List.mem_of_getElem? (i := 122) rfl)
theorem wd123 {Z : State} {a0 : Array Value} (hw : ∀ d ∈ tables_1, d.before a0 Z = true) : ((Jvm.Cond.initialized "java/lang/System")).before a0 Z = true := hw _ (List.mem_of_getElem? (i := 123) rfl)
theorem wd124 {Z : State} {a0 : Array Value} (hw : ∀ d ∈ tables_1, d.before a0 Z = true) : ((Jvm.Cond.native ({ cls := "java/lang/System", name := "arraycopy", desc := "(Ljava/lang/Object;ILjava/lang/Object;II)V" } : Jvm.MethodName))).before a0 Z = true := hw _ (List.mem_of_getElem? (i := 124) rfl)
theorem wd125 {Z : State} {a0 : Array Value} (hw : ∀ d ∈ tables_1, d.before a0 Z = true) : ((Jvm.Cond.methodLink "java/lang/StringLatin1" (112 : Nat) ({ cls := "java/lang/String", name := "<init>", desc := "([BB)V" } : Jvm.MethodName))).before a0 Z = true := hw _ (List.mem_of_getElem? (i := 125) rfl)
theorem wd126 {Z : State} {a0 : Array Value} (hw : ∀ d ∈ tables_1, d.before a0 Z = true) : ((Jvm.Cond.instanceMethod ({ cls := "java/lang/String", name := "<init>", desc := "([BB)V" } : Jvm.MethodName))).before a0 Z = true := hw _ (List.mem_of_getElem? (i := 126) rfl)
theorem wd127 {Z : State} {a0 : Array Value} (hw : ∀ d ∈ tables_1, d.before a0 Z = true) : ((Jvm.Cond.code ({ cls := "java/lang/String", name := "<init>", desc := "([BB)V" } : Jvm.MethodName) jdk_42_method_151_code (3 : Nat) (Option.none : Option Jvm.ClassFile.FieldType))).before a0 Z = true := hw _ (List.mem_of_getElem? (i := 127) rfl)
theorem wd128 {Z : State} {a0 : Array Value} (hw : ∀ d ∈ tables_1, d.before a0 Z = true) : ((Jvm.Cond.methodLink "com/example/oxpecker/oxpecker/MessageTemplateSoleParameterPinLaw" (33 : Nat) ({ cls := "java/lang/String", name := "equals", desc := "(Ljava/lang/Object;)Z" } : Jvm.MethodName))).before a0 Z = true := hw _ (List.mem_of_getElem? (i := 128) rfl)
theorem wd129 {Z : State} {a0 : Array Value} (hw : ∀ d ∈ tables_1, d.before a0 Z = true) : ((Jvm.Cond.declares ({ cls := "java/lang/String", name := "equals", desc := "(Ljava/lang/Object;)Z" } : Jvm.MethodName))).before a0 Z = true := hw _ (List.mem_of_getElem? (i := 129) rfl)
theorem wd130 {Z : State} {a0 : Array Value} (hw : ∀ d ∈ tables_1, d.before a0 Z = true) : ((Jvm.Cond.instanceMethod ({ cls := "java/lang/String", name := "equals", desc := "(Ljava/lang/Object;)Z" } : Jvm.MethodName))).before a0 Z = true := hw _ (List.mem_of_getElem? (i := 130) rfl)
theorem wd131 {Z : State} {a0 : Array Value} (hw : ∀ d ∈ tables_1, d.before a0 Z = true) : ((Jvm.Cond.selects "java/lang/String" ({ cls := "java/lang/String", name := "equals", desc := "(Ljava/lang/Object;)Z" } : Jvm.MethodName) ({ cls := "java/lang/String", name := "equals", desc := "(Ljava/lang/Object;)Z" } : Jvm.MethodName))).before a0 Z = true := hw _ (List.mem_of_getElem? (i := 131) rfl)
theorem wd132 {Z : State} {a0 : Array Value} (hw : ∀ d ∈ tables_1, d.before a0 Z = true) : ((Jvm.Cond.code ({ cls := "java/lang/String", name := "equals", desc := "(Ljava/lang/Object;)Z" } : Jvm.MethodName) jdk_42_method_66_code (3 : Nat) (Option.some Jvm.ClassFile.FieldType.boolean))).before a0 Z = true := hw _ (List.mem_of_getElem? (i := 132) rfl)

def own_str (Z : State) (h : Heap) (x : Addr) (cs : List Int32) : Prop := ∃ (t : Addr) (kb : ClassId), Exa Z h x "java/lang/String" ∧ Fld Z h x "java/lang/String" "value" "[B" (.ref t) ∧ Fld Z h x "java/lang/String" "coder" "B" (.int 0) ∧ Arv Z h t kb .byte (Int32.ofNat cs.length) (cs.map fun c => Value.int (StrChars.lo8 c)) (.int 0)
theorem own_str.ext {Z : State} {h h' : Heap} {x : Addr} {cs : List Int32} (F : own_str Z h x cs) (E : Ext h h') : own_str Z h' x cs := by
  obtain ⟨t, kb, a1, a2, a3, a4⟩ := F
  exact ⟨t, kb, a1.ext E, a2.ext E, a3.ext E, a4.ext E⟩
def own_env (Z : State) (h : Heap) : Prop := ∃ (z : Int32) (fm : Value), Sta Z h "java/lang/String" "COMPACT_STRINGS" "Z" (.int z) ∧ ¬ z = 0 ∧ Sta Z h "jdk/internal/util/Preconditions" "SIOOBE_FORMATTER" "Ljava/util/function/BiFunction;" fm ∧ fm.isRef = true
theorem own_env.ext {Z : State} {h h' : Heap} (F : own_env Z h) (E : Ext h h') : own_env Z h' := by
  obtain ⟨z, fm, a1, a2, a3, a4⟩ := F
  exact ⟨z, fm, a1.ext E, a2, a3.ext E, a4⟩
theorem own_env.wr {Z : State} {h h' : Heap} {a : Addr} {sl : Nat} {v : Value} (F : own_env Z h) (W : Wr h h' a sl v) (_ : True) : own_env Z h' := by
  obtain ⟨z, fm, a1, a2, a3, a4⟩ := F
  exact ⟨z, fm, a1.wr W, a2, a3.wr W, a4⟩
theorem own_ext {h h' : Heap} (K : Keep h h' []) : Ext h h' := ⟨K.1, fun a c q => K.2.1 a c q nin0⟩
def own_pr (cs : List Int32) : Prop := ∀ c ∈ cs, ¬ c < 0 ∧ ¬ (255 : Int32) < c
theorem own_up {cs : List Int32} (h : own_pr cs) : ∀ c ∈ cs, ¬ c < 0 ∧ ¬ (65535 : Int32) < c := fun c hc => by
  obtain ⟨q1, q2⟩ := h c hc
  refine ⟨q1, ?_⟩
  rw [Int32.lt_iff_toInt_lt] at q2 ⊢
  have e1 : (255 : Int32).toInt = 255 := rfl
  have e2 : (65535 : Int32).toInt = 65535 := rfl
  omega
theorem own_cod {cs : List Int32} (h : own_pr cs) : StrChars.Road.CodA cs 0 (Int32.ofNat cs.length) (cs.map fun c => Value.int (StrChars.lo8 c)) := Or.inl ⟨rfl, rfl, rfl, fun c hc => (h c hc).2⟩
theorem own_nar {c : Int32} (h : ¬ c < 0 ∧ ¬ (255 : Int32) < c) : nar .char c = c := by
  apply Int32.toInt_inj.mp
  have q := c_i2c c
  show (c.toUInt32.toUInt16.toUInt32.toInt32).toInt = _
  obtain ⟨h1, h2⟩ := h
  rw [Int32.lt_iff_toInt_lt] at h1 h2
  have e1 : (0 : Int32).toInt = 0 := rfl
  have e2 : (255 : Int32).toInt = 255 := rfl
  omega
theorem own_p1 {a : Int32} (ha : ¬ a < 0 ∧ ¬ (255 : Int32) < a) {cs : List Int32} (h : own_pr cs) : own_pr (a :: cs) := fun c hc => by
  rcases List.mem_cons.mp hc with rfl | q
  · exact ha
  · exact h c q
theorem own_p0 : own_pr [] := fun _ q => nomatch q
def own_ch (x : Int32) : Int32 := if (x &&& (3 : Int32)) = 0 then 123 else if (x &&& (3 : Int32)) = 1 then 125 else if (x &&& (3 : Int32)) = 2 then 92 else (((x.toUInt32 >>> ((2 : Int32) &&& 31).toUInt32).toInt32) &&& (255 : Int32)).toUInt32.toUInt16.toUInt32.toInt32
theorem own_chr (x : Int32) : ¬ own_ch x < 0 ∧ ¬ (255 : Int32) < own_ch x := by
  unfold own_ch
  split
  · decide
  split
  · decide
  split
  · decide
  generalize (x.toUInt32 >>> ((2 : Int32) &&& 31).toUInt32).toInt32 = y
  have h := c_mask y 255 8 (by decide) (by decide)
  generalize y &&& (255 : Int32) = z at h ⊢
  have q := c_i2c z
  simp only [Int32.lt_iff_toInt_lt]
  have e1 : (0 : Int32).toInt = 0 := rfl
  have e2 : (255 : Int32).toInt = 255 := rfl
  omega
def own_in (c : Int32) : Int32 := if c = 123 then 0 else if c = 125 then 0 else if c = 92 then 0 else 1
def own_min (x y : Int32) : Int32 := if y < x then y else x

def own_sole1 (c0 : Int32) : Prop := False
def own_sole2 (c0 c1 : Int32) : Prop := False
def own_sole3 (c0 c1 c2 : Int32) : Prop := c0 = 123 ∧ ¬ own_in c1 = 0 ∧ c2 = 125
def own_sole4 (c0 c1 c2 c3 : Int32) : Prop := c0 = 123 ∧ ¬ own_in c1 = 0 ∧ ¬ own_in c2 = 0 ∧ c3 = 125
def own_sole5 (c0 c1 c2 c3 c4 : Int32) : Prop := c0 = 123 ∧ ¬ own_in c1 = 0 ∧ ¬ own_in c2 = 0 ∧ ¬ own_in c3 = 0 ∧ c4 = 125
theorem d1_0 : decode method_2_code 0 = .ok (.iload_n 0, 1) := by decide +kernel
theorem d1_1 : decode method_2_code 1 = .ok (.iconst 3, 1) := by decide +kernel
theorem d1_2 : decode method_2_code 2 = .ok (.iand, 1) := by decide +kernel
theorem d1_3 : decode method_2_code 3 = .ok (.istore_n 1, 1) := by decide +kernel
theorem d1_4 : decode method_2_code 4 = .ok (.iload_n 1, 1) := by decide +kernel
theorem d1_5 : decode method_2_code 5 = .ok (.ifCond .ne 6, 3) := by decide +kernel
theorem d1_8 : decode method_2_code 8 = .ok (.bipush 123, 2) := by decide +kernel
theorem d1_10 : decode method_2_code 10 = .ok (.ireturn, 1) := by decide +kernel
theorem d1_11 : decode method_2_code 11 = .ok (.iload_n 1, 1) := by decide +kernel
theorem d1_12 : decode method_2_code 12 = .ok (.iconst 1, 1) := by decide +kernel
theorem d1_13 : decode method_2_code 13 = .ok (.if_icmp .ne 6, 3) := by decide +kernel
theorem d1_16 : decode method_2_code 16 = .ok (.bipush 125, 2) := by decide +kernel
theorem d1_18 : decode method_2_code 18 = .ok (.ireturn, 1) := by decide +kernel
theorem d1_19 : decode method_2_code 19 = .ok (.iload_n 1, 1) := by decide +kernel
theorem d1_20 : decode method_2_code 20 = .ok (.iconst 2, 1) := by decide +kernel
theorem d1_21 : decode method_2_code 21 = .ok (.if_icmp .ne 6, 3) := by decide +kernel
theorem d1_24 : decode method_2_code 24 = .ok (.bipush 92, 2) := by decide +kernel
theorem d1_26 : decode method_2_code 26 = .ok (.ireturn, 1) := by decide +kernel
theorem d1_27 : decode method_2_code 27 = .ok (.iload_n 0, 1) := by decide +kernel
theorem d1_28 : decode method_2_code 28 = .ok (.iconst 2, 1) := by decide +kernel
theorem d1_29 : decode method_2_code 29 = .ok (.iushr, 1) := by decide +kernel
theorem d1_30 : decode method_2_code 30 = .ok (.sipush 255, 3) := by decide +kernel
theorem d1_33 : decode method_2_code 33 = .ok (.iand, 1) := by decide +kernel
theorem d1_34 : decode method_2_code 34 = .ok (.i2c, 1) := by decide +kernel
theorem d1_35 : decode method_2_code 35 = .ok (.ireturn, 1) := by decide +kernel

theorem d2_0 : decode method_4_code 0 = .ok (.iload_n 0, 1) := by decide +kernel
theorem d2_1 : decode method_4_code 1 = .ok (.ifCond .ne 14, 3) := by decide +kernel
theorem d2_4 : decode method_4_code 4 = .ok (.new 7, 3) := by decide +kernel
theorem d2_7 : decode method_4_code 7 = .ok (.dup, 1) := by decide +kernel
theorem d2_8 : decode method_4_code 8 = .ok (.iconst 0, 1) := by decide +kernel
theorem d2_9 : decode method_4_code 9 = .ok (.newarray .char, 2) := by decide +kernel
theorem d2_11 : decode method_4_code 11 = .ok (.invokespecial 9, 3) := by decide +kernel
theorem d2_14 : decode method_4_code 14 = .ok (.areturn, 1) := by decide +kernel
theorem d2_15 : decode method_4_code 15 = .ok (.iload_n 0, 1) := by decide +kernel
theorem d2_16 : decode method_4_code 16 = .ok (.iconst 1, 1) := by decide +kernel
theorem d2_17 : decode method_4_code 17 = .ok (.if_icmp .ne 18, 3) := by decide +kernel
theorem d2_20 : decode method_4_code 20 = .ok (.new 7, 3) := by decide +kernel
theorem d2_23 : decode method_4_code 23 = .ok (.dup, 1) := by decide +kernel
theorem d2_24 : decode method_4_code 24 = .ok (.iconst 1, 1) := by decide +kernel
theorem d2_25 : decode method_4_code 25 = .ok (.newarray .char, 2) := by decide +kernel
theorem d2_27 : decode method_4_code 27 = .ok (.dup, 1) := by decide +kernel
theorem d2_28 : decode method_4_code 28 = .ok (.iconst 0, 1) := by decide +kernel
theorem d2_29 : decode method_4_code 29 = .ok (.iload_n 1, 1) := by decide +kernel
theorem d2_30 : decode method_4_code 30 = .ok (.castore, 1) := by decide +kernel
theorem d2_31 : decode method_4_code 31 = .ok (.invokespecial 9, 3) := by decide +kernel
theorem d2_34 : decode method_4_code 34 = .ok (.areturn, 1) := by decide +kernel
theorem d2_35 : decode method_4_code 35 = .ok (.iload_n 0, 1) := by decide +kernel
theorem d2_36 : decode method_4_code 36 = .ok (.iconst 2, 1) := by decide +kernel
theorem d2_37 : decode method_4_code 37 = .ok (.if_icmp .ne 22, 3) := by decide +kernel
theorem d2_40 : decode method_4_code 40 = .ok (.new 7, 3) := by decide +kernel
theorem d2_43 : decode method_4_code 43 = .ok (.dup, 1) := by decide +kernel
theorem d2_44 : decode method_4_code 44 = .ok (.iconst 2, 1) := by decide +kernel
theorem d2_45 : decode method_4_code 45 = .ok (.newarray .char, 2) := by decide +kernel
theorem d2_47 : decode method_4_code 47 = .ok (.dup, 1) := by decide +kernel
theorem d2_48 : decode method_4_code 48 = .ok (.iconst 0, 1) := by decide +kernel
theorem d2_49 : decode method_4_code 49 = .ok (.iload_n 1, 1) := by decide +kernel
theorem d2_50 : decode method_4_code 50 = .ok (.castore, 1) := by decide +kernel
theorem d2_51 : decode method_4_code 51 = .ok (.dup, 1) := by decide +kernel
theorem d2_52 : decode method_4_code 52 = .ok (.iconst 1, 1) := by decide +kernel
theorem d2_53 : decode method_4_code 53 = .ok (.iload_n 2, 1) := by decide +kernel
theorem d2_54 : decode method_4_code 54 = .ok (.castore, 1) := by decide +kernel
theorem d2_55 : decode method_4_code 55 = .ok (.invokespecial 9, 3) := by decide +kernel
theorem d2_58 : decode method_4_code 58 = .ok (.areturn, 1) := by decide +kernel
theorem d2_59 : decode method_4_code 59 = .ok (.iload_n 0, 1) := by decide +kernel
theorem d2_60 : decode method_4_code 60 = .ok (.iconst 3, 1) := by decide +kernel
theorem d2_61 : decode method_4_code 61 = .ok (.if_icmp .ne 26, 3) := by decide +kernel
theorem d2_64 : decode method_4_code 64 = .ok (.new 7, 3) := by decide +kernel
theorem d2_67 : decode method_4_code 67 = .ok (.dup, 1) := by decide +kernel
theorem d2_68 : decode method_4_code 68 = .ok (.iconst 3, 1) := by decide +kernel
theorem d2_69 : decode method_4_code 69 = .ok (.newarray .char, 2) := by decide +kernel
theorem d2_71 : decode method_4_code 71 = .ok (.dup, 1) := by decide +kernel
theorem d2_72 : decode method_4_code 72 = .ok (.iconst 0, 1) := by decide +kernel
theorem d2_73 : decode method_4_code 73 = .ok (.iload_n 1, 1) := by decide +kernel
theorem d2_74 : decode method_4_code 74 = .ok (.castore, 1) := by decide +kernel
theorem d2_75 : decode method_4_code 75 = .ok (.dup, 1) := by decide +kernel
theorem d2_76 : decode method_4_code 76 = .ok (.iconst 1, 1) := by decide +kernel
theorem d2_77 : decode method_4_code 77 = .ok (.iload_n 2, 1) := by decide +kernel
theorem d2_78 : decode method_4_code 78 = .ok (.castore, 1) := by decide +kernel
theorem d2_79 : decode method_4_code 79 = .ok (.dup, 1) := by decide +kernel
theorem d2_80 : decode method_4_code 80 = .ok (.iconst 2, 1) := by decide +kernel
theorem d2_81 : decode method_4_code 81 = .ok (.iload_n 3, 1) := by decide +kernel
theorem d2_82 : decode method_4_code 82 = .ok (.castore, 1) := by decide +kernel
theorem d2_83 : decode method_4_code 83 = .ok (.invokespecial 9, 3) := by decide +kernel
theorem d2_86 : decode method_4_code 86 = .ok (.areturn, 1) := by decide +kernel
theorem d2_87 : decode method_4_code 87 = .ok (.iload_n 0, 1) := by decide +kernel
theorem d2_88 : decode method_4_code 88 = .ok (.iconst 4, 1) := by decide +kernel
theorem d2_89 : decode method_4_code 89 = .ok (.if_icmp .ne 31, 3) := by decide +kernel
theorem d2_92 : decode method_4_code 92 = .ok (.new 7, 3) := by decide +kernel
theorem d2_95 : decode method_4_code 95 = .ok (.dup, 1) := by decide +kernel
theorem d2_96 : decode method_4_code 96 = .ok (.iconst 4, 1) := by decide +kernel
theorem d2_97 : decode method_4_code 97 = .ok (.newarray .char, 2) := by decide +kernel
theorem d2_99 : decode method_4_code 99 = .ok (.dup, 1) := by decide +kernel
theorem d2_100 : decode method_4_code 100 = .ok (.iconst 0, 1) := by decide +kernel
theorem d2_101 : decode method_4_code 101 = .ok (.iload_n 1, 1) := by decide +kernel
theorem d2_102 : decode method_4_code 102 = .ok (.castore, 1) := by decide +kernel
theorem d2_103 : decode method_4_code 103 = .ok (.dup, 1) := by decide +kernel
theorem d2_104 : decode method_4_code 104 = .ok (.iconst 1, 1) := by decide +kernel
theorem d2_105 : decode method_4_code 105 = .ok (.iload_n 2, 1) := by decide +kernel
theorem d2_106 : decode method_4_code 106 = .ok (.castore, 1) := by decide +kernel
theorem d2_107 : decode method_4_code 107 = .ok (.dup, 1) := by decide +kernel
theorem d2_108 : decode method_4_code 108 = .ok (.iconst 2, 1) := by decide +kernel
theorem d2_109 : decode method_4_code 109 = .ok (.iload_n 3, 1) := by decide +kernel
theorem d2_110 : decode method_4_code 110 = .ok (.castore, 1) := by decide +kernel
theorem d2_111 : decode method_4_code 111 = .ok (.dup, 1) := by decide +kernel
theorem d2_112 : decode method_4_code 112 = .ok (.iconst 3, 1) := by decide +kernel
theorem d2_113 : decode method_4_code 113 = .ok (.iload 4, 2) := by decide +kernel
theorem d2_115 : decode method_4_code 115 = .ok (.castore, 1) := by decide +kernel
theorem d2_116 : decode method_4_code 116 = .ok (.invokespecial 9, 3) := by decide +kernel
theorem d2_119 : decode method_4_code 119 = .ok (.areturn, 1) := by decide +kernel
theorem d2_120 : decode method_4_code 120 = .ok (.new 7, 3) := by decide +kernel
theorem d2_123 : decode method_4_code 123 = .ok (.dup, 1) := by decide +kernel
theorem d2_124 : decode method_4_code 124 = .ok (.iconst 5, 1) := by decide +kernel
theorem d2_125 : decode method_4_code 125 = .ok (.newarray .char, 2) := by decide +kernel
theorem d2_127 : decode method_4_code 127 = .ok (.dup, 1) := by decide +kernel
theorem d2_128 : decode method_4_code 128 = .ok (.iconst 0, 1) := by decide +kernel
theorem d2_129 : decode method_4_code 129 = .ok (.iload_n 1, 1) := by decide +kernel
theorem d2_130 : decode method_4_code 130 = .ok (.castore, 1) := by decide +kernel
theorem d2_131 : decode method_4_code 131 = .ok (.dup, 1) := by decide +kernel
theorem d2_132 : decode method_4_code 132 = .ok (.iconst 1, 1) := by decide +kernel
theorem d2_133 : decode method_4_code 133 = .ok (.iload_n 2, 1) := by decide +kernel
theorem d2_134 : decode method_4_code 134 = .ok (.castore, 1) := by decide +kernel
theorem d2_135 : decode method_4_code 135 = .ok (.dup, 1) := by decide +kernel
theorem d2_136 : decode method_4_code 136 = .ok (.iconst 2, 1) := by decide +kernel
theorem d2_137 : decode method_4_code 137 = .ok (.iload_n 3, 1) := by decide +kernel
theorem d2_138 : decode method_4_code 138 = .ok (.castore, 1) := by decide +kernel
theorem d2_139 : decode method_4_code 139 = .ok (.dup, 1) := by decide +kernel
theorem d2_140 : decode method_4_code 140 = .ok (.iconst 3, 1) := by decide +kernel
theorem d2_141 : decode method_4_code 141 = .ok (.iload 4, 2) := by decide +kernel
theorem d2_143 : decode method_4_code 143 = .ok (.castore, 1) := by decide +kernel
theorem d2_144 : decode method_4_code 144 = .ok (.dup, 1) := by decide +kernel
theorem d2_145 : decode method_4_code 145 = .ok (.iconst 4, 1) := by decide +kernel
theorem d2_146 : decode method_4_code 146 = .ok (.iload 5, 2) := by decide +kernel
theorem d2_148 : decode method_4_code 148 = .ok (.castore, 1) := by decide +kernel
theorem d2_149 : decode method_4_code 149 = .ok (.invokespecial 9, 3) := by decide +kernel
theorem d2_152 : decode method_4_code 152 = .ok (.areturn, 1) := by decide +kernel

theorem d3_0 : decode jdk_42_method_3_code 0 = .ok (.aload_n 0, 1) := by decide +kernel
theorem d3_1 : decode jdk_42_method_3_code 1 = .ok (.aload_n 1, 1) := by decide +kernel
theorem d3_2 : decode jdk_42_method_3_code 2 = .ok (.iconst 0, 1) := by decide +kernel
theorem d3_3 : decode jdk_42_method_3_code 3 = .ok (.aload_n 1, 1) := by decide +kernel
theorem d3_4 : decode jdk_42_method_3_code 4 = .ok (.arraylength, 1) := by decide +kernel
theorem d3_5 : decode jdk_42_method_3_code 5 = .ok (.aconst_null, 1) := by decide +kernel
theorem d3_6 : decode jdk_42_method_3_code 6 = .ok (.invokespecial 27, 3) := by decide +kernel
theorem d3_9 : decode jdk_42_method_3_code 9 = .ok (.return_, 1) := by decide +kernel

theorem d4_0 : decode jdk_42_method_149_code 0 = .ok (.aload_n 0, 1) := by decide +kernel
theorem d4_1 : decode jdk_42_method_149_code 1 = .ok (.invokespecial 1, 3) := by decide +kernel
theorem d4_4 : decode jdk_42_method_149_code 4 = .ok (.iload_n 3, 1) := by decide +kernel
theorem d4_5 : decode jdk_42_method_149_code 5 = .ok (.ifCond .ne 22, 3) := by decide +kernel
theorem d4_8 : decode jdk_42_method_149_code 8 = .ok (.aload_n 0, 1) := by decide +kernel
theorem d4_9 : decode jdk_42_method_149_code 9 = .ok (.ldc 7, 2) := by decide +kernel
theorem d4_11 : decode jdk_42_method_149_code 11 = .ok (.getfield 9, 3) := by decide +kernel
theorem d4_14 : decode jdk_42_method_149_code 14 = .ok (.putfield 9, 3) := by decide +kernel
theorem d4_17 : decode jdk_42_method_149_code 17 = .ok (.aload_n 0, 1) := by decide +kernel
theorem d4_18 : decode jdk_42_method_149_code 18 = .ok (.ldc 7, 2) := by decide +kernel
theorem d4_20 : decode jdk_42_method_149_code 20 = .ok (.getfield 15, 3) := by decide +kernel
theorem d4_23 : decode jdk_42_method_149_code 23 = .ok (.putfield 15, 3) := by decide +kernel
theorem d4_26 : decode jdk_42_method_149_code 26 = .ok (.return_, 1) := by decide +kernel
theorem d4_27 : decode jdk_42_method_149_code 27 = .ok (.getstatic 38, 3) := by decide +kernel
theorem d4_30 : decode jdk_42_method_149_code 30 = .ok (.ifCond .eq 28, 3) := by decide +kernel
theorem d4_33 : decode jdk_42_method_149_code 33 = .ok (.aload_n 1, 1) := by decide +kernel
theorem d4_34 : decode jdk_42_method_149_code 34 = .ok (.iload_n 2, 1) := by decide +kernel
theorem d4_35 : decode jdk_42_method_149_code 35 = .ok (.iload_n 3, 1) := by decide +kernel
theorem d4_36 : decode jdk_42_method_149_code 36 = .ok (.invokestatic 177, 3) := by decide +kernel
theorem d4_39 : decode jdk_42_method_149_code 39 = .ok (.astore 5, 2) := by decide +kernel
theorem d4_41 : decode jdk_42_method_149_code 41 = .ok (.aload_n 0, 1) := by decide +kernel
theorem d4_42 : decode jdk_42_method_149_code 42 = .ok (.aload 5, 2) := by decide +kernel
theorem d4_44 : decode jdk_42_method_149_code 44 = .ok (.iload_n 3, 1) := by decide +kernel
theorem d4_45 : decode jdk_42_method_149_code 45 = .ok (.invokestatic 47, 3) := by decide +kernel
theorem d4_48 : decode jdk_42_method_149_code 48 = .ok (.putfield 15, 3) := by decide +kernel
theorem d4_51 : decode jdk_42_method_149_code 51 = .ok (.aload_n 0, 1) := by decide +kernel
theorem d4_52 : decode jdk_42_method_149_code 52 = .ok (.aload 5, 2) := by decide +kernel
theorem d4_54 : decode jdk_42_method_149_code 54 = .ok (.putfield 9, 3) := by decide +kernel
theorem d4_57 : decode jdk_42_method_149_code 57 = .ok (.return_, 1) := by decide +kernel
theorem d4_58 : decode jdk_42_method_149_code 58 = .ok (.aload_n 0, 1) := by decide +kernel
theorem d4_59 : decode jdk_42_method_149_code 59 = .ok (.iconst 1, 1) := by decide +kernel
theorem d4_60 : decode jdk_42_method_149_code 60 = .ok (.putfield 15, 3) := by decide +kernel
theorem d4_63 : decode jdk_42_method_149_code 63 = .ok (.aload_n 0, 1) := by decide +kernel
theorem d4_64 : decode jdk_42_method_149_code 64 = .ok (.aload_n 1, 1) := by decide +kernel
theorem d4_65 : decode jdk_42_method_149_code 65 = .ok (.iload_n 2, 1) := by decide +kernel
theorem d4_66 : decode jdk_42_method_149_code 66 = .ok (.iload_n 3, 1) := by decide +kernel
theorem d4_67 : decode jdk_42_method_149_code 67 = .ok (.invokestatic 180, 3) := by decide +kernel
theorem d4_70 : decode jdk_42_method_149_code 70 = .ok (.putfield 9, 3) := by decide +kernel
theorem d4_73 : decode jdk_42_method_149_code 73 = .ok (.return_, 1) := by decide +kernel

theorem d6_0 : decode prog_5_method_4_code 0 = .ok (.aload_n 0, 1) := by decide +kernel
theorem d6_1 : decode prog_5_method_4_code 1 = .ok (.invokevirtual 57, 3) := by decide +kernel
theorem d6_4 : decode prog_5_method_4_code 4 = .ok (.ifCond .ne 21, 3) := by decide +kernel
theorem d6_7 : decode prog_5_method_4_code 7 = .ok (.aload_n 0, 1) := by decide +kernel
theorem d6_8 : decode prog_5_method_4_code 8 = .ok (.iconst 0, 1) := by decide +kernel
theorem d6_9 : decode prog_5_method_4_code 9 = .ok (.invokestatic 23, 3) := by decide +kernel
theorem d6_12 : decode prog_5_method_4_code 12 = .ok (.aload_n 0, 1) := by decide +kernel
theorem d6_13 : decode prog_5_method_4_code 13 = .ok (.invokevirtual 19, 3) := by decide +kernel
theorem d6_16 : decode prog_5_method_4_code 16 = .ok (.iconst 1, 1) := by decide +kernel
theorem d6_17 : decode prog_5_method_4_code 17 = .ok (.isub, 1) := by decide +kernel
theorem d6_18 : decode prog_5_method_4_code 18 = .ok (.if_icmp .ne 7, 3) := by decide +kernel
theorem d6_21 : decode prog_5_method_4_code 21 = .ok (.iconst 1, 1) := by decide +kernel
theorem d6_22 : decode prog_5_method_4_code 22 = .ok (.goto 4, 3) := by decide +kernel
theorem d6_25 : decode prog_5_method_4_code 25 = .ok (.iconst 0, 1) := by decide +kernel
theorem d6_26 : decode prog_5_method_4_code 26 = .ok (.istore_n 1, 1) := by decide +kernel
theorem d6_27 : decode prog_5_method_4_code 27 = .ok (.iload_n 1, 1) := by decide +kernel
theorem d6_28 : decode prog_5_method_4_code 28 = .ok (.ifCond .eq 17, 3) := by decide +kernel
theorem d6_31 : decode prog_5_method_4_code 31 = .ok (.aload_n 0, 1) := by decide +kernel
theorem d6_32 : decode prog_5_method_4_code 32 = .ok (.iconst 1, 1) := by decide +kernel
theorem d6_33 : decode prog_5_method_4_code 33 = .ok (.aload_n 0, 1) := by decide +kernel
theorem d6_34 : decode prog_5_method_4_code 34 = .ok (.invokevirtual 19, 3) := by decide +kernel
theorem d6_37 : decode prog_5_method_4_code 37 = .ok (.iconst 1, 1) := by decide +kernel
theorem d6_38 : decode prog_5_method_4_code 38 = .ok (.isub, 1) := by decide +kernel
theorem d6_39 : decode prog_5_method_4_code 39 = .ok (.invokevirtual 31, 3) := by decide +kernel
theorem d6_42 : decode prog_5_method_4_code 42 = .ok (.goto 4, 3) := by decide +kernel
theorem d6_45 : decode prog_5_method_4_code 45 = .ok (.aconst_null, 1) := by decide +kernel
theorem d6_46 : decode prog_5_method_4_code 46 = .ok (.areturn, 1) := by decide +kernel

theorem d11_0 : decode prog_5_method_9_code 0 = .ok (.iconst (-1), 1) := by decide +kernel
theorem d11_1 : decode prog_5_method_9_code 1 = .ok (.istore_n 2, 1) := by decide +kernel
theorem d11_2 : decode prog_5_method_9_code 2 = .ok (.aload_n 0, 1) := by decide +kernel
theorem d11_3 : decode prog_5_method_9_code 3 = .ok (.iload_n 1, 1) := by decide +kernel
theorem d11_4 : decode prog_5_method_9_code 4 = .ok (.invokevirtual 61, 3) := by decide +kernel
theorem d11_7 : decode prog_5_method_9_code 7 = .ok (.bipush 123, 2) := by decide +kernel
theorem d11_9 : decode prog_5_method_9_code 9 = .ok (.if_icmp .ne 59, 3) := by decide +kernel
theorem d11_12 : decode prog_5_method_9_code 12 = .ok (.iload_n 1, 1) := by decide +kernel
theorem d11_13 : decode prog_5_method_9_code 13 = .ok (.iconst 1, 1) := by decide +kernel
theorem d11_14 : decode prog_5_method_9_code 14 = .ok (.iadd, 1) := by decide +kernel
theorem d11_15 : decode prog_5_method_9_code 15 = .ok (.istore_n 3, 1) := by decide +kernel
theorem d11_16 : decode prog_5_method_9_code 16 = .ok (.iload_n 3, 1) := by decide +kernel
theorem d11_17 : decode prog_5_method_9_code 17 = .ok (.aload_n 0, 1) := by decide +kernel
theorem d11_18 : decode prog_5_method_9_code 18 = .ok (.invokevirtual 19, 3) := by decide +kernel
theorem d11_21 : decode prog_5_method_9_code 21 = .ok (.if_icmp .ge 20, 3) := by decide +kernel
theorem d11_24 : decode prog_5_method_9_code 24 = .ok (.aload_n 0, 1) := by decide +kernel
theorem d11_25 : decode prog_5_method_9_code 25 = .ok (.iload_n 3, 1) := by decide +kernel
theorem d11_26 : decode prog_5_method_9_code 26 = .ok (.invokevirtual 61, 3) := by decide +kernel
theorem d11_29 : decode prog_5_method_9_code 29 = .ok (.invokestatic 91, 3) := by decide +kernel
theorem d11_32 : decode prog_5_method_9_code 32 = .ok (.ifCond .eq 9, 3) := by decide +kernel
theorem d11_35 : decode prog_5_method_9_code 35 = .ok (.iinc 3 1, 3) := by decide +kernel
theorem d11_38 : decode prog_5_method_9_code 38 = .ok (.goto (-22), 3) := by decide +kernel
theorem d11_41 : decode prog_5_method_9_code 41 = .ok (.iload_n 3, 1) := by decide +kernel
theorem d11_42 : decode prog_5_method_9_code 42 = .ok (.iload_n 1, 1) := by decide +kernel
theorem d11_43 : decode prog_5_method_9_code 43 = .ok (.iconst 1, 1) := by decide +kernel
theorem d11_44 : decode prog_5_method_9_code 44 = .ok (.iadd, 1) := by decide +kernel
theorem d11_45 : decode prog_5_method_9_code 45 = .ok (.if_icmp .le 23, 3) := by decide +kernel
theorem d11_48 : decode prog_5_method_9_code 48 = .ok (.iload_n 3, 1) := by decide +kernel
theorem d11_49 : decode prog_5_method_9_code 49 = .ok (.aload_n 0, 1) := by decide +kernel
theorem d11_50 : decode prog_5_method_9_code 50 = .ok (.invokevirtual 19, 3) := by decide +kernel
theorem d11_53 : decode prog_5_method_9_code 53 = .ok (.if_icmp .ge 15, 3) := by decide +kernel
theorem d11_56 : decode prog_5_method_9_code 56 = .ok (.aload_n 0, 1) := by decide +kernel
theorem d11_57 : decode prog_5_method_9_code 57 = .ok (.iload_n 3, 1) := by decide +kernel
theorem d11_58 : decode prog_5_method_9_code 58 = .ok (.invokevirtual 61, 3) := by decide +kernel
theorem d11_61 : decode prog_5_method_9_code 61 = .ok (.bipush 125, 2) := by decide +kernel
theorem d11_63 : decode prog_5_method_9_code 63 = .ok (.if_icmp .ne 5, 3) := by decide +kernel
theorem d11_66 : decode prog_5_method_9_code 66 = .ok (.iload_n 3, 1) := by decide +kernel
theorem d11_67 : decode prog_5_method_9_code 67 = .ok (.istore_n 2, 1) := by decide +kernel
theorem d11_68 : decode prog_5_method_9_code 68 = .ok (.iload_n 2, 1) := by decide +kernel
theorem d11_69 : decode prog_5_method_9_code 69 = .ok (.ireturn, 1) := by decide +kernel

theorem d19_0 : decode prog_5_method_10_code 0 = .ok (.iload_n 0, 1) := by decide +kernel
theorem d19_1 : decode prog_5_method_10_code 1 = .ok (.bipush 123, 2) := by decide +kernel
theorem d19_3 : decode prog_5_method_10_code 3 = .ok (.if_icmp .eq 19, 3) := by decide +kernel
theorem d19_6 : decode prog_5_method_10_code 6 = .ok (.iload_n 0, 1) := by decide +kernel
theorem d19_7 : decode prog_5_method_10_code 7 = .ok (.bipush 125, 2) := by decide +kernel
theorem d19_9 : decode prog_5_method_10_code 9 = .ok (.if_icmp .eq 13, 3) := by decide +kernel
theorem d19_12 : decode prog_5_method_10_code 12 = .ok (.iload_n 0, 1) := by decide +kernel
theorem d19_13 : decode prog_5_method_10_code 13 = .ok (.bipush 92, 2) := by decide +kernel
theorem d19_15 : decode prog_5_method_10_code 15 = .ok (.if_icmp .eq 7, 3) := by decide +kernel
theorem d19_18 : decode prog_5_method_10_code 18 = .ok (.iconst 1, 1) := by decide +kernel
theorem d19_19 : decode prog_5_method_10_code 19 = .ok (.goto 4, 3) := by decide +kernel
theorem d19_22 : decode prog_5_method_10_code 22 = .ok (.iconst 0, 1) := by decide +kernel
theorem d19_23 : decode prog_5_method_10_code 23 = .ok (.ireturn, 1) := by decide +kernel

theorem d20_0 : decode method_3_code 0 = .ok (.iload_n 0, 1) := by decide +kernel
theorem d20_1 : decode method_3_code 1 = .ok (.bipush 123, 2) := by decide +kernel
theorem d20_3 : decode method_3_code 3 = .ok (.if_icmp .eq 19, 3) := by decide +kernel
theorem d20_6 : decode method_3_code 6 = .ok (.iload_n 0, 1) := by decide +kernel
theorem d20_7 : decode method_3_code 7 = .ok (.bipush 125, 2) := by decide +kernel
theorem d20_9 : decode method_3_code 9 = .ok (.if_icmp .eq 13, 3) := by decide +kernel
theorem d20_12 : decode method_3_code 12 = .ok (.iload_n 0, 1) := by decide +kernel
theorem d20_13 : decode method_3_code 13 = .ok (.bipush 92, 2) := by decide +kernel
theorem d20_15 : decode method_3_code 15 = .ok (.if_icmp .eq 7, 3) := by decide +kernel
theorem d20_18 : decode method_3_code 18 = .ok (.iconst 1, 1) := by decide +kernel
theorem d20_19 : decode method_3_code 19 = .ok (.goto 4, 3) := by decide +kernel
theorem d20_22 : decode method_3_code 22 = .ok (.iconst 0, 1) := by decide +kernel
theorem d20_23 : decode method_3_code 23 = .ok (.ireturn, 1) := by decide +kernel

theorem d21_0 : decode jdk_42_method_92_code 0 = .ok (.aload_n 0, 1) := by decide +kernel
theorem d21_1 : decode jdk_42_method_92_code 1 = .ok (.invokevirtual 505, 3) := by decide +kernel
theorem d21_4 : decode jdk_42_method_92_code 4 = .ok (.istore_n 3, 1) := by decide +kernel
theorem d21_5 : decode jdk_42_method_92_code 5 = .ok (.iload_n 1, 1) := by decide +kernel
theorem d21_6 : decode jdk_42_method_92_code 6 = .ok (.iload_n 2, 1) := by decide +kernel
theorem d21_7 : decode jdk_42_method_92_code 7 = .ok (.iload_n 3, 1) := by decide +kernel
theorem d21_8 : decode jdk_42_method_92_code 8 = .ok (.invokestatic 521, 3) := by decide +kernel
theorem d21_11 : decode jdk_42_method_92_code 11 = .ok (.iload_n 1, 1) := by decide +kernel
theorem d21_12 : decode jdk_42_method_92_code 12 = .ok (.ifCond .ne 10, 3) := by decide +kernel
theorem d21_15 : decode jdk_42_method_92_code 15 = .ok (.iload_n 2, 1) := by decide +kernel
theorem d21_16 : decode jdk_42_method_92_code 16 = .ok (.iload_n 3, 1) := by decide +kernel
theorem d21_17 : decode jdk_42_method_92_code 17 = .ok (.if_icmp .ne 5, 3) := by decide +kernel
theorem d21_20 : decode jdk_42_method_92_code 20 = .ok (.aload_n 0, 1) := by decide +kernel
theorem d21_21 : decode jdk_42_method_92_code 21 = .ok (.areturn, 1) := by decide +kernel
theorem d21_22 : decode jdk_42_method_92_code 22 = .ok (.iload_n 2, 1) := by decide +kernel
theorem d21_23 : decode jdk_42_method_92_code 23 = .ok (.iload_n 1, 1) := by decide +kernel
theorem d21_24 : decode jdk_42_method_92_code 24 = .ok (.isub, 1) := by decide +kernel
theorem d21_25 : decode jdk_42_method_92_code 25 = .ok (.istore 4, 2) := by decide +kernel
theorem d21_27 : decode jdk_42_method_92_code 27 = .ok (.aload_n 0, 1) := by decide +kernel
theorem d21_28 : decode jdk_42_method_92_code 28 = .ok (.invokevirtual 492, 3) := by decide +kernel
theorem d21_31 : decode jdk_42_method_92_code 31 = .ok (.ifCond .eq 16, 3) := by decide +kernel
theorem d21_34 : decode jdk_42_method_92_code 34 = .ok (.aload_n 0, 1) := by decide +kernel
theorem d21_35 : decode jdk_42_method_92_code 35 = .ok (.getfield 9, 3) := by decide +kernel
theorem d21_38 : decode jdk_42_method_92_code 38 = .ok (.iload_n 1, 1) := by decide +kernel
theorem d21_39 : decode jdk_42_method_92_code 39 = .ok (.iload 4, 2) := by decide +kernel
theorem d21_41 : decode jdk_42_method_92_code 41 = .ok (.invokestatic 685, 3) := by decide +kernel
theorem d21_44 : decode jdk_42_method_92_code 44 = .ok (.goto 13, 3) := by decide +kernel
theorem d21_47 : decode jdk_42_method_92_code 47 = .ok (.aload_n 0, 1) := by decide +kernel
theorem d21_48 : decode jdk_42_method_92_code 48 = .ok (.getfield 9, 3) := by decide +kernel
theorem d21_51 : decode jdk_42_method_92_code 51 = .ok (.iload_n 1, 1) := by decide +kernel
theorem d21_52 : decode jdk_42_method_92_code 52 = .ok (.iload 4, 2) := by decide +kernel
theorem d21_54 : decode jdk_42_method_92_code 54 = .ok (.invokestatic 689, 3) := by decide +kernel
theorem d21_57 : decode jdk_42_method_92_code 57 = .ok (.areturn, 1) := by decide +kernel

theorem d22_0 : decode jdk_42_method_158_code 0 = .ok (.iload_n 0, 1) := by decide +kernel
theorem d22_1 : decode jdk_42_method_158_code 1 = .ok (.iload_n 1, 1) := by decide +kernel
theorem d22_2 : decode jdk_42_method_158_code 2 = .ok (.iload_n 2, 1) := by decide +kernel
theorem d22_3 : decode jdk_42_method_158_code 3 = .ok (.getstatic 1053, 3) := by decide +kernel
theorem d22_6 : decode jdk_42_method_158_code 6 = .ok (.invokestatic 1062, 3) := by decide +kernel
theorem d22_9 : decode jdk_42_method_158_code 9 = .ok (.pop, 1) := by decide +kernel
theorem d22_10 : decode jdk_42_method_158_code 10 = .ok (.return_, 1) := by decide +kernel

theorem d23_0 : decode jdk_41_method_12_code 0 = .ok (.iload_n 0, 1) := by decide +kernel
theorem d23_1 : decode jdk_41_method_12_code 1 = .ok (.ifCond .lt 13, 3) := by decide +kernel
theorem d23_4 : decode jdk_41_method_12_code 4 = .ok (.iload_n 0, 1) := by decide +kernel
theorem d23_5 : decode jdk_41_method_12_code 5 = .ok (.iload_n 1, 1) := by decide +kernel
theorem d23_6 : decode jdk_41_method_12_code 6 = .ok (.if_icmp .gt 8, 3) := by decide +kernel
theorem d23_9 : decode jdk_41_method_12_code 9 = .ok (.iload_n 1, 1) := by decide +kernel
theorem d23_10 : decode jdk_41_method_12_code 10 = .ok (.iload_n 2, 1) := by decide +kernel
theorem d23_11 : decode jdk_41_method_12_code 11 = .ok (.if_icmp .le 11, 3) := by decide +kernel
theorem d23_14 : decode jdk_41_method_12_code 14 = .ok (.aload_n 3, 1) := by decide +kernel
theorem d23_15 : decode jdk_41_method_12_code 15 = .ok (.iload_n 0, 1) := by decide +kernel
theorem d23_16 : decode jdk_41_method_12_code 16 = .ok (.iload_n 1, 1) := by decide +kernel
theorem d23_17 : decode jdk_41_method_12_code 17 = .ok (.iload_n 2, 1) := by decide +kernel
theorem d23_18 : decode jdk_41_method_12_code 18 = .ok (.invokestatic 99, 3) := by decide +kernel
theorem d23_21 : decode jdk_41_method_12_code 21 = .ok (.athrow, 1) := by decide +kernel
theorem d23_22 : decode jdk_41_method_12_code 22 = .ok (.iload_n 0, 1) := by decide +kernel
theorem d23_23 : decode jdk_41_method_12_code 23 = .ok (.ireturn, 1) := by decide +kernel

theorem d24_0 : decode jdk_43_method_47_code 0 = .ok (.iload_n 2, 1) := by decide +kernel
theorem d24_1 : decode jdk_43_method_47_code 1 = .ok (.ifCond .ne 6, 3) := by decide +kernel
theorem d24_4 : decode jdk_43_method_47_code 4 = .ok (.ldc 151, 2) := by decide +kernel
theorem d24_6 : decode jdk_43_method_47_code 6 = .ok (.areturn, 1) := by decide +kernel
theorem d24_7 : decode jdk_43_method_47_code 7 = .ok (.new 1, 3) := by decide +kernel
theorem d24_10 : decode jdk_43_method_47_code 10 = .ok (.dup, 1) := by decide +kernel
theorem d24_11 : decode jdk_43_method_47_code 11 = .ok (.aload_n 0, 1) := by decide +kernel
theorem d24_12 : decode jdk_43_method_47_code 12 = .ok (.iload_n 1, 1) := by decide +kernel
theorem d24_13 : decode jdk_43_method_47_code 13 = .ok (.iload_n 1, 1) := by decide +kernel
theorem d24_14 : decode jdk_43_method_47_code 14 = .ok (.iload_n 2, 1) := by decide +kernel
theorem d24_15 : decode jdk_43_method_47_code 15 = .ok (.iadd, 1) := by decide +kernel
theorem d24_16 : decode jdk_43_method_47_code 16 = .ok (.invokestatic 232, 3) := by decide +kernel
theorem d24_19 : decode jdk_43_method_47_code 19 = .ok (.iconst 0, 1) := by decide +kernel
theorem d24_20 : decode jdk_43_method_47_code 20 = .ok (.invokespecial 112, 3) := by decide +kernel
theorem d24_23 : decode jdk_43_method_47_code 23 = .ok (.areturn, 1) := by decide +kernel

theorem d25_0 : decode jdk_65_method_132_code 0 = .ok (.iload_n 1, 1) := by decide +kernel
theorem d25_1 : decode jdk_65_method_132_code 1 = .ok (.ifCond .ne 9, 3) := by decide +kernel
theorem d25_4 : decode jdk_65_method_132_code 4 = .ok (.iload_n 2, 1) := by decide +kernel
theorem d25_5 : decode jdk_65_method_132_code 5 = .ok (.aload_n 0, 1) := by decide +kernel
theorem d25_6 : decode jdk_65_method_132_code 6 = .ok (.arraylength, 1) := by decide +kernel
theorem d25_7 : decode jdk_65_method_132_code 7 = .ok (.if_icmp .eq 10, 3) := by decide +kernel
theorem d25_10 : decode jdk_65_method_132_code 10 = .ok (.aload_n 0, 1) := by decide +kernel
theorem d25_11 : decode jdk_65_method_132_code 11 = .ok (.iload_n 1, 1) := by decide +kernel
theorem d25_12 : decode jdk_65_method_132_code 12 = .ok (.iload_n 2, 1) := by decide +kernel
theorem d25_13 : decode jdk_65_method_132_code 13 = .ok (.invokestatic 339, 3) := by decide +kernel
theorem d25_16 : decode jdk_65_method_132_code 16 = .ok (.areturn, 1) := by decide +kernel
theorem d25_17 : decode jdk_65_method_132_code 17 = .ok (.aload_n 0, 1) := by decide +kernel
theorem d25_18 : decode jdk_65_method_132_code 18 = .ok (.invokevirtual 310, 3) := by decide +kernel
theorem d25_21 : decode jdk_65_method_132_code 21 = .ok (.checkcast 311, 3) := by decide +kernel
theorem d25_24 : decode jdk_65_method_132_code 24 = .ok (.areturn, 1) := by decide +kernel

theorem d26_0 : decode jdk_65_method_133_code 0 = .ok (.iload_n 1, 1) := by decide +kernel
theorem d26_1 : decode jdk_65_method_133_code 1 = .ok (.iload_n 2, 1) := by decide +kernel
theorem d26_2 : decode jdk_65_method_133_code 2 = .ok (.invokestatic 343, 3) := by decide +kernel
theorem d26_5 : decode jdk_65_method_133_code 5 = .ok (.iload_n 2, 1) := by decide +kernel
theorem d26_6 : decode jdk_65_method_133_code 6 = .ok (.iload_n 1, 1) := by decide +kernel
theorem d26_7 : decode jdk_65_method_133_code 7 = .ok (.isub, 1) := by decide +kernel
theorem d26_8 : decode jdk_65_method_133_code 8 = .ok (.istore_n 3, 1) := by decide +kernel
theorem d26_9 : decode jdk_65_method_133_code 9 = .ok (.iload_n 3, 1) := by decide +kernel
theorem d26_10 : decode jdk_65_method_133_code 10 = .ok (.newarray .byte, 2) := by decide +kernel
theorem d26_12 : decode jdk_65_method_133_code 12 = .ok (.astore 4, 2) := by decide +kernel
theorem d26_14 : decode jdk_65_method_133_code 14 = .ok (.aload_n 0, 1) := by decide +kernel
theorem d26_15 : decode jdk_65_method_133_code 15 = .ok (.iload_n 1, 1) := by decide +kernel
theorem d26_16 : decode jdk_65_method_133_code 16 = .ok (.aload 4, 2) := by decide +kernel
theorem d26_18 : decode jdk_65_method_133_code 18 = .ok (.iconst 0, 1) := by decide +kernel
theorem d26_19 : decode jdk_65_method_133_code 19 = .ok (.aload_n 0, 1) := by decide +kernel
theorem d26_20 : decode jdk_65_method_133_code 20 = .ok (.arraylength, 1) := by decide +kernel
theorem d26_21 : decode jdk_65_method_133_code 21 = .ok (.iload_n 1, 1) := by decide +kernel
theorem d26_22 : decode jdk_65_method_133_code 22 = .ok (.isub, 1) := by decide +kernel
theorem d26_23 : decode jdk_65_method_133_code 23 = .ok (.iload_n 3, 1) := by decide +kernel
theorem d26_24 : decode jdk_65_method_133_code 24 = .ok (.invokestatic 304, 3) := by decide +kernel
theorem d26_27 : decode jdk_65_method_133_code 27 = .ok (.invokestatic 150, 3) := by decide +kernel
theorem d26_30 : decode jdk_65_method_133_code 30 = .ok (.aload 4, 2) := by decide +kernel
theorem d26_32 : decode jdk_65_method_133_code 32 = .ok (.areturn, 1) := by decide +kernel

theorem d27_0 : decode jdk_65_method_131_code 0 = .ok (.iload_n 1, 1) := by decide +kernel
theorem d27_1 : decode jdk_65_method_131_code 1 = .ok (.iload_n 0, 1) := by decide +kernel
theorem d27_2 : decode jdk_65_method_131_code 2 = .ok (.if_icmp .ge 35, 3) := by decide +kernel
theorem d27_5 : decode jdk_65_method_131_code 5 = .ok (.new 43, 3) := by decide +kernel
theorem d27_8 : decode jdk_65_method_131_code 8 = .ok (.dup, 1) := by decide +kernel
theorem d27_9 : decode jdk_65_method_131_code 9 = .ok (.new 45, 3) := by decide +kernel
theorem d27_12 : decode jdk_65_method_131_code 12 = .ok (.dup, 1) := by decide +kernel
theorem d27_13 : decode jdk_65_method_131_code 13 = .ok (.invokespecial 47, 3) := by decide +kernel
theorem d27_16 : decode jdk_65_method_131_code 16 = .ok (.iload_n 0, 1) := by decide +kernel
theorem d27_17 : decode jdk_65_method_131_code 17 = .ok (.invokevirtual 54, 3) := by decide +kernel
theorem d27_20 : decode jdk_65_method_131_code 20 = .ok (.ldc_w 337, 3) := by decide +kernel
theorem d27_23 : decode jdk_65_method_131_code 23 = .ok (.invokevirtual 50, 3) := by decide +kernel
theorem d27_26 : decode jdk_65_method_131_code 26 = .ok (.iload_n 1, 1) := by decide +kernel
theorem d27_27 : decode jdk_65_method_131_code 27 = .ok (.invokevirtual 54, 3) := by decide +kernel
theorem d27_30 : decode jdk_65_method_131_code 30 = .ok (.invokevirtual 61, 3) := by decide +kernel
theorem d27_33 : decode jdk_65_method_131_code 33 = .ok (.invokespecial 65, 3) := by decide +kernel
theorem d27_36 : decode jdk_65_method_131_code 36 = .ok (.athrow, 1) := by decide +kernel
theorem d27_37 : decode jdk_65_method_131_code 37 = .ok (.return_, 1) := by decide +kernel

theorem d28_0 : decode jdk_29_method_69_code 0 = .ok (.iload_n 0, 1) := by decide +kernel
theorem d28_1 : decode jdk_29_method_69_code 1 = .ok (.iload_n 1, 1) := by decide +kernel
theorem d28_2 : decode jdk_29_method_69_code 2 = .ok (.if_icmp .gt 7, 3) := by decide +kernel
theorem d28_5 : decode jdk_29_method_69_code 5 = .ok (.iload_n 0, 1) := by decide +kernel
theorem d28_6 : decode jdk_29_method_69_code 6 = .ok (.goto 4, 3) := by decide +kernel
theorem d28_9 : decode jdk_29_method_69_code 9 = .ok (.iload_n 1, 1) := by decide +kernel
theorem d28_10 : decode jdk_29_method_69_code 10 = .ok (.ireturn, 1) := by decide +kernel

theorem d29_0 : decode jdk_42_method_151_code 0 = .ok (.aload_n 0, 1) := by decide +kernel
theorem d29_1 : decode jdk_42_method_151_code 1 = .ok (.invokespecial 1, 3) := by decide +kernel
theorem d29_4 : decode jdk_42_method_151_code 4 = .ok (.aload_n 0, 1) := by decide +kernel
theorem d29_5 : decode jdk_42_method_151_code 5 = .ok (.aload_n 1, 1) := by decide +kernel
theorem d29_6 : decode jdk_42_method_151_code 6 = .ok (.putfield 9, 3) := by decide +kernel
theorem d29_9 : decode jdk_42_method_151_code 9 = .ok (.aload_n 0, 1) := by decide +kernel
theorem d29_10 : decode jdk_42_method_151_code 10 = .ok (.iload_n 2, 1) := by decide +kernel
theorem d29_11 : decode jdk_42_method_151_code 11 = .ok (.putfield 15, 3) := by decide +kernel
theorem d29_14 : decode jdk_42_method_151_code 14 = .ok (.return_, 1) := by decide +kernel

theorem d13_0 : decode jdk_42_method_154_code 0 = .ok (.getstatic 38, 3) := by decide +kernel
theorem d13_3 : decode jdk_42_method_154_code 3 = .ok (.ifCond .eq 14, 3) := by decide +kernel
theorem d13_6 : decode jdk_42_method_154_code 6 = .ok (.aload_n 0, 1) := by decide +kernel
theorem d13_7 : decode jdk_42_method_154_code 7 = .ok (.getfield 15, 3) := by decide +kernel
theorem d13_10 : decode jdk_42_method_154_code 10 = .ok (.ifCond .ne 7, 3) := by decide +kernel
theorem d13_13 : decode jdk_42_method_154_code 13 = .ok (.iconst 1, 1) := by decide +kernel
theorem d13_14 : decode jdk_42_method_154_code 14 = .ok (.goto 4, 3) := by decide +kernel
theorem d13_17 : decode jdk_42_method_154_code 17 = .ok (.iconst 0, 1) := by decide +kernel
theorem d13_18 : decode jdk_42_method_154_code 18 = .ok (.ireturn, 1) := by decide +kernel

theorem pn_k0 : plainName "com/example/oxpecker/oxpecker/MessageTemplateSoleParameterPinLaw" = true := by first | (simp [plainName, overriddenIn]; done) | decide +kernel

theorem pn_k1 : plainName "com/example/oxpecker/oxpecker/MessageTemplate" = true := by first | (simp [plainName, overriddenIn]; done) | decide +kernel

theorem pn_k2 : plainName "java/lang/String" = true := by first | (simp [plainName, overriddenIn]; done) | decide +kernel

theorem pn_k3 : plainName "jdk/internal/util/Preconditions" = true := by first | (simp [plainName, overriddenIn]; done) | decide +kernel

theorem pn_k4 : plainName "java/lang/StringLatin1" = true := by first | (simp [plainName, overriddenIn]; done) | decide +kernel

theorem pn_k5 : plainName "java/util/Arrays" = true := by first | (simp [plainName, overriddenIn]; done) | decide +kernel

theorem own_narc {z : Int32} (h : ¬ z < 0 ∧ ¬ (255 : Int32) < z) : narrow .char (.int z) = .int z := by
  have q := own_nar h
  exact congrArg Value.int q
theorem own_chrv (y : Int32) : ¬ ((y &&& (255 : Int32)).toUInt32.toUInt16.toUInt32.toInt32) < 0 ∧ ¬ (255 : Int32) < ((y &&& (255 : Int32)).toUInt32.toUInt16.toUInt32.toInt32) := by
  have h := c_mask y 255 8 (by decide) (by decide)
  generalize y &&& (255 : Int32) = z at h ⊢
  have q := c_i2c z
  simp only [Int32.lt_iff_toInt_lt]
  have e1 : (0 : Int32).toInt = 0 := rfl
  have e2 : (255 : Int32).toInt = 255 := rfl
  omega

theorem pd_ch : parseMethodDescriptor "(I)C" = some ⟨[.int], some .char⟩ := by decide +kernel

theorem ef_ch (m : MethodId) (x0 : Int32)  : entryFrame m #[(.int x0)] 2 = mkF m 0 #[.val (.int x0), .unset] [] := by first | (simp [entryFrame, mkF, argsToLocals, Value.category]; done) | rfl
def Qch (Z : State) (p1 : Int32) (h0 : Heap) (n0 : Nat) (v : Option Value) (h : Heap) (L : List Loc) : Prop := v = some (.int (own_ch p1)) ∧ Fr n0 L ∧ h = h0
set_option maxRecDepth 65536 in
set_option maxHeartbeats 40000000 in
theorem rmch (l : Launch) (Z : State) (a0 : Array Value) (hw : ∀ d ∈ tables_1, d.before a0 Z = true) (ws : List Jvm.Cond) (p1 : Int32) (h0 : Heap) (n0 : Nat) (Z0 : n0 ≤ h0.size)  :
    MetFree l (⟨"com/example/oxpecker/oxpecker/MessageTemplateSoleParameterPinLaw", "ch", "(I)C"⟩ : MethodName) (head1 (Jvm.Cond.code (⟨"com/example/oxpecker/oxpecker/MessageTemplateSoleParameterPinLaw", "ch", "(I)C"⟩ : MethodName) method_2_code 2 (some .char) :: ws) ({ frames := 0, cells := 0, slots := 0, locals := 0 } : Room)) (fun a U => a = #[(.int p1)] ∧ Z.Warmed39 U.vm ∧ U.heap = h0) (fun _ _ _ _ _ => True) (fun _ U o U' => ∃ v L, o = .returned v ∧ Qch Z p1 h0 n0 v U'.heap L ∧ FrameEnd U o U' L ({ frames := 0, cells := 0, slots := 0, locals := 0 } : Room).cells ({ frames := 0, cells := 0, slots := 0, locals := 0 } : Room).slots) := by
  refine MetFree.of_bodySF (plainFor_of_name pn_k0) hisR ?_
  intro p e s m args below meth c s₁ Bd hml0 hP hK
  obtain ⟨rfl, hZ, hh⟩ := hP
  have hx := Bd.exec
  have hby := Bd.bytes
  have hml : c.maxLocals = 2 := hml0
  have hown : s.vm.findClass "com/example/oxpecker/oxpecker/MessageTemplateSoleParameterPinLaw" = some m.cls := findClass_of_methodNamed Bd.named
  have hnm := (name_of_methodNamed Bd.named Bd.method).1
  have X0 : Stand p l e ({ frames := 0, cells := 0, slots := 0, locals := 0 } : Room) s m #[(.int p1)] below meth c s₁ [] 0 0 := Stand.of_body Bd
  have e0 : s₁.heap = h0 := by rw [← hh, Bd.state]; rfl
  have N0 := Fr.nil n0
  have pre0 : ∀ t, Steps p.tables e below (s₁.setTop (mkF m 0 #[.val (.int p1), .unset] [])) t → Steps p.tables e below (s₁.setTop (entryFrame m #[(.int p1)] 2)) t := fun t k => castTop (ef_ch m p1) k
  have pre1 : ∀ t, Steps p.tables e below (s₁.setTop (mkF m 5 #[.val (.int p1), .val (.int (p1 &&& (3 : Int32)))] [(.int (p1 &&& (3 : Int32)))])) t → Steps p.tables e below (s₁.setTop (entryFrame m #[(.int p1)] 2)) t := fun t k => pre0 t (by
    show Steps p.tables e below (s₁.setTop (mkF m 0 #[.val (.int p1), .unset] [])) _
    refine XS.iloadN X0.here hx rfl (hb hby d1_0) rfl ?_
    refine XS.iconst X0.here hx rfl (hb hby d1_1) ?_
    refine XS.iand X0.here hx rfl (hb hby d1_2) rfl ?_
    refine XS.istoreN X0.here hx rfl (hb hby d1_3) rfl (l' := #[.val (.int p1), .val (.int (p1 &&& (3 : Int32)))]) rfl ?_
    refine XS.iloadN X0.here hx rfl (hb hby d1_4) rfl ?_
    exact k)
  by_cases hc5 : (p1 &&& (3 : Int32)) = (0 : Int32)
  · have pre2 : ∀ t, Steps p.tables e below (s₁.setTop (mkF m 10 #[.val (.int p1), .val (.int (p1 &&& (3 : Int32)))] [(.int (123 : Int32))])) t → Steps p.tables e below (s₁.setTop (entryFrame m #[(.int p1)] 2)) t := fun t k => pre1 t (by
      show Steps p.tables e below (s₁.setTop (mkF m 5 #[.val (.int p1), .val (.int (p1 &&& (3 : Int32)))] [(.int (p1 &&& (3 : Int32)))])) _
      refine XS.ifNo X0.here hx rfl (hb hby d1_5) rfl ((if0 _ _).trans (teq hc5).2) ?_
      refine XS.bipush X0.here hx rfl (hb hby d1_8) ?_
      exact k)
    obtain ⟨fs3, hr3, hrun3, hended3, hW3, hsame3⟩ := X0.leave (v := some (.int (123 : Int32))) (fun h => by rw [Bd.returns] at h; cases h)
    refine ⟨_, _, pre2 _ ?_, hrun3, hended3, _, _, rfl, ?_, ⟨_, rfl⟩, hW3, hsame3.mono (by decide) (by decide)⟩
    · show Steps p.tables e below (s₁.setTop (mkF m 10 #[.val (.int p1), .val (.int (p1 &&& (3 : Int32)))] [(.int (123 : Int32))])) _
      exact retOut X0 hx (t := .char) Bd.returns (own_narc (by first | exact (by decide) | exact own_chrv _)) (Or.inl ⟨rfl, by simp, _, rfl⟩) (hb hby d1_10) hr3
    · show Qch Z p1 h0 n0 _ s₁.heap _
      rw [e0]
      exact ⟨by unfold own_ch; rw [if_pos hc5], N0, rfl⟩
  have pre4 : ∀ t, Steps p.tables e below (s₁.setTop (mkF m 13 #[.val (.int p1), .val (.int (p1 &&& (3 : Int32)))] [(.int (1 : Int32)), (.int (p1 &&& (3 : Int32)))])) t → Steps p.tables e below (s₁.setTop (entryFrame m #[(.int p1)] 2)) t := fun t k => pre1 t (by
    show Steps p.tables e below (s₁.setTop (mkF m 5 #[.val (.int p1), .val (.int (p1 &&& (3 : Int32)))] [(.int (p1 &&& (3 : Int32)))])) _
    refine XS.ifYes X0.here hx rfl (pc0 := 5) (pc' := 11) rfl (hb hby d1_5) rfl ((if0 _ _).trans (feq hc5).2) (by decide) (by decide) ?_
    refine XS.iloadN X0.here hx rfl (hb hby d1_11) rfl ?_
    refine XS.iconst X0.here hx rfl (hb hby d1_12) ?_
    exact k)
  by_cases hc13 : (p1 &&& (3 : Int32)) = (1 : Int32)
  · have pre5 : ∀ t, Steps p.tables e below (s₁.setTop (mkF m 18 #[.val (.int p1), .val (.int (p1 &&& (3 : Int32)))] [(.int (125 : Int32))])) t → Steps p.tables e below (s₁.setTop (entryFrame m #[(.int p1)] 2)) t := fun t k => pre4 t (by
      show Steps p.tables e below (s₁.setTop (mkF m 13 #[.val (.int p1), .val (.int (p1 &&& (3 : Int32)))] [(.int (1 : Int32)), (.int (p1 &&& (3 : Int32)))])) _
      refine XS.icmpNo X0.here hx rfl (hb hby d1_13) rfl (teq hc13).2 ?_
      refine XS.bipush X0.here hx rfl (hb hby d1_16) ?_
      exact k)
    obtain ⟨fs6, hr6, hrun6, hended6, hW6, hsame6⟩ := X0.leave (v := some (.int (125 : Int32))) (fun h => by rw [Bd.returns] at h; cases h)
    refine ⟨_, _, pre5 _ ?_, hrun6, hended6, _, _, rfl, ?_, ⟨_, rfl⟩, hW6, hsame6.mono (by decide) (by decide)⟩
    · show Steps p.tables e below (s₁.setTop (mkF m 18 #[.val (.int p1), .val (.int (p1 &&& (3 : Int32)))] [(.int (125 : Int32))])) _
      exact retOut X0 hx (t := .char) Bd.returns (own_narc (by first | exact (by decide) | exact own_chrv _)) (Or.inl ⟨rfl, by simp, _, rfl⟩) (hb hby d1_18) hr6
    · show Qch Z p1 h0 n0 _ s₁.heap _
      rw [e0]
      exact ⟨by unfold own_ch; rw [if_neg hc5, if_pos hc13], N0, rfl⟩
  have pre7 : ∀ t, Steps p.tables e below (s₁.setTop (mkF m 21 #[.val (.int p1), .val (.int (p1 &&& (3 : Int32)))] [(.int (2 : Int32)), (.int (p1 &&& (3 : Int32)))])) t → Steps p.tables e below (s₁.setTop (entryFrame m #[(.int p1)] 2)) t := fun t k => pre4 t (by
    show Steps p.tables e below (s₁.setTop (mkF m 13 #[.val (.int p1), .val (.int (p1 &&& (3 : Int32)))] [(.int (1 : Int32)), (.int (p1 &&& (3 : Int32)))])) _
    refine XS.icmpYes X0.here hx rfl (pc0 := 13) (pc' := 19) rfl (hb hby d1_13) rfl (feq hc13).2 (by decide) (by decide) ?_
    refine XS.iloadN X0.here hx rfl (hb hby d1_19) rfl ?_
    refine XS.iconst X0.here hx rfl (hb hby d1_20) ?_
    exact k)
  by_cases hc21 : (p1 &&& (3 : Int32)) = (2 : Int32)
  · have pre8 : ∀ t, Steps p.tables e below (s₁.setTop (mkF m 26 #[.val (.int p1), .val (.int (p1 &&& (3 : Int32)))] [(.int (92 : Int32))])) t → Steps p.tables e below (s₁.setTop (entryFrame m #[(.int p1)] 2)) t := fun t k => pre7 t (by
      show Steps p.tables e below (s₁.setTop (mkF m 21 #[.val (.int p1), .val (.int (p1 &&& (3 : Int32)))] [(.int (2 : Int32)), (.int (p1 &&& (3 : Int32)))])) _
      refine XS.icmpNo X0.here hx rfl (hb hby d1_21) rfl (teq hc21).2 ?_
      refine XS.bipush X0.here hx rfl (hb hby d1_24) ?_
      exact k)
    obtain ⟨fs9, hr9, hrun9, hended9, hW9, hsame9⟩ := X0.leave (v := some (.int (92 : Int32))) (fun h => by rw [Bd.returns] at h; cases h)
    refine ⟨_, _, pre8 _ ?_, hrun9, hended9, _, _, rfl, ?_, ⟨_, rfl⟩, hW9, hsame9.mono (by decide) (by decide)⟩
    · show Steps p.tables e below (s₁.setTop (mkF m 26 #[.val (.int p1), .val (.int (p1 &&& (3 : Int32)))] [(.int (92 : Int32))])) _
      exact retOut X0 hx (t := .char) Bd.returns (own_narc (by first | exact (by decide) | exact own_chrv _)) (Or.inl ⟨rfl, by simp, _, rfl⟩) (hb hby d1_26) hr9
    · show Qch Z p1 h0 n0 _ s₁.heap _
      rw [e0]
      exact ⟨by unfold own_ch; rw [if_neg hc5, if_neg hc13, if_pos hc21], N0, rfl⟩
  have pre10 : ∀ t, Steps p.tables e below (s₁.setTop (mkF m 35 #[.val (.int p1), .val (.int (p1 &&& (3 : Int32)))] [(.int ((((p1.toUInt32 >>> ((2 : Int32) &&& 31).toUInt32).toInt32) &&& (255 : Int32)).toUInt32.toUInt16.toUInt32.toInt32))])) t → Steps p.tables e below (s₁.setTop (entryFrame m #[(.int p1)] 2)) t := fun t k => pre7 t (by
    show Steps p.tables e below (s₁.setTop (mkF m 21 #[.val (.int p1), .val (.int (p1 &&& (3 : Int32)))] [(.int (2 : Int32)), (.int (p1 &&& (3 : Int32)))])) _
    refine XS.icmpYes X0.here hx rfl (pc0 := 21) (pc' := 27) rfl (hb hby d1_21) rfl (feq hc21).2 (by decide) (by decide) ?_
    refine XS.iloadN X0.here hx rfl (hb hby d1_27) rfl ?_
    refine XS.iconst X0.here hx rfl (hb hby d1_28) ?_
    refine XS.iushr X0.here hx rfl (hb hby d1_29) rfl ?_
    refine XS.sipush X0.here hx rfl (hb hby d1_30) ?_
    refine XS.iand X0.here hx rfl (hb hby d1_33) rfl ?_
    refine XS.i2c X0.here hx rfl (hb hby d1_34) rfl ?_
    exact k)
  obtain ⟨fs11, hr11, hrun11, hended11, hW11, hsame11⟩ := X0.leave (v := some (.int ((((p1.toUInt32 >>> ((2 : Int32) &&& 31).toUInt32).toInt32) &&& (255 : Int32)).toUInt32.toUInt16.toUInt32.toInt32))) (fun h => by rw [Bd.returns] at h; cases h)
  refine ⟨_, _, pre10 _ ?_, hrun11, hended11, _, _, rfl, ?_, ⟨_, rfl⟩, hW11, hsame11.mono (by decide) (by decide)⟩
  · show Steps p.tables e below (s₁.setTop (mkF m 35 #[.val (.int p1), .val (.int (p1 &&& (3 : Int32)))] [(.int ((((p1.toUInt32 >>> ((2 : Int32) &&& 31).toUInt32).toInt32) &&& (255 : Int32)).toUInt32.toUInt16.toUInt32.toInt32))])) _
    exact retOut X0 hx (t := .char) Bd.returns (own_narc (by first | exact (by decide) | exact own_chrv _)) (Or.inl ⟨rfl, by simp, _, rfl⟩) (hb hby d1_35) hr11
  · show Qch Z p1 h0 n0 _ s₁.heap _
    rw [e0]
    exact ⟨by unfold own_ch; rw [if_neg hc5, if_neg hc13, if_neg hc21], N0, rfl⟩

theorem pd_ln : parseMethodDescriptor "(C)Z" = some ⟨[.char], some .boolean⟩ := by decide +kernel

theorem ef_ln (m : MethodId) (x0 : Int32)  : entryFrame m #[(.int x0)] 1 = mkF m 0 #[.val (.int x0)] [] := by first | (simp [entryFrame, mkF, argsToLocals, Value.category]; done) | rfl
def Qln (Z : State) (p1 : Int32) (h0 : Heap) (n0 : Nat) (v : Option Value) (h : Heap) (L : List Loc) : Prop := v = some (.int (own_in p1)) ∧ Fr n0 L ∧ h = h0
set_option maxRecDepth 65536 in
set_option maxHeartbeats 40000000 in
theorem rmln (l : Launch) (Z : State) (a0 : Array Value) (hw : ∀ d ∈ tables_1, d.before a0 Z = true) (ws : List Jvm.Cond) (p1 : Int32) (h0 : Heap) (n0 : Nat) (Z0 : n0 ≤ h0.size)  :
    MetFree l (⟨"com/example/oxpecker/oxpecker/MessageTemplateSoleParameterPinLaw", "inName", "(C)Z"⟩ : MethodName) (head1 (Jvm.Cond.code (⟨"com/example/oxpecker/oxpecker/MessageTemplateSoleParameterPinLaw", "inName", "(C)Z"⟩ : MethodName) method_3_code 1 (some .boolean) :: ws) ({ frames := 0, cells := 0, slots := 0, locals := 0 } : Room)) (fun a U => a = #[(.int p1)] ∧ Z.Warmed39 U.vm ∧ U.heap = h0) (fun _ _ _ _ _ => True) (fun _ U o U' => ∃ v L, o = .returned v ∧ Qln Z p1 h0 n0 v U'.heap L ∧ FrameEnd U o U' L ({ frames := 0, cells := 0, slots := 0, locals := 0 } : Room).cells ({ frames := 0, cells := 0, slots := 0, locals := 0 } : Room).slots) := by
  refine MetFree.of_bodySF (plainFor_of_name pn_k0) hisR ?_
  intro p e s m args below meth c s₁ Bd hml0 hP hK
  obtain ⟨rfl, hZ, hh⟩ := hP
  have hx := Bd.exec
  have hby := Bd.bytes
  have hml : c.maxLocals = 1 := hml0
  have hown : s.vm.findClass "com/example/oxpecker/oxpecker/MessageTemplateSoleParameterPinLaw" = some m.cls := findClass_of_methodNamed Bd.named
  have hnm := (name_of_methodNamed Bd.named Bd.method).1
  have X0 : Stand p l e ({ frames := 0, cells := 0, slots := 0, locals := 0 } : Room) s m #[(.int p1)] below meth c s₁ [] 0 0 := Stand.of_body Bd
  have e0 : s₁.heap = h0 := by rw [← hh, Bd.state]; rfl
  have N0 := Fr.nil n0
  have pre0 : ∀ t, Steps p.tables e below (s₁.setTop (mkF m 0 #[.val (.int p1)] [])) t → Steps p.tables e below (s₁.setTop (entryFrame m #[(.int p1)] 1)) t := fun t k => castTop (ef_ln m p1) k
  have pre1 : ∀ t, Steps p.tables e below (s₁.setTop (mkF m 3 #[.val (.int p1)] [(.int (123 : Int32)), (.int p1)])) t → Steps p.tables e below (s₁.setTop (entryFrame m #[(.int p1)] 1)) t := fun t k => pre0 t (by
    show Steps p.tables e below (s₁.setTop (mkF m 0 #[.val (.int p1)] [])) _
    refine XS.iloadN X0.here hx rfl (hb hby d20_0) rfl ?_
    refine XS.bipush X0.here hx rfl (hb hby d20_1) ?_
    exact k)
  by_cases hc3 : p1 = (123 : Int32)
  · have pre2 : ∀ t, Steps p.tables e below (s₁.setTop (mkF m 23 #[.val (.int p1)] [(.int (0 : Int32))])) t → Steps p.tables e below (s₁.setTop (entryFrame m #[(.int p1)] 1)) t := fun t k => pre1 t (by
      show Steps p.tables e below (s₁.setTop (mkF m 3 #[.val (.int p1)] [(.int (123 : Int32)), (.int p1)])) _
      refine XS.icmpYes X0.here hx rfl (pc0 := 3) (pc' := 22) rfl (hb hby d20_3) rfl (teq hc3).1 (by decide) (by decide) ?_
      refine XS.iconst X0.here hx rfl (hb hby d20_22) ?_
      exact k)
    obtain ⟨fs3, hr3, hrun3, hended3, hW3, hsame3⟩ := X0.leave (v := some (.int (0 : Int32))) (fun h => by rw [Bd.returns] at h; cases h)
    refine ⟨_, _, pre2 _ ?_, hrun3, hended3, _, _, rfl, ?_, ⟨_, rfl⟩, hW3, hsame3.mono (by decide) (by decide)⟩
    · show Steps p.tables e below (s₁.setTop (mkF m 23 #[.val (.int p1)] [(.int (0 : Int32))])) _
      exact retN X0 hx (t := .boolean) Bd.returns (by simp) (hb hby d20_23) hr3
    · show Qln Z p1 h0 n0 _ s₁.heap _
      rw [e0]
      exact ⟨by unfold own_in; rw [if_pos hc3], N0, rfl⟩
  have pre4 : ∀ t, Steps p.tables e below (s₁.setTop (mkF m 9 #[.val (.int p1)] [(.int (125 : Int32)), (.int p1)])) t → Steps p.tables e below (s₁.setTop (entryFrame m #[(.int p1)] 1)) t := fun t k => pre1 t (by
    show Steps p.tables e below (s₁.setTop (mkF m 3 #[.val (.int p1)] [(.int (123 : Int32)), (.int p1)])) _
    refine XS.icmpNo X0.here hx rfl (hb hby d20_3) rfl (feq hc3).1 ?_
    refine XS.iloadN X0.here hx rfl (hb hby d20_6) rfl ?_
    refine XS.bipush X0.here hx rfl (hb hby d20_7) ?_
    exact k)
  by_cases hc9 : p1 = (125 : Int32)
  · have pre5 : ∀ t, Steps p.tables e below (s₁.setTop (mkF m 23 #[.val (.int p1)] [(.int (0 : Int32))])) t → Steps p.tables e below (s₁.setTop (entryFrame m #[(.int p1)] 1)) t := fun t k => pre4 t (by
      show Steps p.tables e below (s₁.setTop (mkF m 9 #[.val (.int p1)] [(.int (125 : Int32)), (.int p1)])) _
      refine XS.icmpYes X0.here hx rfl (pc0 := 9) (pc' := 22) rfl (hb hby d20_9) rfl (teq hc9).1 (by decide) (by decide) ?_
      refine XS.iconst X0.here hx rfl (hb hby d20_22) ?_
      exact k)
    obtain ⟨fs6, hr6, hrun6, hended6, hW6, hsame6⟩ := X0.leave (v := some (.int (0 : Int32))) (fun h => by rw [Bd.returns] at h; cases h)
    refine ⟨_, _, pre5 _ ?_, hrun6, hended6, _, _, rfl, ?_, ⟨_, rfl⟩, hW6, hsame6.mono (by decide) (by decide)⟩
    · show Steps p.tables e below (s₁.setTop (mkF m 23 #[.val (.int p1)] [(.int (0 : Int32))])) _
      exact retN X0 hx (t := .boolean) Bd.returns (by simp) (hb hby d20_23) hr6
    · show Qln Z p1 h0 n0 _ s₁.heap _
      rw [e0]
      exact ⟨by unfold own_in; rw [if_neg hc3, if_pos hc9], N0, rfl⟩
  have pre7 : ∀ t, Steps p.tables e below (s₁.setTop (mkF m 15 #[.val (.int p1)] [(.int (92 : Int32)), (.int p1)])) t → Steps p.tables e below (s₁.setTop (entryFrame m #[(.int p1)] 1)) t := fun t k => pre4 t (by
    show Steps p.tables e below (s₁.setTop (mkF m 9 #[.val (.int p1)] [(.int (125 : Int32)), (.int p1)])) _
    refine XS.icmpNo X0.here hx rfl (hb hby d20_9) rfl (feq hc9).1 ?_
    refine XS.iloadN X0.here hx rfl (hb hby d20_12) rfl ?_
    refine XS.bipush X0.here hx rfl (hb hby d20_13) ?_
    exact k)
  by_cases hc15 : p1 = (92 : Int32)
  · have pre8 : ∀ t, Steps p.tables e below (s₁.setTop (mkF m 23 #[.val (.int p1)] [(.int (0 : Int32))])) t → Steps p.tables e below (s₁.setTop (entryFrame m #[(.int p1)] 1)) t := fun t k => pre7 t (by
      show Steps p.tables e below (s₁.setTop (mkF m 15 #[.val (.int p1)] [(.int (92 : Int32)), (.int p1)])) _
      refine XS.icmpYes X0.here hx rfl (pc0 := 15) (pc' := 22) rfl (hb hby d20_15) rfl (teq hc15).1 (by decide) (by decide) ?_
      refine XS.iconst X0.here hx rfl (hb hby d20_22) ?_
      exact k)
    obtain ⟨fs9, hr9, hrun9, hended9, hW9, hsame9⟩ := X0.leave (v := some (.int (0 : Int32))) (fun h => by rw [Bd.returns] at h; cases h)
    refine ⟨_, _, pre8 _ ?_, hrun9, hended9, _, _, rfl, ?_, ⟨_, rfl⟩, hW9, hsame9.mono (by decide) (by decide)⟩
    · show Steps p.tables e below (s₁.setTop (mkF m 23 #[.val (.int p1)] [(.int (0 : Int32))])) _
      exact retN X0 hx (t := .boolean) Bd.returns (by simp) (hb hby d20_23) hr9
    · show Qln Z p1 h0 n0 _ s₁.heap _
      rw [e0]
      exact ⟨by unfold own_in; rw [if_neg hc3, if_neg hc9, if_pos hc15], N0, rfl⟩
  have pre10 : ∀ t, Steps p.tables e below (s₁.setTop (mkF m 23 #[.val (.int p1)] [(.int (1 : Int32))])) t → Steps p.tables e below (s₁.setTop (entryFrame m #[(.int p1)] 1)) t := fun t k => pre7 t (by
    show Steps p.tables e below (s₁.setTop (mkF m 15 #[.val (.int p1)] [(.int (92 : Int32)), (.int p1)])) _
    refine XS.icmpNo X0.here hx rfl (hb hby d20_15) rfl (feq hc15).1 ?_
    refine XS.iconst X0.here hx rfl (hb hby d20_18) ?_
    refine XS.goto X0.here hx rfl (pc0 := 19) (pc' := 23) rfl (hb hby d20_19) (by decide) (by decide) ?_
    exact k)
  obtain ⟨fs11, hr11, hrun11, hended11, hW11, hsame11⟩ := X0.leave (v := some (.int (1 : Int32))) (fun h => by rw [Bd.returns] at h; cases h)
  refine ⟨_, _, pre10 _ ?_, hrun11, hended11, _, _, rfl, ?_, ⟨_, rfl⟩, hW11, hsame11.mono (by decide) (by decide)⟩
  · show Steps p.tables e below (s₁.setTop (mkF m 23 #[.val (.int p1)] [(.int (1 : Int32))])) _
    exact retN X0 hx (t := .boolean) Bd.returns (by simp) (hb hby d20_23) hr11
  · show Qln Z p1 h0 n0 _ s₁.heap _
    rw [e0]
    exact ⟨by unfold own_in; rw [if_neg hc3, if_neg hc9, if_neg hc15], N0, rfl⟩

theorem pd_in : parseMethodDescriptor "(C)Z" = some ⟨[.char], some .boolean⟩ := by decide +kernel

theorem ef_in (m : MethodId) (x0 : Int32)  : entryFrame m #[(.int x0)] 1 = mkF m 0 #[.val (.int x0)] [] := by first | (simp [entryFrame, mkF, argsToLocals, Value.category]; done) | rfl
def Qin (Z : State) (p1 : Int32) (h0 : Heap) (n0 : Nat) (v : Option Value) (h : Heap) (L : List Loc) : Prop := v = some (.int (own_in p1)) ∧ Fr n0 L ∧ h = h0
set_option maxRecDepth 65536 in
set_option maxHeartbeats 40000000 in
theorem rmin (l : Launch) (Z : State) (a0 : Array Value) (hw : ∀ d ∈ tables_1, d.before a0 Z = true) (ws : List Jvm.Cond) (p1 : Int32) (h0 : Heap) (n0 : Nat) (Z0 : n0 ≤ h0.size)  :
    MetFree l (⟨"com/example/oxpecker/oxpecker/MessageTemplate", "isInName", "(C)Z"⟩ : MethodName) (head1 (Jvm.Cond.code (⟨"com/example/oxpecker/oxpecker/MessageTemplate", "isInName", "(C)Z"⟩ : MethodName) prog_5_method_10_code 1 (some .boolean) :: ws) ({ frames := 0, cells := 0, slots := 0, locals := 0 } : Room)) (fun a U => a = #[(.int p1)] ∧ Z.Warmed39 U.vm ∧ U.heap = h0) (fun _ _ _ _ _ => True) (fun _ U o U' => ∃ v L, o = .returned v ∧ Qin Z p1 h0 n0 v U'.heap L ∧ FrameEnd U o U' L ({ frames := 0, cells := 0, slots := 0, locals := 0 } : Room).cells ({ frames := 0, cells := 0, slots := 0, locals := 0 } : Room).slots) := by
  refine MetFree.of_bodySF (plainFor_of_name pn_k1) hisR ?_
  intro p e s m args below meth c s₁ Bd hml0 hP hK
  obtain ⟨rfl, hZ, hh⟩ := hP
  have hx := Bd.exec
  have hby := Bd.bytes
  have hml : c.maxLocals = 1 := hml0
  have hown : s.vm.findClass "com/example/oxpecker/oxpecker/MessageTemplate" = some m.cls := findClass_of_methodNamed Bd.named
  have hnm := (name_of_methodNamed Bd.named Bd.method).1
  have X0 : Stand p l e ({ frames := 0, cells := 0, slots := 0, locals := 0 } : Room) s m #[(.int p1)] below meth c s₁ [] 0 0 := Stand.of_body Bd
  have e0 : s₁.heap = h0 := by rw [← hh, Bd.state]; rfl
  have N0 := Fr.nil n0
  have pre0 : ∀ t, Steps p.tables e below (s₁.setTop (mkF m 0 #[.val (.int p1)] [])) t → Steps p.tables e below (s₁.setTop (entryFrame m #[(.int p1)] 1)) t := fun t k => castTop (ef_in m p1) k
  have pre1 : ∀ t, Steps p.tables e below (s₁.setTop (mkF m 3 #[.val (.int p1)] [(.int (123 : Int32)), (.int p1)])) t → Steps p.tables e below (s₁.setTop (entryFrame m #[(.int p1)] 1)) t := fun t k => pre0 t (by
    show Steps p.tables e below (s₁.setTop (mkF m 0 #[.val (.int p1)] [])) _
    refine XS.iloadN X0.here hx rfl (hb hby d19_0) rfl ?_
    refine XS.bipush X0.here hx rfl (hb hby d19_1) ?_
    exact k)
  by_cases hc3 : p1 = (123 : Int32)
  · have pre2 : ∀ t, Steps p.tables e below (s₁.setTop (mkF m 23 #[.val (.int p1)] [(.int (0 : Int32))])) t → Steps p.tables e below (s₁.setTop (entryFrame m #[(.int p1)] 1)) t := fun t k => pre1 t (by
      show Steps p.tables e below (s₁.setTop (mkF m 3 #[.val (.int p1)] [(.int (123 : Int32)), (.int p1)])) _
      refine XS.icmpYes X0.here hx rfl (pc0 := 3) (pc' := 22) rfl (hb hby d19_3) rfl (teq hc3).1 (by decide) (by decide) ?_
      refine XS.iconst X0.here hx rfl (hb hby d19_22) ?_
      exact k)
    obtain ⟨fs3, hr3, hrun3, hended3, hW3, hsame3⟩ := X0.leave (v := some (.int (0 : Int32))) (fun h => by rw [Bd.returns] at h; cases h)
    refine ⟨_, _, pre2 _ ?_, hrun3, hended3, _, _, rfl, ?_, ⟨_, rfl⟩, hW3, hsame3.mono (by decide) (by decide)⟩
    · show Steps p.tables e below (s₁.setTop (mkF m 23 #[.val (.int p1)] [(.int (0 : Int32))])) _
      exact retN X0 hx (t := .boolean) Bd.returns (by simp) (hb hby d19_23) hr3
    · show Qin Z p1 h0 n0 _ s₁.heap _
      rw [e0]
      exact ⟨by unfold own_in; rw [if_pos hc3], N0, rfl⟩
  have pre4 : ∀ t, Steps p.tables e below (s₁.setTop (mkF m 9 #[.val (.int p1)] [(.int (125 : Int32)), (.int p1)])) t → Steps p.tables e below (s₁.setTop (entryFrame m #[(.int p1)] 1)) t := fun t k => pre1 t (by
    show Steps p.tables e below (s₁.setTop (mkF m 3 #[.val (.int p1)] [(.int (123 : Int32)), (.int p1)])) _
    refine XS.icmpNo X0.here hx rfl (hb hby d19_3) rfl (feq hc3).1 ?_
    refine XS.iloadN X0.here hx rfl (hb hby d19_6) rfl ?_
    refine XS.bipush X0.here hx rfl (hb hby d19_7) ?_
    exact k)
  by_cases hc9 : p1 = (125 : Int32)
  · have pre5 : ∀ t, Steps p.tables e below (s₁.setTop (mkF m 23 #[.val (.int p1)] [(.int (0 : Int32))])) t → Steps p.tables e below (s₁.setTop (entryFrame m #[(.int p1)] 1)) t := fun t k => pre4 t (by
      show Steps p.tables e below (s₁.setTop (mkF m 9 #[.val (.int p1)] [(.int (125 : Int32)), (.int p1)])) _
      refine XS.icmpYes X0.here hx rfl (pc0 := 9) (pc' := 22) rfl (hb hby d19_9) rfl (teq hc9).1 (by decide) (by decide) ?_
      refine XS.iconst X0.here hx rfl (hb hby d19_22) ?_
      exact k)
    obtain ⟨fs6, hr6, hrun6, hended6, hW6, hsame6⟩ := X0.leave (v := some (.int (0 : Int32))) (fun h => by rw [Bd.returns] at h; cases h)
    refine ⟨_, _, pre5 _ ?_, hrun6, hended6, _, _, rfl, ?_, ⟨_, rfl⟩, hW6, hsame6.mono (by decide) (by decide)⟩
    · show Steps p.tables e below (s₁.setTop (mkF m 23 #[.val (.int p1)] [(.int (0 : Int32))])) _
      exact retN X0 hx (t := .boolean) Bd.returns (by simp) (hb hby d19_23) hr6
    · show Qin Z p1 h0 n0 _ s₁.heap _
      rw [e0]
      exact ⟨by unfold own_in; rw [if_neg hc3, if_pos hc9], N0, rfl⟩
  have pre7 : ∀ t, Steps p.tables e below (s₁.setTop (mkF m 15 #[.val (.int p1)] [(.int (92 : Int32)), (.int p1)])) t → Steps p.tables e below (s₁.setTop (entryFrame m #[(.int p1)] 1)) t := fun t k => pre4 t (by
    show Steps p.tables e below (s₁.setTop (mkF m 9 #[.val (.int p1)] [(.int (125 : Int32)), (.int p1)])) _
    refine XS.icmpNo X0.here hx rfl (hb hby d19_9) rfl (feq hc9).1 ?_
    refine XS.iloadN X0.here hx rfl (hb hby d19_12) rfl ?_
    refine XS.bipush X0.here hx rfl (hb hby d19_13) ?_
    exact k)
  by_cases hc15 : p1 = (92 : Int32)
  · have pre8 : ∀ t, Steps p.tables e below (s₁.setTop (mkF m 23 #[.val (.int p1)] [(.int (0 : Int32))])) t → Steps p.tables e below (s₁.setTop (entryFrame m #[(.int p1)] 1)) t := fun t k => pre7 t (by
      show Steps p.tables e below (s₁.setTop (mkF m 15 #[.val (.int p1)] [(.int (92 : Int32)), (.int p1)])) _
      refine XS.icmpYes X0.here hx rfl (pc0 := 15) (pc' := 22) rfl (hb hby d19_15) rfl (teq hc15).1 (by decide) (by decide) ?_
      refine XS.iconst X0.here hx rfl (hb hby d19_22) ?_
      exact k)
    obtain ⟨fs9, hr9, hrun9, hended9, hW9, hsame9⟩ := X0.leave (v := some (.int (0 : Int32))) (fun h => by rw [Bd.returns] at h; cases h)
    refine ⟨_, _, pre8 _ ?_, hrun9, hended9, _, _, rfl, ?_, ⟨_, rfl⟩, hW9, hsame9.mono (by decide) (by decide)⟩
    · show Steps p.tables e below (s₁.setTop (mkF m 23 #[.val (.int p1)] [(.int (0 : Int32))])) _
      exact retN X0 hx (t := .boolean) Bd.returns (by simp) (hb hby d19_23) hr9
    · show Qin Z p1 h0 n0 _ s₁.heap _
      rw [e0]
      exact ⟨by unfold own_in; rw [if_neg hc3, if_neg hc9, if_pos hc15], N0, rfl⟩
  have pre10 : ∀ t, Steps p.tables e below (s₁.setTop (mkF m 23 #[.val (.int p1)] [(.int (1 : Int32))])) t → Steps p.tables e below (s₁.setTop (entryFrame m #[(.int p1)] 1)) t := fun t k => pre7 t (by
    show Steps p.tables e below (s₁.setTop (mkF m 15 #[.val (.int p1)] [(.int (92 : Int32)), (.int p1)])) _
    refine XS.icmpNo X0.here hx rfl (hb hby d19_15) rfl (feq hc15).1 ?_
    refine XS.iconst X0.here hx rfl (hb hby d19_18) ?_
    refine XS.goto X0.here hx rfl (pc0 := 19) (pc' := 23) rfl (hb hby d19_19) (by decide) (by decide) ?_
    exact k)
  obtain ⟨fs11, hr11, hrun11, hended11, hW11, hsame11⟩ := X0.leave (v := some (.int (1 : Int32))) (fun h => by rw [Bd.returns] at h; cases h)
  refine ⟨_, _, pre10 _ ?_, hrun11, hended11, _, _, rfl, ?_, ⟨_, rfl⟩, hW11, hsame11.mono (by decide) (by decide)⟩
  · show Steps p.tables e below (s₁.setTop (mkF m 23 #[.val (.int p1)] [(.int (1 : Int32))])) _
    exact retN X0 hx (t := .boolean) Bd.returns (by simp) (hb hby d19_23) hr11
  · show Qin Z p1 h0 n0 _ s₁.heap _
    rw [e0]
    exact ⟨by unfold own_in; rw [if_neg hc3, if_neg hc9, if_neg hc15], N0, rfl⟩

theorem pd_mn : parseMethodDescriptor "(II)I" = some ⟨[.int, .int], some .int⟩ := by decide +kernel

theorem ef_mn (m : MethodId) (x0 : Int32) (x1 : Int32)  : entryFrame m #[(.int x0), (.int x1)] 2 = mkF m 0 #[.val (.int x0), .val (.int x1)] [] := by first | (simp [entryFrame, mkF, argsToLocals, Value.category]; done) | rfl
def Qmn (Z : State) (p1 p2 : Int32) (h0 : Heap) (n0 : Nat) (v : Option Value) (h : Heap) (L : List Loc) : Prop := v = some (.int (own_min p1 p2)) ∧ Fr n0 L ∧ h = h0
set_option maxRecDepth 65536 in
set_option maxHeartbeats 40000000 in
theorem rmmn (l : Launch) (Z : State) (a0 : Array Value) (hw : ∀ d ∈ tables_1, d.before a0 Z = true) (ws : List Jvm.Cond) (p1 p2 : Int32) (h0 : Heap) (n0 : Nat) (Z0 : n0 ≤ h0.size)  :
    MetFree l (⟨"java/lang/Math", "min", "(II)I"⟩ : MethodName) (head1 (Jvm.Cond.code (⟨"java/lang/Math", "min", "(II)I"⟩ : MethodName) jdk_29_method_69_code 2 (some .int) :: ws) ({ frames := 0, cells := 0, slots := 0, locals := 0 } : Room)) (fun a U => a = #[(.int p1), (.int p2)] ∧ Z.Warmed39 U.vm ∧ U.heap = h0) (fun _ _ _ _ _ => True) (fun _ U o U' => ∃ v L, o = .returned v ∧ Qmn Z p1 p2 h0 n0 v U'.heap L ∧ FrameEnd U o U' L ({ frames := 0, cells := 0, slots := 0, locals := 0 } : Room).cells ({ frames := 0, cells := 0, slots := 0, locals := 0 } : Room).slots) := by
  refine MetFree.of_bodySF (Jvm.Free.JP.mathPlain rfl (by decide +kernel)) hisR ?_
  intro p e s m args below meth c s₁ Bd hml0 hP hK
  obtain ⟨rfl, hZ, hh⟩ := hP
  have hx := Bd.exec
  have hby := Bd.bytes
  have hml : c.maxLocals = 2 := hml0
  have hown : s.vm.findClass "java/lang/Math" = some m.cls := findClass_of_methodNamed Bd.named
  have hnm := (name_of_methodNamed Bd.named Bd.method).1
  have X0 : Stand p l e ({ frames := 0, cells := 0, slots := 0, locals := 0 } : Room) s m #[(.int p1), (.int p2)] below meth c s₁ [] 0 0 := Stand.of_body Bd
  have e0 : s₁.heap = h0 := by rw [← hh, Bd.state]; rfl
  have N0 := Fr.nil n0
  have pre0 : ∀ t, Steps p.tables e below (s₁.setTop (mkF m 0 #[.val (.int p1), .val (.int p2)] [])) t → Steps p.tables e below (s₁.setTop (entryFrame m #[(.int p1), (.int p2)] 2)) t := fun t k => castTop (ef_mn m p1 p2) k
  have pre1 : ∀ t, Steps p.tables e below (s₁.setTop (mkF m 2 #[.val (.int p1), .val (.int p2)] [(.int p2), (.int p1)])) t → Steps p.tables e below (s₁.setTop (entryFrame m #[(.int p1), (.int p2)] 2)) t := fun t k => pre0 t (by
    show Steps p.tables e below (s₁.setTop (mkF m 0 #[.val (.int p1), .val (.int p2)] [])) _
    refine XS.iloadN X0.here hx rfl (hb hby d28_0) rfl ?_
    refine XS.iloadN X0.here hx rfl (hb hby d28_1) rfl ?_
    exact k)
  by_cases hc2 : p2 < p1
  · have pre2 : ∀ t, Steps p.tables e below (s₁.setTop (mkF m 10 #[.val (.int p1), .val (.int p2)] [(.int p2)])) t → Steps p.tables e below (s₁.setTop (entryFrame m #[(.int p1), (.int p2)] 2)) t := fun t k => pre1 t (by
      show Steps p.tables e below (s₁.setTop (mkF m 2 #[.val (.int p1), .val (.int p2)] [(.int p2), (.int p1)])) _
      refine XS.icmpYes X0.here hx rfl (pc0 := 2) (pc' := 9) rfl (hb hby d28_2) rfl (tlt hc2).2.2.1 (by decide) (by decide) ?_
      refine XS.iloadN X0.here hx rfl (hb hby d28_9) rfl ?_
      exact k)
    obtain ⟨fs3, hr3, hrun3, hended3, hW3, hsame3⟩ := X0.leave (v := some (.int p2)) (fun h => by rw [Bd.returns] at h; cases h)
    refine ⟨_, _, pre2 _ ?_, hrun3, hended3, _, _, rfl, ?_, ⟨_, rfl⟩, hW3, hsame3.mono (by decide) (by decide)⟩
    · show Steps p.tables e below (s₁.setTop (mkF m 10 #[.val (.int p1), .val (.int p2)] [(.int p2)])) _
      exact retOut X0 hx (t := .int) Bd.returns rfl (Or.inl ⟨rfl, Or.inl rfl, _, rfl⟩) (hb hby d28_10) hr3
    · show Qmn Z p1 p2 h0 n0 _ s₁.heap _
      rw [e0]
      exact ⟨by unfold own_min; rw [if_pos hc2], N0, rfl⟩
  have pre4 : ∀ t, Steps p.tables e below (s₁.setTop (mkF m 10 #[.val (.int p1), .val (.int p2)] [(.int p1)])) t → Steps p.tables e below (s₁.setTop (entryFrame m #[(.int p1), (.int p2)] 2)) t := fun t k => pre1 t (by
    show Steps p.tables e below (s₁.setTop (mkF m 2 #[.val (.int p1), .val (.int p2)] [(.int p2), (.int p1)])) _
    refine XS.icmpNo X0.here hx rfl (hb hby d28_2) rfl (flt hc2).2.2.1 ?_
    refine XS.iloadN X0.here hx rfl (hb hby d28_5) rfl ?_
    refine XS.goto X0.here hx rfl (pc0 := 6) (pc' := 10) rfl (hb hby d28_6) (by decide) (by decide) ?_
    exact k)
  obtain ⟨fs5, hr5, hrun5, hended5, hW5, hsame5⟩ := X0.leave (v := some (.int p1)) (fun h => by rw [Bd.returns] at h; cases h)
  refine ⟨_, _, pre4 _ ?_, hrun5, hended5, _, _, rfl, ?_, ⟨_, rfl⟩, hW5, hsame5.mono (by decide) (by decide)⟩
  · show Steps p.tables e below (s₁.setTop (mkF m 10 #[.val (.int p1), .val (.int p2)] [(.int p1)])) _
    exact retOut X0 hx (t := .int) Bd.returns rfl (Or.inl ⟨rfl, Or.inl rfl, _, rfl⟩) (hb hby d28_10) hr5
  · show Qmn Z p1 p2 h0 n0 _ s₁.heap _
    rw [e0]
    exact ⟨by unfold own_min; rw [if_neg hc2], N0, rfl⟩

theorem pd_cl : parseMethodDescriptor "(II)V" = some ⟨[.int, .int], none⟩ := by decide +kernel

theorem ef_cl (m : MethodId) (x0 : Int32) (x1 : Int32)  : entryFrame m #[(.int x0), (.int x1)] 2 = mkF m 0 #[.val (.int x0), .val (.int x1)] [] := by first | (simp [entryFrame, mkF, argsToLocals, Value.category]; done) | rfl
def Qcl (Z : State) (p1 p2 : Int32) (h0 : Heap) (n0 : Nat) (v : Option Value) (h : Heap) (L : List Loc) : Prop := v = none ∧ Fr n0 L ∧ h = h0
set_option maxRecDepth 65536 in
set_option maxHeartbeats 40000000 in
theorem rmcl (l : Launch) (Z : State) (a0 : Array Value) (hw : ∀ d ∈ tables_1, d.before a0 Z = true) (ws : List Jvm.Cond) (p1 p2 : Int32) (h0 : Heap) (n0 : Nat) (Z0 : n0 ≤ h0.size) (hle : ¬ p2 < p1) :
    MetFree l (⟨"java/util/Arrays", "checkLength", "(II)V"⟩ : MethodName) (head1 (Jvm.Cond.code (⟨"java/util/Arrays", "checkLength", "(II)V"⟩ : MethodName) jdk_65_method_131_code 2 none :: ws) ({ frames := 0, cells := 0, slots := 0, locals := 0 } : Room)) (fun a U => a = #[(.int p1), (.int p2)] ∧ Z.Warmed39 U.vm ∧ U.heap = h0) (fun _ _ _ _ _ => True) (fun _ U o U' => ∃ v L, o = .returned v ∧ Qcl Z p1 p2 h0 n0 v U'.heap L ∧ FrameEnd U o U' L ({ frames := 0, cells := 0, slots := 0, locals := 0 } : Room).cells ({ frames := 0, cells := 0, slots := 0, locals := 0 } : Room).slots) := by
  refine MetFree.of_bodySF (plainFor_of_name pn_k5) hisR ?_
  intro p e s m args below meth c s₁ Bd hml0 hP hK
  obtain ⟨rfl, hZ, hh⟩ := hP
  have hx := Bd.exec
  have hby := Bd.bytes
  have hml : c.maxLocals = 2 := hml0
  have hown : s.vm.findClass "java/util/Arrays" = some m.cls := findClass_of_methodNamed Bd.named
  have hnm := (name_of_methodNamed Bd.named Bd.method).1
  have X0 : Stand p l e ({ frames := 0, cells := 0, slots := 0, locals := 0 } : Room) s m #[(.int p1), (.int p2)] below meth c s₁ [] 0 0 := Stand.of_body Bd
  have e0 : s₁.heap = h0 := by rw [← hh, Bd.state]; rfl
  have N0 := Fr.nil n0
  have pre0 : ∀ t, Steps p.tables e below (s₁.setTop (mkF m 0 #[.val (.int p1), .val (.int p2)] [])) t → Steps p.tables e below (s₁.setTop (entryFrame m #[(.int p1), (.int p2)] 2)) t := fun t k => castTop (ef_cl m p1 p2) k
  have pre1 : ∀ t, Steps p.tables e below (s₁.setTop (mkF m 37 #[.val (.int p1), .val (.int p2)] [])) t → Steps p.tables e below (s₁.setTop (entryFrame m #[(.int p1), (.int p2)] 2)) t := fun t k => pre0 t (by
    show Steps p.tables e below (s₁.setTop (mkF m 0 #[.val (.int p1), .val (.int p2)] [])) _
    refine XS.iloadN X0.here hx rfl (hb hby d27_0) rfl ?_
    refine XS.iloadN X0.here hx rfl (hb hby d27_1) rfl ?_
    refine XS.icmpYes X0.here hx rfl (pc0 := 2) (pc' := 37) rfl (hb hby d27_2) rfl (flt hle).2.1 (by decide) (by decide) ?_
    exact k)
  obtain ⟨fs2, hr2, hrun2, hended2, hW2, hsame2⟩ := X0.leave (v := none) (fun _ => rfl)
  refine ⟨_, _, pre1 _ ?_, hrun2, hended2, _, _, rfl, ?_, ⟨_, rfl⟩, hW2, hsame2.mono (by decide) (by decide)⟩
  · show Steps p.tables e below (s₁.setTop (mkF m 37 #[.val (.int p1), .val (.int p2)] [])) _
    exact X0.returnOut hx Bd.returns (hb hby d27_37) hr2
  · show Qcl Z p1 p2 h0 n0 _ s₁.heap _
    rw [e0]
    exact ⟨rfl, N0, rfl⟩

theorem pd_cf : parseMethodDescriptor "(IIILjava/util/function/BiFunction;)I" = some ⟨[.int, .int, .int, (.object "java/util/function/BiFunction")], some .int⟩ := by decide +kernel

theorem ef_cf (m : MethodId) (x0 : Int32) (x1 : Int32) (x2 : Int32) (x3 : Value) (hx3 : x3.isRef = true) : entryFrame m #[(.int x0), (.int x1), (.int x2), x3] 4 = mkF m 0 #[.val (.int x0), .val (.int x1), .val (.int x2), .val x3] [] := by
  rcases ref_cases hx3 with rfl | ⟨_, rfl⟩ <;> first | (simp [entryFrame, mkF, argsToLocals, Value.category]; done) | rfl
def Qcf (Z : State) (p1 p2 p3 : Int32) (fm : Value) (h0 : Heap) (n0 : Nat) (v : Option Value) (h : Heap) (L : List Loc) : Prop := v = some (.int p1) ∧ Fr n0 L ∧ h = h0
set_option maxRecDepth 65536 in
set_option maxHeartbeats 40000000 in
theorem rmcf (l : Launch) (Z : State) (a0 : Array Value) (hw : ∀ d ∈ tables_1, d.before a0 Z = true) (ws : List Jvm.Cond) (p1 p2 p3 : Int32) (fm : Value) (h0 : Heap) (n0 : Nat) (Z0 : n0 ≤ h0.size) (hfm : fm.isRef = true) (hp1 : ¬ p1 < (0 : Int32)) (hp2 : ¬ p2 < p1) (hp3 : ¬ p3 < p2) :
    MetFree l (⟨"jdk/internal/util/Preconditions", "checkFromToIndex", "(IIILjava/util/function/BiFunction;)I"⟩ : MethodName) (head1 (Jvm.Cond.code (⟨"jdk/internal/util/Preconditions", "checkFromToIndex", "(IIILjava/util/function/BiFunction;)I"⟩ : MethodName) jdk_41_method_12_code 4 (some .int) :: ws) ({ frames := 0, cells := 0, slots := 0, locals := 0 } : Room)) (fun a U => a = #[(.int p1), (.int p2), (.int p3), fm] ∧ Z.Warmed39 U.vm ∧ U.heap = h0) (fun _ _ _ _ _ => True) (fun _ U o U' => ∃ v L, o = .returned v ∧ Qcf Z p1 p2 p3 fm h0 n0 v U'.heap L ∧ FrameEnd U o U' L ({ frames := 0, cells := 0, slots := 0, locals := 0 } : Room).cells ({ frames := 0, cells := 0, slots := 0, locals := 0 } : Room).slots) := by
  refine MetFree.of_bodySF (plainFor_of_name pn_k3) hisR ?_
  intro p e s m args below meth c s₁ Bd hml0 hP hK
  obtain ⟨rfl, hZ, hh⟩ := hP
  have hx := Bd.exec
  have hby := Bd.bytes
  have hml : c.maxLocals = 4 := hml0
  have hown : s.vm.findClass "jdk/internal/util/Preconditions" = some m.cls := findClass_of_methodNamed Bd.named
  have hnm := (name_of_methodNamed Bd.named Bd.method).1
  have X0 : Stand p l e ({ frames := 0, cells := 0, slots := 0, locals := 0 } : Room) s m #[(.int p1), (.int p2), (.int p3), fm] below meth c s₁ [] 0 0 := Stand.of_body Bd
  have e0 : s₁.heap = h0 := by rw [← hh, Bd.state]; rfl
  have N0 := Fr.nil n0
  have pre0 : ∀ t, Steps p.tables e below (s₁.setTop (mkF m 0 #[.val (.int p1), .val (.int p2), .val (.int p3), .val fm] [])) t → Steps p.tables e below (s₁.setTop (entryFrame m #[(.int p1), (.int p2), (.int p3), fm] 4)) t := fun t k => castTop (ef_cf m p1 p2 p3 fm hfm) k
  have pre1 : ∀ t, Steps p.tables e below (s₁.setTop (mkF m 23 #[.val (.int p1), .val (.int p2), .val (.int p3), .val fm] [(.int p1)])) t → Steps p.tables e below (s₁.setTop (entryFrame m #[(.int p1), (.int p2), (.int p3), fm] 4)) t := fun t k => pre0 t (by
    show Steps p.tables e below (s₁.setTop (mkF m 0 #[.val (.int p1), .val (.int p2), .val (.int p3), .val fm] [])) _
    refine XS.iloadN X0.here hx rfl (hb hby d23_0) rfl ?_
    refine XS.ifNo X0.here hx rfl (hb hby d23_1) rfl ((if0 _ _).trans (flt hp1).1) ?_
    refine XS.iloadN X0.here hx rfl (hb hby d23_4) rfl ?_
    refine XS.iloadN X0.here hx rfl (hb hby d23_5) rfl ?_
    refine XS.icmpNo X0.here hx rfl (hb hby d23_6) rfl (flt hp2).2.2.1 ?_
    refine XS.iloadN X0.here hx rfl (hb hby d23_9) rfl ?_
    refine XS.iloadN X0.here hx rfl (hb hby d23_10) rfl ?_
    refine XS.icmpYes X0.here hx rfl (pc0 := 11) (pc' := 22) rfl (hb hby d23_11) rfl (flt hp3).2.2.2 (by decide) (by decide) ?_
    refine XS.iloadN X0.here hx rfl (hb hby d23_22) rfl ?_
    exact k)
  obtain ⟨fs2, hr2, hrun2, hended2, hW2, hsame2⟩ := X0.leave (v := some (.int p1)) (fun h => by rw [Bd.returns] at h; cases h)
  refine ⟨_, _, pre1 _ ?_, hrun2, hended2, _, _, rfl, ?_, ⟨_, rfl⟩, hW2, hsame2.mono (by decide) (by decide)⟩
  · show Steps p.tables e below (s₁.setTop (mkF m 23 #[.val (.int p1), .val (.int p2), .val (.int p3), .val fm] [(.int p1)])) _
    exact retOut X0 hx (t := .int) Bd.returns rfl (Or.inl ⟨rfl, Or.inl rfl, _, rfl⟩) (hb hby d23_23) hr2
  · show Qcf Z p1 p2 p3 fm h0 n0 _ s₁.heap _
    rw [e0]
    exact ⟨rfl, N0, rfl⟩

theorem pd_cb : parseMethodDescriptor "(III)V" = some ⟨[.int, .int, .int], none⟩ := by decide +kernel

theorem ef_cb (m : MethodId) (x0 : Int32) (x1 : Int32) (x2 : Int32)  : entryFrame m #[(.int x0), (.int x1), (.int x2)] 3 = mkF m 0 #[.val (.int x0), .val (.int x1), .val (.int x2)] [] := by first | (simp [entryFrame, mkF, argsToLocals, Value.category]; done) | rfl
def Qcb (Z : State) (p1 p2 p3 : Int32) (h0 : Heap) (n0 : Nat) (v : Option Value) (h : Heap) (L : List Loc) : Prop := v = none ∧ Fr n0 L ∧ h = h0
set_option maxRecDepth 65536 in
set_option maxHeartbeats 40000000 in
theorem rmcb (l : Launch) (Z : State) (a0 : Array Value) (hw : ∀ d ∈ tables_1, d.before a0 Z = true) (ws : List Jvm.Cond) (p1 p2 p3 : Int32) (h0 : Heap) (n0 : Nat) (Z0 : n0 ≤ h0.size) (EN : own_env Z h0) (hp1 : ¬ p1 < (0 : Int32)) (hp2 : ¬ p2 < p1) (hp3 : ¬ p3 < p2) :
    MetFree l (⟨"java/lang/String", "checkBoundsBeginEnd", "(III)V"⟩ : MethodName) (head1 (Jvm.Cond.code (⟨"java/lang/String", "checkBoundsBeginEnd", "(III)V"⟩ : MethodName) jdk_42_method_158_code 3 none :: ws) ({ frames := 1, cells := 0, slots := 0, locals := 16 } : Room)) (fun a U => a = #[(.int p1), (.int p2), (.int p3)] ∧ Z.Warmed39 U.vm ∧ U.heap = h0) (fun _ _ _ _ _ => True) (fun _ U o U' => ∃ v L, o = .returned v ∧ Qcb Z p1 p2 p3 h0 n0 v U'.heap L ∧ FrameEnd U o U' L ({ frames := 1, cells := 0, slots := 0, locals := 16 } : Room).cells ({ frames := 1, cells := 0, slots := 0, locals := 16 } : Room).slots) := by
  refine MetFree.of_bodySF (plainFor_of_name pn_k2) hisR ?_
  intro p e s m args below meth c s₁ Bd hml0 hP hK
  obtain ⟨rfl, hZ, hh⟩ := hP
  have hx := Bd.exec
  have hby := Bd.bytes
  have hml : c.maxLocals = 3 := hml0
  have hown : s.vm.findClass "java/lang/String" = some m.cls := findClass_of_methodNamed Bd.named
  have hnm := (name_of_methodNamed Bd.named Bd.method).1
  have X0 : Stand p l e ({ frames := 1, cells := 0, slots := 0, locals := 16 } : Room) s m #[(.int p1), (.int p2), (.int p3)] below meth c s₁ [] 0 0 := Stand.of_body Bd
  have e0 : s₁.heap = h0 := by rw [← hh, Bd.state]; rfl
  have N0 := Fr.nil n0
  have pre0 : ∀ t, Steps p.tables e below (s₁.setTop (mkF m 0 #[.val (.int p1), .val (.int p2), .val (.int p3)] [])) t → Steps p.tables e below (s₁.setTop (entryFrame m #[(.int p1), (.int p2), (.int p3)] 3)) t := fun t k => castTop (ef_cb m p1 p2 p3) k
  obtain ⟨z, fm, Sz, hz, Sf, hfm⟩ := EN
  obtain ⟨T1, X1, e1, st1⟩ := getS2 X0 hx hZ hown (host := "") (Or.inl (wd70 hw)) Via.refl e0 Sf (g := (mkF m 3 #[.val (.int p1), .val (.int p2), .val (.int p3)] [(.int p3), (.int p2), (.int p1)])) rfl (hb hby d22_3)
  obtain ⟨_, _, ⟨T2, L2, k2, n2⟩, -, X2, ⟨Lc2, hQ2, l2, y2, z2⟩, st2⟩ := Jvm.LawKit.callS X1 hx (y := (⟨"jdk/internal/util/Preconditions", "checkFromToIndex", "(IIILjava/util/function/BiFunction;)I"⟩ : MethodName)) hown (mvT hZ (wd100 hw)) (mvT hZ (wd101 hw)) (mvT hZ (wd71 hw)) (mvT hZ (wd102 hw)) (by decide) (backOf (W := 0) (rmcf l Z a0 hw [] p1 p2 p3 fm h0 n0 Z0 hfm hp1 hp2 hp3) hZ (wd102 hw) (wd71 hw) (by decide) (by decide)) (g := (mkF m 6 #[.val (.int p1), .val (.int p2), .val (.int p3)] [fm, (.int p3), (.int p2), (.int p1)])) rfl (by rw [hml]; rfl) (argsL := [(.int p1), (.int p2), (.int p3), fm]) (rest := []) (lenOf pd_cf rfl) rfl (by show 2 * 0 + _ ≤ _; exact Nat.le_of_eq rfl) (hb hby d22_6) (fun _ _ => ⟨rfl, e1, (by decide : 0 + 0 ≤ _), (by decide : 0 + 0 ≤ _)⟩)
  dsimp only [Pt.U, Pt.locs, Pt.cells, Pt.slots] at X2 l2 y2 z2 st2 hQ2
  subst l2 y2 z2
  obtain ⟨rfl, N2q, q2⟩ := hQ2
  have N2 := Fr.app N0 N2q
  have pre3 : ∀ t, Steps p.tables e below (T2.setTop (mkF m 10 #[.val (.int p1), .val (.int p2), .val (.int p3)] [])) t → Steps p.tables e below (s₁.setTop (entryFrame m #[(.int p1), (.int p2), (.int p3)] 3)) t := fun t k => pre0 t (by
    show Steps p.tables e below (s₁.setTop (mkF m 0 #[.val (.int p1), .val (.int p2), .val (.int p3)] [])) _
    refine XS.iloadN X0.here hx rfl (hb hby d22_0) rfl ?_
    refine XS.iloadN X0.here hx rfl (hb hby d22_1) rfl ?_
    refine XS.iloadN X0.here hx rfl (hb hby d22_2) rfl ?_
    refine st1 _ ?_
    refine st2 _ ?_
    refine XS.pop X2.here hx rfl (hb hby d22_9) rfl rfl ?_
    exact k)
  obtain ⟨fs4, hr4, hrun4, hended4, hW4, hsame4⟩ := X2.leave (v := none) (fun _ => rfl)
  refine ⟨_, _, pre3 _ ?_, hrun4, hended4, _, _, rfl, ?_, ⟨_, rfl⟩, hW4, hsame4.mono (by decide) (by decide)⟩
  · show Steps p.tables e below (T2.setTop (mkF m 10 #[.val (.int p1), .val (.int p2), .val (.int p3)] [])) _
    exact X2.returnOut hx Bd.returns (hb hby d22_10) hr4
  · show Qcb Z p1 p2 p3 h0 n0 _ T2.heap _
    rw [q2]
    exact ⟨rfl, N2, rfl⟩

theorem pd_l1 : parseMethodDescriptor "()Z" = some ⟨[], some .boolean⟩ := by decide +kernel

theorem ef_l1 (m : MethodId) (x0 : Addr)  : entryFrame m #[(.ref x0)] 1 = mkF m 0 #[.val (.ref x0)] [] := by first | (simp [entryFrame, mkF, argsToLocals, Value.category]; done) | rfl
def Ql1 (Z : State) (a1 : Addr) (h0 : Heap) (n0 : Nat) (v : Option Value) (h : Heap) (L : List Loc) : Prop := v = some (.int (1 : Int32)) ∧ Fr n0 L ∧ h = h0
set_option maxRecDepth 65536 in
set_option maxHeartbeats 40000000 in
theorem rml1 (l : Launch) (Z : State) (a0 : Array Value) (hw : ∀ d ∈ tables_1, d.before a0 Z = true) (ws : List Jvm.Cond) (a1 : Addr) (h0 : Heap) (n0 : Nat) (Z0 : n0 ≤ h0.size) (EN : own_env Z h0) (C1 : Fld Z h0 a1 "java/lang/String" "coder" "B" (.int 0)) :
    MetFree l (⟨"java/lang/String", "isLatin1", "()Z"⟩ : MethodName) (head1 (Jvm.Cond.code (⟨"java/lang/String", "isLatin1", "()Z"⟩ : MethodName) jdk_42_method_154_code 1 (some .boolean) :: ws) ({ frames := 0, cells := 0, slots := 0, locals := 0 } : Room)) (fun a U => a = #[(.ref a1)] ∧ Z.Warmed39 U.vm ∧ U.heap = h0) (fun _ _ _ _ _ => True) (fun _ U o U' => ∃ v L, o = .returned v ∧ Ql1 Z a1 h0 n0 v U'.heap L ∧ FrameEnd U o U' L ({ frames := 0, cells := 0, slots := 0, locals := 0 } : Room).cells ({ frames := 0, cells := 0, slots := 0, locals := 0 } : Room).slots) := by
  refine MetFree.of_bodySF (plainFor_of_name pn_k2) hisR ?_
  intro p e s m args below meth c s₁ Bd hml0 hP hK
  obtain ⟨rfl, hZ, hh⟩ := hP
  have hx := Bd.exec
  have hby := Bd.bytes
  have hml : c.maxLocals = 1 := hml0
  have hown : s.vm.findClass "java/lang/String" = some m.cls := findClass_of_methodNamed Bd.named
  have hnm := (name_of_methodNamed Bd.named Bd.method).1
  have X0 : Stand p l e ({ frames := 0, cells := 0, slots := 0, locals := 0 } : Room) s m #[(.ref a1)] below meth c s₁ [] 0 0 := Stand.of_body Bd
  have e0 : s₁.heap = h0 := by rw [← hh, Bd.state]; rfl
  have N0 := Fr.nil n0
  have pre0 : ∀ t, Steps p.tables e below (s₁.setTop (mkF m 0 #[.val (.ref a1)] [])) t → Steps p.tables e below (s₁.setTop (entryFrame m #[(.ref a1)] 1)) t := fun t k => castTop (ef_l1 m a1) k
  obtain ⟨z, fm, Sz, hz, Sf, hfm⟩ := EN
  obtain ⟨T1, X1, e1, st1⟩ := getS2 X0 hx hZ hown (host := "") (Or.inl (wd39 hw)) Via.refl e0 Sz (g := (mkF m 0 #[.val (.ref a1)] [])) rfl (hb hby d13_0)
  obtain ⟨T2, X2, e2, st2⟩ := getF X1 hx hZ hown (host := "") (Or.inl (wd29 hw)) Via.refl e1 C1 (g := (mkF m 7 #[.val (.ref a1)] [(.ref a1)])) rfl rfl (hb hby d13_7)
  have pre3 : ∀ t, Steps p.tables e below (T2.setTop (mkF m 18 #[.val (.ref a1)] [(.int (1 : Int32))])) t → Steps p.tables e below (s₁.setTop (entryFrame m #[(.ref a1)] 1)) t := fun t k => pre0 t (by
    show Steps p.tables e below (s₁.setTop (mkF m 0 #[.val (.ref a1)] [])) _
    refine st1 _ ?_
    refine XS.ifNo X1.here hx rfl (hb hby d13_3) rfl ((if0 _ _).trans (feq hz).1) ?_
    refine XS.aloadN X1.here hx rfl (hb hby d13_6) rfl rfl ?_
    refine st2 _ ?_
    refine XS.ifNo X2.here hx rfl (hb hby d13_10) rfl ((if0 _ _).trans (teq (by decide : (0 : Int32) = (0 : Int32))).2) ?_
    refine XS.iconst X2.here hx rfl (hb hby d13_13) ?_
    refine XS.goto X2.here hx rfl (pc0 := 14) (pc' := 18) rfl (hb hby d13_14) (by decide) (by decide) ?_
    exact k)
  obtain ⟨fs4, hr4, hrun4, hended4, hW4, hsame4⟩ := X2.leave (v := some (.int (1 : Int32))) (fun h => by rw [Bd.returns] at h; cases h)
  refine ⟨_, _, pre3 _ ?_, hrun4, hended4, _, _, rfl, ?_, ⟨_, rfl⟩, hW4, hsame4.mono (by decide) (by decide)⟩
  · show Steps p.tables e below (T2.setTop (mkF m 18 #[.val (.ref a1)] [(.int (1 : Int32))])) _
    exact retN X2 hx (t := .boolean) Bd.returns (by simp) (hb hby d13_18) hr4
  · show Ql1 Z a1 h0 n0 _ T2.heap _
    rw [e2]
    exact ⟨rfl, N0, rfl⟩

theorem own_z0 : (0 : Int32).toNatClampNeg = 0 := rfl
theorem own_fin {k : Nat} {d : Value} {us : List Value} : (List.replicate k d).take 0 ++ us ++ (List.replicate k d).drop (0 + k) = us := by simp
theorem pd_crb : parseMethodDescriptor "([BII)[B" = some ⟨[(.array .byte), .int, .int], some (.array .byte)⟩ := by decide +kernel

theorem ef_crb (m : MethodId) (x0 : Addr) (x1 : Int32) (x2 : Int32)  : entryFrame m #[(.ref x0), (.int x1), (.int x2)] 5 = mkF m 0 #[.val (.ref x0), .val (.int x1), .val (.int x2), .unset, .unset] [] := by first | (simp [entryFrame, mkF, argsToLocals, Value.category]; done) | rfl
def Qcrb (Z : State) (a1 : Addr) (k1 : ClassId) (z1 : Int32) (vs us : List Value) (k b : Nat) (p1 p2 : Int32) (h0 : Heap) (n0 : Nat) (v : Option Value) (h : Heap) (L : List Loc) : Prop := ∃ b, v = some (.ref b) ∧ Fr n0 L ∧ Ext h0 h ∧ ∃ kb, Arv Z h b kb .byte (p2 - p1) us (.int 0)
set_option maxRecDepth 65536 in
set_option maxHeartbeats 40000000 in
theorem rmcrb (l : Launch) (Z : State) (a0 : Array Value) (hw : ∀ d ∈ tables_1, d.before a0 Z = true) (ws : List Jvm.Cond) (a1 : Addr) (k1 : ClassId) (z1 : Int32) (vs us : List Value) (k b : Nat) (p1 p2 : Int32) (h0 : Heap) (n0 : Nat) (Z0 : n0 ≤ h0.size) (As : Arv Z h0 a1 k1 .byte z1 vs (.int 0)) (hp1 : ¬ p1 < (0 : Int32)) (hp2 : ¬ p2 < p1) (hb0 : p1.toNatClampNeg = b) (hkn : (p2 - p1).toNatClampNeg = k) (hk0 : ¬ (p2 - p1) < 0) (hk5 : k ≤ 5) (hmin : ¬ (p2 - p1) < (z1 - p1) → z1 - p1 = p2 - p1) (hzn : b + k ≤ z1.toNatClampNeg) (hus : us = (List.range k).map fun i => vs.getD (b + i) (.int 0)) :
    MetFree l (⟨"java/util/Arrays", "copyOfRangeByte", "([BII)[B"⟩ : MethodName) (head1 (Jvm.Cond.code (⟨"java/util/Arrays", "copyOfRangeByte", "([BII)[B"⟩ : MethodName) jdk_65_method_133_code 5 (some (.array .byte)) :: ws) ({ frames := 1, cells := 1, slots := 5, locals := 40 } : Room)) (fun a U => a = #[(.ref a1), (.int p1), (.int p2)] ∧ Z.Warmed39 U.vm ∧ U.heap = h0) (fun _ _ _ _ _ => True) (fun _ U o U' => ∃ v L, o = .returned v ∧ Qcrb Z a1 k1 z1 vs us k b p1 p2 h0 n0 v U'.heap L ∧ FrameEnd U o U' L ({ frames := 1, cells := 1, slots := 5, locals := 40 } : Room).cells ({ frames := 1, cells := 1, slots := 5, locals := 40 } : Room).slots) := by
  refine MetFree.of_bodySF (plainFor_of_name pn_k5) hisR ?_
  intro p e s m args below meth c s₁ Bd hml0 hP hK
  obtain ⟨rfl, hZ, hh⟩ := hP
  have hx := Bd.exec
  have hby := Bd.bytes
  have hml : c.maxLocals = 5 := hml0
  have hown : s.vm.findClass "java/util/Arrays" = some m.cls := findClass_of_methodNamed Bd.named
  have hnm := (name_of_methodNamed Bd.named Bd.method).1
  have X0 : Stand p l e ({ frames := 1, cells := 1, slots := 5, locals := 40 } : Room) s m #[(.ref a1), (.int p1), (.int p2)] below meth c s₁ [] 0 0 := Stand.of_body Bd
  have e0 : s₁.heap = h0 := by rw [← hh, Bd.state]; rfl
  have N0 := Fr.nil n0
  have pre0 : ∀ t, Steps p.tables e below (s₁.setTop (mkF m 0 #[.val (.ref a1), .val (.int p1), .val (.int p2), .unset, .unset] [])) t → Steps p.tables e below (s₁.setTop (entryFrame m #[(.ref a1), (.int p1), (.int p2)] 5)) t := fun t k => castTop (ef_crb m a1 p1 p2) k
  obtain ⟨_, _, ⟨T1, L1, k1, n1⟩, -, X1, ⟨Lc1, hQ1, l1, y1, z1⟩, st1⟩ := Jvm.LawKit.callS X0 hx (y := (⟨"java/util/Arrays", "checkLength", "(II)V"⟩ : MethodName)) hown (mvT hZ (wd114 hw)) (mvT hZ (wd115 hw)) (mvT hZ (wd109 hw)) (mvT hZ (wd116 hw)) (by decide) (backOf (W := 0) (rmcl l Z a0 hw [] p1 p2 h0 n0 Z0 hp2) hZ (wd116 hw) (wd109 hw) (by decide) (by decide)) (g := (mkF m 2 #[.val (.ref a1), .val (.int p1), .val (.int p2), .unset, .unset] [(.int p2), (.int p1)])) rfl (by rw [hml]; rfl) (argsL := [(.int p1), (.int p2)]) (rest := []) (lenOf pd_cl rfl) rfl (by show 2 * 0 + _ ≤ _; exact Nat.le_of_eq rfl) (hb hby d26_2) (fun _ _ => ⟨rfl, e0, (by decide : 0 + 0 ≤ _), (by decide : 0 + 0 ≤ _)⟩)
  dsimp only [Pt.U, Pt.locs, Pt.cells, Pt.slots] at X1 l1 y1 z1 st1 hQ1
  subst l1 y1 z1
  obtain ⟨rfl, N1q, q1⟩ := hQ1
  have N1 := Fr.app N0 N1q
  obtain ⟨T2, h2, k2, X2, e2, E2, A2, st2⟩ := newP (aty := .byte) X1 hx hZ (wd23 hw) q1 (g := (mkF m 10 #[.val (.ref a1), .val (.int p1), .val (.int p2), .val (.int (p2 - p1)), .unset] [(.int (p2 - p1))])) rfl (hb hby d26_10) rfl hk0 (cap := 5) (by rw [hkn]; exact hk5) (by decide) (by decide) (by decide)
  obtain ⟨b2, gb2⟩ : ∃ z, z = h0.size := ⟨_, rfl⟩
  rw [← gb2] at A2 st2
  have gn2 : n0 ≤ b2 := Nat.le_trans Z0 (Nat.le_of_eq gb2.symm)
  have sz2_b : h0.size ≤ b2 := Nat.le_trans (Keep.refl h0 []).1 (Nat.le_of_eq gb2.symm)
  have ne_a1_b2 : a1 ≠ b2 := Nat.ne_of_lt (Nat.lt_of_lt_of_le As.lt (Nat.le_of_eq gb2.symm))
  have As_2 := As.ext E2
  have K2 := (Keep.refl h0 []).ext E2
  have V2 : Arv Z h2 b2 k2 .byte (p2 - p1) (List.replicate k (.int (0 : Int32))) (.int (0 : Int32)) := (Arv.new A2 hk0).pad (pad_rep [] (.int (0 : Int32)) k)
  have Vc3 := As_2
  obtain ⟨cl3, Ar3, qq3, sz3, nn3, Ha3, Gf3⟩ := Vc3
  obtain ⟨_, _, ⟨T4, L4, k4, n4⟩, -, X4, ⟨Lc4, hQ4, l4, y4, z4⟩, st4⟩ := Jvm.LawKit.callS X2 hx (y := (⟨"java/lang/Math", "min", "(II)I"⟩ : MethodName)) hown (mvT hZ (wd117 hw)) (mvT hZ (wd118 hw)) (mvT hZ (wd119 hw)) (mvT hZ (wd120 hw)) (by decide) (backOf (W := 4) (rmmn l Z a0 hw [] (z1 - p1) (p2 - p1) h2 n0 (Nat.le_trans Z0 E2.1)) hZ (wd120 hw) (wd119 hw) (by decide) (by decide)) (g := (mkF m 24 #[.val (.ref a1), .val (.int p1), .val (.int p2), .val (.int (p2 - p1)), .val (.ref b2)] [(.int (p2 - p1)), (.int (z1 - p1)), (.int (0 : Int32)), (.ref b2), (.int p1), (.ref a1)])) rfl (by rw [hml]; rfl) (argsL := [(.int (z1 - p1)), (.int (p2 - p1))]) (rest := [(.int (0 : Int32)), (.ref b2), (.int p1), (.ref a1)]) (lenOf pd_mn rfl) rfl (by show 2 * 0 + _ ≤ _; exact Nat.le_of_eq rfl) (hb hby d26_24) (fun _ _ => ⟨rfl, e2, (by decide : 1 + 0 ≤ _), (by decide : 5 + 0 ≤ _)⟩)
  dsimp only [Pt.U, Pt.locs, Pt.cells, Pt.slots] at X4 l4 y4 z4 st4 hQ4
  subst l4 y4 z4
  obtain ⟨rfl, N4q, q4⟩ := hQ4
  have N4 := Fr.app N1 N4q
  have hm : own_min (z1 - p1) (p2 - p1) = p2 - p1 := by
    unfold own_min
    split
    · rfl
    · exact hmin (by assumption)
  obtain ⟨T5, h5, L5, X5, e5, N5, Kc5, V5, st5⟩ := cpA X4 hx hZ hown (wd121 hw) (wd124 hw) (wd122 hw) (wd123 hw) q4 As_2 V2 (sp := p1) (dp := (0 : Int32)) (nn := (own_min (z1 - p1) (p2 - p1))) (us := us) (Or.inl ⟨rfl, rfl⟩) hp1 (by decide) (by rw [hm]; exact hk0) (by rw [hm, hb0, hkn]; exact hzn) (by rw [hm, hkn, own_z0]; exact Nat.le_of_eq (Nat.zero_add _)) (by rw [hm, hb0, hkn]; exact hus) (by rw [hm, hkn, own_z0, List.length_replicate]; exact Nat.le_of_eq (Nat.zero_add _)) N4 gn2 (g := (mkF m 27 #[.val (.ref a1), .val (.int p1), .val (.int p2), .val (.int (p2 - p1)), .val (.ref b2)] [(.int (own_min (z1 - p1) (p2 - p1))), (.int (0 : Int32)), (.ref b2), (.int p1), (.ref a1)])) rfl (by rw [hml]; rfl) rfl (hb hby d26_27) (by decide) (W := 0) (by show 2 * 0 + _ ≤ _; exact Nat.le_of_eq rfl) (by decide)
  have Kz := K2.trans Kc5 (fun x hx => by cases List.mem_singleton.mp hx; exact Or.inr sz2_b)
  have pre6 : ∀ t, Steps p.tables e below (T5.setTop (mkF m 32 #[.val (.ref a1), .val (.int p1), .val (.int p2), .val (.int (p2 - p1)), .val (.ref b2)] [(.ref b2)])) t → Steps p.tables e below (s₁.setTop (entryFrame m #[(.ref a1), (.int p1), (.int p2)] 5)) t := fun t k => pre0 t (by
    show Steps p.tables e below (s₁.setTop (mkF m 0 #[.val (.ref a1), .val (.int p1), .val (.int p2), .unset, .unset] [])) _
    refine XS.iloadN X0.here hx rfl (hb hby d26_0) rfl ?_
    refine XS.iloadN X0.here hx rfl (hb hby d26_1) rfl ?_
    refine st1 _ ?_
    refine XS.iloadN X1.here hx rfl (hb hby d26_5) rfl ?_
    refine XS.iloadN X1.here hx rfl (hb hby d26_6) rfl ?_
    refine XS.isub X1.here hx rfl (hb hby d26_7) rfl ?_
    refine XS.istoreN X1.here hx rfl (hb hby d26_8) rfl (l' := #[.val (.ref a1), .val (.int p1), .val (.int p2), .val (.int (p2 - p1)), .unset]) rfl ?_
    refine XS.iloadN X1.here hx rfl (hb hby d26_9) rfl ?_
    refine st2 _ ?_
    refine XS.astore X2.here hx rfl (hb hby d26_12) rfl rfl (l' := #[.val (.ref a1), .val (.int p1), .val (.int p2), .val (.int (p2 - p1)), .val (.ref b2)]) rfl ?_
    refine XS.aloadN X2.here hx rfl (hb hby d26_14) rfl rfl ?_
    refine XS.iloadN X2.here hx rfl (hb hby d26_15) rfl ?_
    refine XS.aload X2.here hx rfl (hb hby d26_16) rfl rfl ?_
    refine XS.iconst X2.here hx rfl (hb hby d26_18) ?_
    refine XS.aloadN X2.here hx rfl (hb hby d26_19) rfl rfl ?_
    refine X2.arraylength hx (by rw [e2]; exact Ar3.1) (State.isArrayOf_alike hZ.alike Ar3.2.1) (g := (mkF m 20 #[.val (.ref a1), .val (.int p1), .val (.int p2), .val (.int (p2 - p1)), .val (.ref b2)] [(.ref a1), (.int (0 : Int32)), (.ref b2), (.int p1), (.ref a1)])) rfl rfl (hb hby d26_20) _ ?_
    rw [len_of sz3 nn3]
    refine XS.iloadN X2.here hx rfl (hb hby d26_21) rfl ?_
    refine XS.isub X2.here hx rfl (hb hby d26_22) rfl ?_
    refine XS.iloadN X2.here hx rfl (hb hby d26_23) rfl ?_
    refine st4 _ ?_
    refine st5 _ ?_
    refine XS.aload X5.here hx rfl (hb hby d26_30) rfl rfl ?_
    exact k)
  obtain ⟨fs7, hr7, hrun7, hended7, hW7, hsame7⟩ := X5.leave (v := some (.ref b2)) (fun h => by rw [Bd.returns] at h; cases h)
  refine ⟨_, _, pre6 _ ?_, hrun7, hended7, _, _, rfl, ?_, ⟨_, rfl⟩, hW7, hsame7.mono (by decide) (by decide)⟩
  · show Steps p.tables e below (T5.setTop (mkF m 32 #[.val (.ref a1), .val (.int p1), .val (.int p2), .val (.int (p2 - p1)), .val (.ref b2)] [(.ref b2)])) _
    exact retOut X5 hx (t := (.array .byte)) Bd.returns rfl (Or.inr (Or.inr (Or.inr (Or.inr ⟨rfl, rfl, rfl⟩)))) (hb hby d26_32) hr7
  · show Qcrb Z a1 k1 z1 vs us k b p1 p2 h0 n0 _ T5.heap _
    rw [e5]
    refine ⟨_, rfl, N5, own_ext Kz, k2, ?_⟩
    have q := V5
    rw [hm, hkn, own_z0, own_fin] at q
    exact q

theorem pd_cr : parseMethodDescriptor "([BII)[B" = some ⟨[(.array .byte), .int, .int], some (.array .byte)⟩ := by decide +kernel

theorem ef_cr (m : MethodId) (x0 : Addr) (x1 : Int32) (x2 : Int32)  : entryFrame m #[(.ref x0), (.int x1), (.int x2)] 3 = mkF m 0 #[.val (.ref x0), .val (.int x1), .val (.int x2)] [] := by first | (simp [entryFrame, mkF, argsToLocals, Value.category]; done) | rfl
def Qcr (Z : State) (a1 : Addr) (k1 : ClassId) (z1 : Int32) (vs us : List Value) (k b : Nat) (p1 p2 : Int32) (h0 : Heap) (n0 : Nat) (v : Option Value) (h : Heap) (L : List Loc) : Prop := ∃ b, v = some (.ref b) ∧ Fr n0 L ∧ Ext h0 h ∧ ∃ kb, Arv Z h b kb .byte (p2 - p1) us (.int 0)
set_option maxRecDepth 65536 in
set_option maxHeartbeats 40000000 in
theorem rmcr (l : Launch) (Z : State) (a0 : Array Value) (hw : ∀ d ∈ tables_1, d.before a0 Z = true) (ws : List Jvm.Cond) (a1 : Addr) (k1 : ClassId) (z1 : Int32) (vs us : List Value) (k b : Nat) (p1 p2 : Int32) (h0 : Heap) (n0 : Nat) (Z0 : n0 ≤ h0.size) (As : Arv Z h0 a1 k1 .byte z1 vs (.int 0)) (hp0 : ¬ p1 = (0 : Int32)) (hp1 : ¬ p1 < (0 : Int32)) (hp2 : ¬ p2 < p1) (hb0 : p1.toNatClampNeg = b) (hkn : (p2 - p1).toNatClampNeg = k) (hk0 : ¬ (p2 - p1) < 0) (hk5 : k ≤ 5) (hmin : ¬ (p2 - p1) < (z1 - p1) → z1 - p1 = p2 - p1) (hzn : b + k ≤ z1.toNatClampNeg) (hus : us = (List.range k).map fun i => vs.getD (b + i) (.int 0)) :
    MetFree l (⟨"java/util/Arrays", "copyOfRange", "([BII)[B"⟩ : MethodName) (head1 (Jvm.Cond.code (⟨"java/util/Arrays", "copyOfRange", "([BII)[B"⟩ : MethodName) jdk_65_method_132_code 3 (some (.array .byte)) :: ws) ({ frames := 2, cells := 1, slots := 5, locals := 56 } : Room)) (fun a U => a = #[(.ref a1), (.int p1), (.int p2)] ∧ Z.Warmed39 U.vm ∧ U.heap = h0) (fun _ _ _ _ _ => True) (fun _ U o U' => ∃ v L, o = .returned v ∧ Qcr Z a1 k1 z1 vs us k b p1 p2 h0 n0 v U'.heap L ∧ FrameEnd U o U' L ({ frames := 2, cells := 1, slots := 5, locals := 56 } : Room).cells ({ frames := 2, cells := 1, slots := 5, locals := 56 } : Room).slots) := by
  refine MetFree.of_bodySF (plainFor_of_name pn_k5) hisR ?_
  intro p e s m args below meth c s₁ Bd hml0 hP hK
  obtain ⟨rfl, hZ, hh⟩ := hP
  have hx := Bd.exec
  have hby := Bd.bytes
  have hml : c.maxLocals = 3 := hml0
  have hown : s.vm.findClass "java/util/Arrays" = some m.cls := findClass_of_methodNamed Bd.named
  have hnm := (name_of_methodNamed Bd.named Bd.method).1
  have X0 : Stand p l e ({ frames := 2, cells := 1, slots := 5, locals := 56 } : Room) s m #[(.ref a1), (.int p1), (.int p2)] below meth c s₁ [] 0 0 := Stand.of_body Bd
  have e0 : s₁.heap = h0 := by rw [← hh, Bd.state]; rfl
  have N0 := Fr.nil n0
  have pre0 : ∀ t, Steps p.tables e below (s₁.setTop (mkF m 0 #[.val (.ref a1), .val (.int p1), .val (.int p2)] [])) t → Steps p.tables e below (s₁.setTop (entryFrame m #[(.ref a1), (.int p1), (.int p2)] 3)) t := fun t k => castTop (ef_cr m a1 p1 p2) k
  obtain ⟨_, _, ⟨T1, L1, k1, n1⟩, -, X1, ⟨Lc1, hQ1, l1, y1, z1⟩, st1⟩ := Jvm.LawKit.callS X0 hx (y := (⟨"java/util/Arrays", "copyOfRangeByte", "([BII)[B"⟩ : MethodName)) hown (mvT hZ (wd111 hw)) (mvT hZ (wd112 hw)) (mvT hZ (wd109 hw)) (mvT hZ (wd113 hw)) (by decide) (backOf (W := 0) (rmcrb l Z a0 hw [] a1 k1 z1 vs us k b p1 p2 h0 n0 Z0 As hp1 hp2 hb0 hkn hk0 hk5 hmin hzn hus) hZ (wd113 hw) (wd109 hw) (by decide) (by decide)) (g := (mkF m 13 #[.val (.ref a1), .val (.int p1), .val (.int p2)] [(.int p2), (.int p1), (.ref a1)])) rfl (by rw [hml]; rfl) (argsL := [(.ref a1), (.int p1), (.int p2)]) (rest := []) (lenOf pd_crb rfl) rfl (by show 2 * 0 + _ ≤ _; exact Nat.le_of_eq rfl) (hb hby d25_13) (fun _ _ => ⟨rfl, e0, (by decide : 0 + 1 ≤ _), (by decide : 0 + 5 ≤ _)⟩)
  dsimp only [Pt.U, Pt.locs, Pt.cells, Pt.slots] at X1 l1 y1 z1 st1 hQ1
  subst l1 y1 z1
  obtain ⟨b1, rfl, N1q, E1, kb1, V1⟩ := hQ1
  have N1 := Fr.app N0 N1q
  have pre2 : ∀ t, Steps p.tables e below (T1.setTop (mkF m 16 #[.val (.ref a1), .val (.int p1), .val (.int p2)] [(.ref b1)])) t → Steps p.tables e below (s₁.setTop (entryFrame m #[(.ref a1), (.int p1), (.int p2)] 3)) t := fun t k => pre0 t (by
    show Steps p.tables e below (s₁.setTop (mkF m 0 #[.val (.ref a1), .val (.int p1), .val (.int p2)] [])) _
    refine XS.iloadN X0.here hx rfl (hb hby d25_0) rfl ?_
    refine XS.ifYes X0.here hx rfl (pc0 := 1) (pc' := 10) rfl (hb hby d25_1) rfl ((if0 _ _).trans (feq hp0).2) (by decide) (by decide) ?_
    refine XS.aloadN X0.here hx rfl (hb hby d25_10) rfl rfl ?_
    refine XS.iloadN X0.here hx rfl (hb hby d25_11) rfl ?_
    refine XS.iloadN X0.here hx rfl (hb hby d25_12) rfl ?_
    refine st1 _ ?_
    exact k)
  obtain ⟨fs3, hr3, hrun3, hended3, hW3, hsame3⟩ := X1.leave (v := some (.ref b1)) (fun h => by rw [Bd.returns] at h; cases h)
  refine ⟨_, _, pre2 _ ?_, hrun3, hended3, _, _, rfl, ?_, ⟨_, rfl⟩, hW3, hsame3.mono (by decide) (by decide)⟩
  · show Steps p.tables e below (T1.setTop (mkF m 16 #[.val (.ref a1), .val (.int p1), .val (.int p2)] [(.ref b1)])) _
    exact retOut X1 hx (t := (.array .byte)) Bd.returns rfl (Or.inr (Or.inr (Or.inr (Or.inr ⟨rfl, rfl, rfl⟩)))) (hb hby d25_16) hr3
  · show Qcr Z a1 k1 z1 vs us k b p1 p2 h0 n0 _ T1.heap _
    exact ⟨_, rfl, N1, E1, kb1, V1⟩

theorem pd_ib : parseMethodDescriptor "([BB)V" = some ⟨[(.array .byte), .byte], none⟩ := by decide +kernel

theorem ef_ib (m : MethodId) (x0 : Addr) (x1 : Addr) (x2 : Int32)  : entryFrame m #[(.ref x0), (.ref x1), (.int x2)] 3 = mkF m 0 #[.val (.ref x0), .val (.ref x1), .val (.int x2)] [] := by first | (simp [entryFrame, mkF, argsToLocals, Value.category]; done) | rfl
def Qib (Z : State) (a1 a2 : Addr) (u1 u2 : Value) (h0 : Heap) (n0 : Nat) (v : Option Value) (h : Heap) (L : List Loc) : Prop := v = none ∧ Fr n0 L ∧ Keep h0 h [a1] ∧ Exa Z h a1 "java/lang/String" ∧ Fld Z h a1 "java/lang/String" "value" "[B" (.ref a2) ∧ Fld Z h a1 "java/lang/String" "coder" "B" (.int 0)
set_option maxRecDepth 65536 in
set_option maxHeartbeats 40000000 in
theorem rmib (l : Launch) (Z : State) (a0 : Array Value) (hw : ∀ d ∈ tables_1, d.before a0 Z = true) (ws : List Jvm.Cond) (a1 a2 : Addr) (u1 u2 : Value) (h0 : Heap) (n0 : Nat) (Z0 : n0 ≤ h0.size) (F1 : Fld Z h0 a1 "java/lang/String" "value" "[B" u1) (C1 : Fld Z h0 a1 "java/lang/String" "coder" "B" u2) (E1 : Exa Z h0 a1 "java/lang/String") (g1 : n0 ≤ a1) :
    MetFree l (⟨"java/lang/String", "<init>", "([BB)V"⟩ : MethodName) (head1 (Jvm.Cond.code (⟨"java/lang/String", "<init>", "([BB)V"⟩ : MethodName) jdk_42_method_151_code 3 none :: ws) ({ frames := 1, cells := 0, slots := 0, locals := 12 } : Room)) (fun a U => a = #[(.ref a1), (.ref a2), (.int (0 : Int32))] ∧ Z.Warmed39 U.vm ∧ U.heap = h0) (fun _ _ _ _ _ => True) (fun _ U o U' => ∃ v L, o = .returned v ∧ Qib Z a1 a2 u1 u2 h0 n0 v U'.heap L ∧ FrameEnd U o U' L ({ frames := 1, cells := 0, slots := 0, locals := 12 } : Room).cells ({ frames := 1, cells := 0, slots := 0, locals := 12 } : Room).slots) := by
  refine MetFree.of_bodySF (plainFor_of_name pn_k2) hisR ?_
  intro p e s m args below meth c s₁ Bd hml0 hP hK
  obtain ⟨rfl, hZ, hh⟩ := hP
  have hx := Bd.exec
  have hby := Bd.bytes
  have hml : c.maxLocals = 3 := hml0
  have hown : s.vm.findClass "java/lang/String" = some m.cls := findClass_of_methodNamed Bd.named
  have hnm := (name_of_methodNamed Bd.named Bd.method).1
  have X0 : Stand p l e ({ frames := 1, cells := 0, slots := 0, locals := 12 } : Room) s m #[(.ref a1), (.ref a2), (.int (0 : Int32))] below meth c s₁ [] 0 0 := Stand.of_body Bd
  have e0 : s₁.heap = h0 := by rw [← hh, Bd.state]; rfl
  have N0 := Fr.nil n0
  have pre0 : ∀ t, Steps p.tables e below (s₁.setTop (mkF m 0 #[.val (.ref a1), .val (.ref a2), .val (.int (0 : Int32))] [])) t → Steps p.tables e below (s₁.setTop (entryFrame m #[(.ref a1), (.ref a2), (.int (0 : Int32))] 3)) t := fun t k => castTop (ef_ib m a1 a2 (0 : Int32)) k
  obtain ⟨T1, X1, e1, st1⟩ := initO X0 hx hZ hown (wd19 hw) (wd20 hw) (wd21 hw) e0 (g := (mkF m 1 #[.val (.ref a1), .val (.ref a2), .val (.int (0 : Int32))] [(.ref a1)])) rfl (by rw [hml]; rfl) rfl (hb hby d29_1) (by decide) (W := 0) (by show 2 * 0 + _ ≤ _; exact Nat.le_of_eq rfl) (by decide)
  obtain ⟨T2, h2, X2, e2, W2, st2⟩ := putF X1 hx hZ hown (host := "") (Or.inl (wd28 hw)) Via.refl e1 F1 E1 (Or.inr ⟨(wd24 hw), rfl, hnm⟩) (wd9 hw) (ty := (.array .byte)) (by decide) rfl rfl (g := (mkF m 6 #[.val (.ref a1), .val (.ref a2), .val (.int (0 : Int32))] [(.ref a2), (.ref a1)])) rfl rfl (hb hby d29_6)
  have N2 := Fr.snoc X2 N0 g1
  have F1_2 := F1.same W2
  have C1_2 := C1.other W2 (Or.inr (slot_ne (Or.inr (wd25 hw)) (Or.inr (wd24 hw)) (by decide) (t := .byte) (t' := (.array .byte)) (by decide) (by decide)))
  have E1_2 := E1.wr W2
  obtain ⟨T3, h3, X3, e3, W3, st3⟩ := putFN X2 hx hZ hown (wd29 hw) Via.refl e2 C1_2 E1_2 (Or.inr ⟨(wd25 hw), rfl, hnm⟩) (wd9 hw) (ty := .byte) (v' := (.int (0 : Int32))) (by decide) rfl rfl (g := (mkF m 11 #[.val (.ref a1), .val (.ref a2), .val (.int (0 : Int32))] [(.int (0 : Int32)), (.ref a1)])) rfl rfl (hb hby d29_11)
  have N3 := Fr.snoc X3 N2 g1
  have F1_3 := F1_2.other W3 (Or.inr (slot_ne (Or.inr (wd24 hw)) (Or.inr (wd25 hw)) (by decide) (t := (.array .byte)) (t' := .byte) (by decide) (by decide)))
  have C1_3 := C1_2.same W3
  have E1_3 := E1_2.wr W3
  have pre4 : ∀ t, Steps p.tables e below (T3.setTop (mkF m 14 #[.val (.ref a1), .val (.ref a2), .val (.int (0 : Int32))] [])) t → Steps p.tables e below (s₁.setTop (entryFrame m #[(.ref a1), (.ref a2), (.int (0 : Int32))] 3)) t := fun t k => pre0 t (by
    show Steps p.tables e below (s₁.setTop (mkF m 0 #[.val (.ref a1), .val (.ref a2), .val (.int (0 : Int32))] [])) _
    refine XS.aloadN X0.here hx rfl (hb hby d29_0) rfl rfl ?_
    refine st1 _ ?_
    refine XS.aloadN X1.here hx rfl (hb hby d29_4) rfl rfl ?_
    refine XS.aloadN X1.here hx rfl (hb hby d29_5) rfl rfl ?_
    refine st2 _ ?_
    refine XS.aloadN X2.here hx rfl (hb hby d29_9) rfl rfl ?_
    refine XS.iloadN X2.here hx rfl (hb hby d29_10) rfl ?_
    refine st3 _ ?_
    exact k)
  obtain ⟨fs5, hr5, hrun5, hended5, hW5, hsame5⟩ := X3.leave (v := none) (fun _ => rfl)
  refine ⟨_, _, pre4 _ ?_, hrun5, hended5, _, _, rfl, ?_, ⟨_, rfl⟩, hW5, hsame5.mono (by decide) (by decide)⟩
  · show Steps p.tables e below (T3.setTop (mkF m 14 #[.val (.ref a1), .val (.ref a2), .val (.int (0 : Int32))] [])) _
    exact X3.returnOut hx Bd.returns (hb hby d29_14) hr5
  · show Qib Z a1 a2 u1 u2 h0 n0 _ T3.heap _
    rw [e3]
    exact ⟨rfl, N3, (Keep.of_wr W2).wr W3 (Or.inl (List.mem_singleton.mpr rfl)), E1_3, F1_3, C1_3⟩

theorem own_sb {Z : State} {h : Heap} {a b : Addr} {k : ClassId} {z : Int32} {vs : List Value} {d : Value} {n : Nat} {a0 : Array Value} (E : Exa Z h a "java/lang/String") (w : (Jvm.Cond.instantiable "java/lang/String" n).before a0 Z = true) (F : Arv Z h b k .byte z vs d) : a ≠ b := E.neArv F w
theorem pd_ns : parseMethodDescriptor "([BII)Ljava/lang/String;" = some ⟨[(.array .byte), .int, .int], some (.object "java/lang/String")⟩ := by decide +kernel

theorem ef_ns (m : MethodId) (x0 : Addr) (x1 : Int32) (x2 : Int32)  : entryFrame m #[(.ref x0), (.int x1), (.int x2)] 3 = mkF m 0 #[.val (.ref x0), .val (.int x1), .val (.int x2)] [] := by first | (simp [entryFrame, mkF, argsToLocals, Value.category]; done) | rfl
def Qns (Z : State) (a1 : Addr) (k1 : ClassId) (z1 : Int32) (vs us : List Value) (k b : Nat) (p1 p3 : Int32) (h0 : Heap) (n0 : Nat) (v : Option Value) (h : Heap) (L : List Loc) : Prop := ∃ x t kb, v = some (.ref x) ∧ Fr n0 L ∧ Ext h0 h ∧ Exa Z h x "java/lang/String" ∧ Fld Z h x "java/lang/String" "value" "[B" (.ref t) ∧ Fld Z h x "java/lang/String" "coder" "B" (.int 0) ∧ Arv Z h t kb .byte ((p1 + p3) - p1) us (.int 0)
set_option maxRecDepth 65536 in
set_option maxHeartbeats 40000000 in
theorem rmns (l : Launch) (Z : State) (a0 : Array Value) (hw : ∀ d ∈ tables_1, d.before a0 Z = true) (ws : List Jvm.Cond) (a1 : Addr) (k1 : ClassId) (z1 : Int32) (vs us : List Value) (k b : Nat) (p1 p3 : Int32) (h0 : Heap) (n0 : Nat) (Z0 : n0 ≤ h0.size) (As : Arv Z h0 a1 k1 .byte z1 vs (.int 0)) (hp0 : ¬ p1 = (0 : Int32)) (hp9 : ¬ p3 = (0 : Int32)) (hp1 : ¬ p1 < (0 : Int32)) (hp2 : ¬ (p1 + p3) < p1) (hb0 : p1.toNatClampNeg = b) (hkn : ((p1 + p3) - p1).toNatClampNeg = k) (hk0 : ¬ ((p1 + p3) - p1) < 0) (hk5 : k ≤ 5) (hmin : ¬ ((p1 + p3) - p1) < (z1 - p1) → z1 - p1 = (p1 + p3) - p1) (hzn : b + k ≤ z1.toNatClampNeg) (hus : us = (List.range k).map fun i => vs.getD (b + i) (.int 0)) :
    MetFree l (⟨"java/lang/StringLatin1", "newString", "([BII)Ljava/lang/String;"⟩ : MethodName) (head1 (Jvm.Cond.code (⟨"java/lang/StringLatin1", "newString", "([BII)Ljava/lang/String;"⟩ : MethodName) jdk_43_method_47_code 3 (some (.object "java/lang/String")) :: ws) ({ frames := 3, cells := 2, slots := 9, locals := 80 } : Room)) (fun a U => a = #[(.ref a1), (.int p1), (.int p3)] ∧ Z.Warmed39 U.vm ∧ U.heap = h0) (fun _ _ _ _ _ => True) (fun _ U o U' => ∃ v L, o = .returned v ∧ Qns Z a1 k1 z1 vs us k b p1 p3 h0 n0 v U'.heap L ∧ FrameEnd U o U' L ({ frames := 3, cells := 2, slots := 9, locals := 80 } : Room).cells ({ frames := 3, cells := 2, slots := 9, locals := 80 } : Room).slots) := by
  refine MetFree.of_bodySF (plainFor_of_name pn_k4) hisR ?_
  intro p e s m args below meth c s₁ Bd hml0 hP hK
  obtain ⟨rfl, hZ, hh⟩ := hP
  have hx := Bd.exec
  have hby := Bd.bytes
  have hml : c.maxLocals = 3 := hml0
  have hown : s.vm.findClass "java/lang/StringLatin1" = some m.cls := findClass_of_methodNamed Bd.named
  have hnm := (name_of_methodNamed Bd.named Bd.method).1
  have X0 : Stand p l e ({ frames := 3, cells := 2, slots := 9, locals := 80 } : Room) s m #[(.ref a1), (.int p1), (.int p3)] below meth c s₁ [] 0 0 := Stand.of_body Bd
  have e0 : s₁.heap = h0 := by rw [← hh, Bd.state]; rfl
  have N0 := Fr.nil n0
  have pre0 : ∀ t, Steps p.tables e below (s₁.setTop (mkF m 0 #[.val (.ref a1), .val (.int p1), .val (.int p3)] [])) t → Steps p.tables e below (s₁.setTop (entryFrame m #[(.ref a1), (.int p1), (.int p3)] 3)) t := fun t k => castTop (ef_ns m a1 p1 p3) k
  obtain ⟨T1, h1, X1, e1, E1, A1, D1, -, st1⟩ := newO X0 hx hZ hown (wd106 hw) (wd9 hw) (wd10 hw) e0 (g := (mkF m 7 #[.val (.ref a1), .val (.int p1), .val (.int p3)] [])) rfl (hb hby d24_7) (by decide) (by decide)
  obtain ⟨b1, gb1⟩ : ∃ z, z = h0.size := ⟨_, rfl⟩
  rw [← gb1] at A1 D1 st1
  have gn1 : n0 ≤ b1 := Nat.le_trans Z0 (Nat.le_of_eq gb1.symm)
  have sz1_b : h0.size ≤ b1 := Nat.le_trans (Keep.refl h0 []).1 (Nat.le_of_eq gb1.symm)
  have ne_a1_b1 : a1 ≠ b1 := Nat.ne_of_lt (Nat.lt_of_lt_of_le As.lt (Nat.le_of_eq gb1.symm))
  have As_1 := As.ext E1
  have K1 := (Keep.refl h0 []).ext E1
  have F_value_b1 : Fld Z h1 b1 "java/lang/String" "value" "[B" .null := D1 (Or.inr (wd24 hw)) (ty := (.array .byte)) (by decide)
  have F_coder_b1 : Fld Z h1 b1 "java/lang/String" "coder" "B" (.int (0 : Int32)) := D1 (Or.inr (wd25 hw)) (ty := .byte) (by decide)
  obtain ⟨_, _, ⟨T2, L2, k2, n2⟩, -, X2, ⟨Lc2, hQ2, l2, y2, z2⟩, st2⟩ := Jvm.LawKit.callS X1 hx (y := (⟨"java/util/Arrays", "copyOfRange", "([BII)[B"⟩ : MethodName)) hown (mvT hZ (wd107 hw)) (mvT hZ (wd108 hw)) (mvT hZ (wd109 hw)) (mvT hZ (wd110 hw)) (by decide) (backOf (W := 2) (rmcr l Z a0 hw [] a1 k1 z1 vs us k b p1 (p1 + p3) h1 n0 (Nat.le_trans Z0 E1.1) As_1 hp0 hp1 hp2 hb0 hkn hk0 hk5 hmin hzn hus) hZ (wd110 hw) (wd109 hw) (by decide) (by decide)) (g := (mkF m 16 #[.val (.ref a1), .val (.int p1), .val (.int p3)] [(.int (p1 + p3)), (.int p1), (.ref a1), (.ref b1), (.ref b1)])) rfl (by rw [hml]; rfl) (argsL := [(.ref a1), (.int p1), (.int (p1 + p3))]) (rest := [(.ref b1), (.ref b1)]) (lenOf pd_cr rfl) rfl (by show 2 * 0 + _ ≤ _; exact Nat.le_of_eq rfl) (hb hby d24_16) (fun _ _ => ⟨rfl, e1, (by decide : 1 + 1 ≤ _), (by decide : 4 + 5 ≤ _)⟩)
  dsimp only [Pt.U, Pt.locs, Pt.cells, Pt.slots] at X2 l2 y2 z2 st2 hQ2
  subst l2 y2 z2
  obtain ⟨b2, rfl, N2q, E2, kb2, V2⟩ := hQ2
  have N2 := Fr.app N0 N2q
  have As_2 := As_1.ext E2
  have A1_2 := A1.ext E2
  have F_value_b1_2 := F_value_b1.ext E2
  have F_coder_b1_2 := F_coder_b1.ext E2
  have K2 := K1.ext E2
  have nb : b1 ≠ b2 := fun q => own_sb A1_2 (wd9 hw) V2 q
  obtain ⟨_, _, ⟨T3, L3, k3, n3⟩, -, X3, ⟨Lc3, hQ3, l3, y3, z3⟩, st3⟩ := X2.specialBack hx (y := (⟨"java/lang/String", "<init>", "([BB)V"⟩ : MethodName)) rfl hown (mvT hZ (wd125 hw)) (mvT hZ (wd126 hw)) (mvT hZ (wd127 hw)) (by decide) (backOf (W := 1) (rmib l Z a0 hw [] b1 b2 .null (.int 0) T2.heap n0 (Nat.le_trans (Nat.le_trans Z0 E1.1) E2.1) F_value_b1_2 F_coder_b1_2 A1_2 gn1) hZ (wd127 hw) (wd10 hw) (by decide) (by decide)) (g := (mkF m 20 #[.val (.ref a1), .val (.int p1), .val (.int p3)] [(.int (0 : Int32)), (.ref b2), (.ref b1), (.ref b1)])) rfl (by rw [hml]; rfl) (Steps.refl _) (a := b1) (argsL := [(.ref b2), (.int (0 : Int32))]) (rest := [(.ref b1)]) (lenOf pd_ib rfl) rfl (by show 2 * 0 + _ ≤ _; exact Nat.le_of_eq rfl) (hb hby d24_20) (fun _ _ => ⟨rfl, rfl, (by decide : 2 + 0 ≤ _), (by decide : 9 + 0 ≤ _)⟩)
  dsimp only [Pt.U, Pt.locs, Pt.cells, Pt.slots] at X3 l3 y3 z3 st3 hQ3
  subst l3 y3 z3
  obtain ⟨rfl, N3q, Kp3, Ex3, Fv3, Fc3⟩ := hQ3
  have N3 := Fr.app N2 N3q
  have Vq := V2.keep Kp3 (ninS (Ne.symm nb) nin0)
  have Kz := K2.trans Kp3 (fun x hx => by cases List.mem_singleton.mp hx; exact Or.inr sz1_b)
  have pre4 : ∀ t, Steps p.tables e below (T3.setTop (mkF m 23 #[.val (.ref a1), .val (.int p1), .val (.int p3)] [(.ref b1)])) t → Steps p.tables e below (s₁.setTop (entryFrame m #[(.ref a1), (.int p1), (.int p3)] 3)) t := fun t k => pre0 t (by
    show Steps p.tables e below (s₁.setTop (mkF m 0 #[.val (.ref a1), .val (.int p1), .val (.int p3)] [])) _
    refine XS.iloadN X0.here hx rfl (hb hby d24_0) rfl ?_
    refine XS.ifYes X0.here hx rfl (pc0 := 1) (pc' := 7) rfl (hb hby d24_1) rfl ((if0 _ _).trans (feq hp9).2) (by decide) (by decide) ?_
    refine st1 _ ?_
    refine XS.dup X1.here hx rfl (hb hby d24_10) rfl rfl ?_
    refine XS.aloadN X1.here hx rfl (hb hby d24_11) rfl rfl ?_
    refine XS.iloadN X1.here hx rfl (hb hby d24_12) rfl ?_
    refine XS.iloadN X1.here hx rfl (hb hby d24_13) rfl ?_
    refine XS.iloadN X1.here hx rfl (hb hby d24_14) rfl ?_
    refine XS.iadd X1.here hx rfl (hb hby d24_15) rfl ?_
    refine st2 _ ?_
    refine XS.iconst X2.here hx rfl (hb hby d24_19) ?_
    refine st3.trans ?_
    exact k)
  obtain ⟨fs5, hr5, hrun5, hended5, hW5, hsame5⟩ := X3.leave (v := some (.ref b1)) (fun h => by rw [Bd.returns] at h; cases h)
  refine ⟨_, _, pre4 _ ?_, hrun5, hended5, _, _, rfl, ?_, ⟨_, rfl⟩, hW5, hsame5.mono (by decide) (by decide)⟩
  · show Steps p.tables e below (T3.setTop (mkF m 23 #[.val (.ref a1), .val (.int p1), .val (.int p3)] [(.ref b1)])) _
    exact retOut X3 hx (t := (.object "java/lang/String")) Bd.returns rfl (Or.inr (Or.inr (Or.inr (Or.inr ⟨rfl, rfl, rfl⟩)))) (hb hby d24_23) hr5
  · show Qns Z a1 k1 z1 vs us k b p1 p3 h0 n0 _ T3.heap _
    exact ⟨_, _, _, rfl, N3, own_ext Kz, Ex3, Fv3, Fc3, Vq⟩

theorem pd_len : parseMethodDescriptor "()I" = some ⟨[], some .int⟩ := by decide +kernel

theorem pd_cha : parseMethodDescriptor "(I)C" = some ⟨[.int], some .char⟩ := by decide +kernel

theorem pd_emp : parseMethodDescriptor "()Z" = some ⟨[], some .boolean⟩ := by decide +kernel

theorem pd_eq : parseMethodDescriptor "(Ljava/lang/Object;)Z" = some ⟨[(.object "java/lang/Object")], some .boolean⟩ := by decide +kernel

theorem pd_bv : parseMethodDescriptor "([C)V" = some ⟨[(.array .char)], none⟩ := by decide +kernel

theorem pd_ss3 : parseMethodDescriptor "(II)Ljava/lang/String;" = some ⟨[.int, .int], some (.object "java/lang/String")⟩ := by decide +kernel

theorem ef_ss3 (m : MethodId) (x0 : Addr) (x1 : Int32) (x2 : Int32)  : entryFrame m #[(.ref x0), (.int x1), (.int x2)] 5 = mkF m 0 #[.val (.ref x0), .val (.int x1), .val (.int x2), .unset, .unset] [] := by first | (simp [entryFrame, mkF, argsToLocals, Value.category]; done) | rfl
def Qss3 (Z : State) (x : Addr) (c0 c1 c2 : Int32) (h0 : Heap) (n0 : Nat) (v : Option Value) (h : Heap) (L : List Loc) : Prop := ∃ y, v = some (.ref y) ∧ Fr n0 L ∧ Ext h0 h ∧ own_str Z h y [c1]
set_option maxRecDepth 65536 in
set_option maxHeartbeats 40000000 in
theorem rmss3 (l : Launch) (Z : State) (a0 : Array Value) (hw : ∀ d ∈ tables_1, d.before a0 Z = true) (ws : List Jvm.Cond) (x : Addr) (c0 c1 c2 : Int32) (h0 : Heap) (n0 : Nat) (Z0 : n0 ≤ h0.size) (SX : own_str Z h0 x [c0, c1, c2]) (EN : own_env Z h0) (hpr : own_pr [c0, c1, c2]) :
    MetFree l (⟨"java/lang/String", "substring", "(II)Ljava/lang/String;"⟩ : MethodName) (head1 (Jvm.Cond.code (⟨"java/lang/String", "substring", "(II)Ljava/lang/String;"⟩ : MethodName) jdk_42_method_92_code 5 (some (.object "java/lang/String")) :: ws) ({ frames := 4, cells := 2, slots := 9, locals := 94 } : Room)) (fun a U => a = #[(.ref x), (.int (1 : Int32)), (.int (2 : Int32))] ∧ Z.Warmed39 U.vm ∧ U.heap = h0) (fun _ _ _ _ _ => True) (fun _ U o U' => ∃ v L, o = .returned v ∧ Qss3 Z x c0 c1 c2 h0 n0 v U'.heap L ∧ FrameEnd U o U' L ({ frames := 4, cells := 2, slots := 9, locals := 94 } : Room).cells ({ frames := 4, cells := 2, slots := 9, locals := 94 } : Room).slots) := by
  refine MetFree.of_bodySF (plainFor_of_name pn_k2) hisR ?_
  intro p e s m args below meth c s₁ Bd hml0 hP hK
  obtain ⟨rfl, hZ, hh⟩ := hP
  have hx := Bd.exec
  have hby := Bd.bytes
  have hml : c.maxLocals = 5 := hml0
  have hown : s.vm.findClass "java/lang/String" = some m.cls := findClass_of_methodNamed Bd.named
  have hnm := (name_of_methodNamed Bd.named Bd.method).1
  have X0 : Stand p l e ({ frames := 4, cells := 2, slots := 9, locals := 94 } : Room) s m #[(.ref x), (.int (1 : Int32)), (.int (2 : Int32))] below meth c s₁ [] 0 0 := Stand.of_body Bd
  have e0 : s₁.heap = h0 := by rw [← hh, Bd.state]; rfl
  have N0 := Fr.nil n0
  have pre0 : ∀ t, Steps p.tables e below (s₁.setTop (mkF m 0 #[.val (.ref x), .val (.int (1 : Int32)), .val (.int (2 : Int32)), .unset, .unset] [])) t → Steps p.tables e below (s₁.setTop (entryFrame m #[(.ref x), (.int (1 : Int32)), (.int (2 : Int32))] 5)) t := fun t k => castTop (ef_ss3 m x (1 : Int32) (2 : Int32)) k
  have EN0 := EN
  obtain ⟨tv, kb, Ex, Vv, Cc, Kk⟩ := SX
  obtain ⟨z, fm, Sz, hz, Sf, hfm⟩ := EN
  have hcd := own_cod hpr
  have hbd := own_up hpr
  have hln : ∀ d ∈ StrChars.Road.wordsLen, d.before a0 Z = true := fun d hd => hw d ((by decide +kernel : ∀ d ∈ StrChars.Road.wordsLen, d ∈ tables_1) d hd)
  have hch : ∀ d ∈ StrChars.Road.wordsChN, d.before a0 Z = true := fun d hd => hw d ((by decide +kernel : ∀ d ∈ StrChars.Road.wordsChN, d ∈ tables_1) d hd)
  have hep : ∀ d ∈ StrChars.Road.wordsEmp, d.before a0 Z = true := fun d hd => hw d ((by decide +kernel : ∀ d ∈ StrChars.Road.wordsEmp, d ∈ tables_1) d hd)
  obtain ⟨cq1, kq1, qa1, qb1, qc1⟩ := isOf hZ e0 Ex
  obtain ⟨_, _, ⟨T1, L1, k1, n1⟩, -, X1, ⟨Lc1, hQ1, l1, y1, z1⟩, st1⟩ := X0.virtualBack hx (y := (⟨"java/lang/String", "length", "()I"⟩ : MethodName)) (z := (⟨"java/lang/String", "length", "()I"⟩ : MethodName)) hown (mvT hZ (wd96 hw)) (mvT hZ (wd76 hw)) (notFace_of_selects (args := #[]) (mvT hZ (wd78 hw))) (mvT hZ (wd78 hw)) (mvT hZ (wd77 hw)) (by decide) (StrChars.Road.lenW (W := 0) hZ hln (kI := 4) (wd9 hw) Ex Vv Cc Kk hcd hbd Sz hz (Nat.le_of_ble_eq_true rfl) (by decide) (by decide)) qa1 qc1 (g := (mkF m 1 #[.val (.ref x), .val (.int (1 : Int32)), .val (.int (2 : Int32)), .unset, .unset] [(.ref x)])) rfl (by rw [hml]; rfl) (Steps.refl _) (argsL := []) (rest := []) (lenOf pd_len rfl) rfl (by show 2 * 0 + _ ≤ _; exact Nat.le_of_eq rfl) (hb hby d21_1) (fun _ _ => ⟨rfl, e0, (by decide : 0 + 0 ≤ _), (by decide : 0 + 0 ≤ _)⟩)
  dsimp only [Pt.U, Pt.locs, Pt.cells, Pt.slots] at X1 l1 y1 z1 st1 hQ1
  subst l1 y1 z1
  obtain ⟨rfl, rfl, q1⟩ := hQ1
  have N1 := Fr.app N0 (Fr.nil n0)
  obtain ⟨_, _, ⟨T2, L2, k2, n2⟩, -, X2, ⟨Lc2, hQ2, l2, y2, z2⟩, st2⟩ := Jvm.LawKit.callS X1 hx (y := (⟨"java/lang/String", "checkBoundsBeginEnd", "(III)V"⟩ : MethodName)) hown (mvT hZ (wd97 hw)) (mvT hZ (wd98 hw)) (mvT hZ (wd10 hw)) (mvT hZ (wd99 hw)) (by decide) (backOf (W := 0) (rmcb l Z a0 hw [] (1 : Int32) (2 : Int32) (3 : Int32) h0 n0 Z0 EN0 (by decide) (by decide) (by decide)) hZ (wd99 hw) (wd10 hw) (by decide) (by decide)) (g := (mkF m 8 #[.val (.ref x), .val (.int (1 : Int32)), .val (.int (2 : Int32)), .val (.int (3 : Int32)), .unset] [(.int (3 : Int32)), (.int (2 : Int32)), (.int (1 : Int32))])) rfl (by rw [hml]; rfl) (argsL := [(.int (1 : Int32)), (.int (2 : Int32)), (.int (3 : Int32))]) (rest := []) (lenOf pd_cb rfl) rfl (by show 2 * 0 + _ ≤ _; exact Nat.le_of_eq rfl) (hb hby d21_8) (fun _ _ => ⟨rfl, q1, (by decide : 0 + 0 ≤ _), (by decide : 0 + 0 ≤ _)⟩)
  dsimp only [Pt.U, Pt.locs, Pt.cells, Pt.slots] at X2 l2 y2 z2 st2 hQ2
  subst l2 y2 z2
  obtain ⟨rfl, N2q, q2⟩ := hQ2
  have N2 := Fr.app N1 N2q
  obtain ⟨cq3, kq3, qa3, qb3, qc3⟩ := isOf hZ q2 Ex
  obtain ⟨_, _, ⟨T3, L3, k3, n3⟩, -, X3, ⟨Lc3, hQ3, l3, y3, z3⟩, st3⟩ := X2.virtualBack hx (y := (⟨"java/lang/String", "isLatin1", "()Z"⟩ : MethodName)) (z := (⟨"java/lang/String", "isLatin1", "()Z"⟩ : MethodName)) hown (mvT hZ (wd58 hw)) (mvT hZ (wd59 hw)) (notFace_of_selects (args := #[]) (mvT hZ (wd61 hw))) (mvT hZ (wd61 hw)) (mvT hZ (wd60 hw)) (by decide) (backOf (W := 0) (rml1 l Z a0 hw [] x h0 n0 Z0 EN0 Cc) hZ (wd62 hw) (wd10 hw) (by decide) (by decide)) qa3 qc3 (g := (mkF m 28 #[.val (.ref x), .val (.int (1 : Int32)), .val (.int (2 : Int32)), .val (.int (3 : Int32)), .val (.int (1 : Int32))] [(.ref x)])) rfl (by rw [hml]; rfl) (Steps.refl _) (argsL := []) (rest := []) (lenOf pd_l1 rfl) rfl (by show 2 * 0 + _ ≤ _; exact Nat.le_of_eq rfl) (hb hby d21_28) (fun _ _ => ⟨rfl, q2, (by decide : 0 + 0 ≤ _), (by decide : 0 + 0 ≤ _)⟩)
  dsimp only [Pt.U, Pt.locs, Pt.cells, Pt.slots] at X3 l3 y3 z3 st3 hQ3
  subst l3 y3 z3
  obtain ⟨rfl, N3q, q3⟩ := hQ3
  have N3 := Fr.app N2 N3q
  obtain ⟨T4, X4, e4, st4⟩ := getF X3 hx hZ hown (host := "") (Or.inl (wd28 hw)) Via.refl q3 Vv (g := (mkF m 35 #[.val (.ref x), .val (.int (1 : Int32)), .val (.int (2 : Int32)), .val (.int (3 : Int32)), .val (.int (1 : Int32))] [(.ref x)])) rfl rfl (hb hby d21_35)
  obtain ⟨_, _, ⟨T5, L5, k5, n5⟩, -, X5, ⟨Lc5, hQ5, l5, y5, z5⟩, st5⟩ := Jvm.LawKit.callS X4 hx (y := (⟨"java/lang/StringLatin1", "newString", "([BII)Ljava/lang/String;"⟩ : MethodName)) hown (mvT hZ (wd103 hw)) (mvT hZ (wd104 hw)) (mvT hZ (wd65 hw)) (mvT hZ (wd105 hw)) (by decide) (backOf (W := 0) (rmns l Z a0 hw [] tv kb (3 : Int32) ([c0, c1, c2].map fun c => Value.int (StrChars.lo8 c)) ([c1].map fun c => Value.int (StrChars.lo8 c)) 1 1 (1 : Int32) (1 : Int32) h0 n0 Z0 Kk (by decide) (by decide) (by decide) (by decide) (by decide) (by decide) (by decide) (by decide) (by decide) (by decide) rfl) hZ (wd105 hw) (wd65 hw) (by decide) (by decide)) (g := (mkF m 41 #[.val (.ref x), .val (.int (1 : Int32)), .val (.int (2 : Int32)), .val (.int (3 : Int32)), .val (.int (1 : Int32))] [(.int (1 : Int32)), (.int (1 : Int32)), (.ref tv)])) rfl (by rw [hml]; rfl) (argsL := [(.ref tv), (.int (1 : Int32)), (.int (1 : Int32))]) (rest := []) (lenOf pd_ns rfl) rfl (by show 2 * 0 + _ ≤ _; exact Nat.le_of_eq rfl) (hb hby d21_41) (fun _ _ => ⟨rfl, e4, (by decide : 0 + 2 ≤ _), (by decide : 0 + 9 ≤ _)⟩)
  dsimp only [Pt.U, Pt.locs, Pt.cells, Pt.slots] at X5 l5 y5 z5 st5 hQ5
  subst l5 y5 z5
  obtain ⟨y5, t5, kb5, rfl, N5q, E5, Ex5, Fv5, Fc5, V5⟩ := hQ5
  have N5 := Fr.app N3 N5q
  rw [show (((1 : Int32) + (1 : Int32)) - (1 : Int32)) = Int32.ofNat 1 from by decide] at V5
  have pre6 : ∀ t, Steps p.tables e below (T5.setTop (mkF m 57 #[.val (.ref x), .val (.int (1 : Int32)), .val (.int (2 : Int32)), .val (.int (3 : Int32)), .val (.int (1 : Int32))] [(.ref y5)])) t → Steps p.tables e below (s₁.setTop (entryFrame m #[(.ref x), (.int (1 : Int32)), (.int (2 : Int32))] 5)) t := fun t k => pre0 t (by
    show Steps p.tables e below (s₁.setTop (mkF m 0 #[.val (.ref x), .val (.int (1 : Int32)), .val (.int (2 : Int32)), .unset, .unset] [])) _
    refine XS.aloadN X0.here hx rfl (hb hby d21_0) rfl rfl ?_
    refine st1.trans ?_
    refine XS.istoreN X1.here hx rfl (hb hby d21_4) rfl (l' := #[.val (.ref x), .val (.int (1 : Int32)), .val (.int (2 : Int32)), .val (.int (3 : Int32)), .unset]) rfl ?_
    refine XS.iloadN X1.here hx rfl (hb hby d21_5) rfl ?_
    refine XS.iloadN X1.here hx rfl (hb hby d21_6) rfl ?_
    refine XS.iloadN X1.here hx rfl (hb hby d21_7) rfl ?_
    refine st2 _ ?_
    refine XS.iloadN X2.here hx rfl (hb hby d21_11) rfl ?_
    refine XS.ifYes X2.here hx rfl (pc0 := 12) (pc' := 22) rfl (hb hby d21_12) rfl ((if0 _ _).trans (feq (by decide : ¬ ((1 : Int32) = (0 : Int32)))).2) (by decide) (by decide) ?_
    refine XS.iloadN X2.here hx rfl (hb hby d21_22) rfl ?_
    refine XS.iloadN X2.here hx rfl (hb hby d21_23) rfl ?_
    refine XS.isub X2.here hx rfl (hb hby d21_24) rfl ?_
    show Steps p.tables e below (T2.setTop (mkF m 25 #[.val (.ref x), .val (.int (1 : Int32)), .val (.int (2 : Int32)), .val (.int (3 : Int32)), .unset] [(.int ((2 : Int32) - (1 : Int32)))])) _
    rw [show ((2 : Int32) - (1 : Int32)) = (1 : Int32) from by decide]
    refine XS.istore X2.here hx rfl (hb hby d21_25) rfl (l' := #[.val (.ref x), .val (.int (1 : Int32)), .val (.int (2 : Int32)), .val (.int (3 : Int32)), .val (.int (1 : Int32))]) rfl ?_
    refine XS.aloadN X2.here hx rfl (hb hby d21_27) rfl rfl ?_
    refine st3.trans ?_
    refine XS.ifNo X3.here hx rfl (hb hby d21_31) rfl ((if0 _ _).trans (feq (by decide : ¬ ((1 : Int32) = (0 : Int32)))).1) ?_
    refine XS.aloadN X3.here hx rfl (hb hby d21_34) rfl rfl ?_
    refine st4 _ ?_
    refine XS.iloadN X4.here hx rfl (hb hby d21_38) rfl ?_
    refine XS.iload X4.here hx rfl (hb hby d21_39) rfl ?_
    refine st5 _ ?_
    refine XS.goto X5.here hx rfl (pc0 := 44) (pc' := 57) rfl (hb hby d21_44) (by decide) (by decide) ?_
    exact k)
  obtain ⟨fs7, hr7, hrun7, hended7, hW7, hsame7⟩ := X5.leave (v := some (.ref y5)) (fun h => by rw [Bd.returns] at h; cases h)
  refine ⟨_, _, pre6 _ ?_, hrun7, hended7, _, _, rfl, ?_, ⟨_, rfl⟩, hW7, hsame7.mono (by decide) (by decide)⟩
  · show Steps p.tables e below (T5.setTop (mkF m 57 #[.val (.ref x), .val (.int (1 : Int32)), .val (.int (2 : Int32)), .val (.int (3 : Int32)), .val (.int (1 : Int32))] [(.ref y5)])) _
    exact retOut X5 hx (t := (.object "java/lang/String")) Bd.returns rfl (Or.inr (Or.inr (Or.inr (Or.inr ⟨rfl, rfl, rfl⟩)))) (hb hby d21_57) hr7
  · show Qss3 Z x c0 c1 c2 h0 n0 _ T5.heap _
    exact ⟨_, rfl, N5, E5, t5, kb5, Ex5, Fv5, Fc5, V5⟩

theorem pd_ss4 : parseMethodDescriptor "(II)Ljava/lang/String;" = some ⟨[.int, .int], some (.object "java/lang/String")⟩ := by decide +kernel

theorem ef_ss4 (m : MethodId) (x0 : Addr) (x1 : Int32) (x2 : Int32)  : entryFrame m #[(.ref x0), (.int x1), (.int x2)] 5 = mkF m 0 #[.val (.ref x0), .val (.int x1), .val (.int x2), .unset, .unset] [] := by first | (simp [entryFrame, mkF, argsToLocals, Value.category]; done) | rfl
def Qss4 (Z : State) (x : Addr) (c0 c1 c2 c3 : Int32) (h0 : Heap) (n0 : Nat) (v : Option Value) (h : Heap) (L : List Loc) : Prop := ∃ y, v = some (.ref y) ∧ Fr n0 L ∧ Ext h0 h ∧ own_str Z h y [c1, c2]
set_option maxRecDepth 65536 in
set_option maxHeartbeats 40000000 in
theorem rmss4 (l : Launch) (Z : State) (a0 : Array Value) (hw : ∀ d ∈ tables_1, d.before a0 Z = true) (ws : List Jvm.Cond) (x : Addr) (c0 c1 c2 c3 : Int32) (h0 : Heap) (n0 : Nat) (Z0 : n0 ≤ h0.size) (SX : own_str Z h0 x [c0, c1, c2, c3]) (EN : own_env Z h0) (hpr : own_pr [c0, c1, c2, c3]) :
    MetFree l (⟨"java/lang/String", "substring", "(II)Ljava/lang/String;"⟩ : MethodName) (head1 (Jvm.Cond.code (⟨"java/lang/String", "substring", "(II)Ljava/lang/String;"⟩ : MethodName) jdk_42_method_92_code 5 (some (.object "java/lang/String")) :: ws) ({ frames := 4, cells := 2, slots := 9, locals := 94 } : Room)) (fun a U => a = #[(.ref x), (.int (1 : Int32)), (.int (3 : Int32))] ∧ Z.Warmed39 U.vm ∧ U.heap = h0) (fun _ _ _ _ _ => True) (fun _ U o U' => ∃ v L, o = .returned v ∧ Qss4 Z x c0 c1 c2 c3 h0 n0 v U'.heap L ∧ FrameEnd U o U' L ({ frames := 4, cells := 2, slots := 9, locals := 94 } : Room).cells ({ frames := 4, cells := 2, slots := 9, locals := 94 } : Room).slots) := by
  refine MetFree.of_bodySF (plainFor_of_name pn_k2) hisR ?_
  intro p e s m args below meth c s₁ Bd hml0 hP hK
  obtain ⟨rfl, hZ, hh⟩ := hP
  have hx := Bd.exec
  have hby := Bd.bytes
  have hml : c.maxLocals = 5 := hml0
  have hown : s.vm.findClass "java/lang/String" = some m.cls := findClass_of_methodNamed Bd.named
  have hnm := (name_of_methodNamed Bd.named Bd.method).1
  have X0 : Stand p l e ({ frames := 4, cells := 2, slots := 9, locals := 94 } : Room) s m #[(.ref x), (.int (1 : Int32)), (.int (3 : Int32))] below meth c s₁ [] 0 0 := Stand.of_body Bd
  have e0 : s₁.heap = h0 := by rw [← hh, Bd.state]; rfl
  have N0 := Fr.nil n0
  have pre0 : ∀ t, Steps p.tables e below (s₁.setTop (mkF m 0 #[.val (.ref x), .val (.int (1 : Int32)), .val (.int (3 : Int32)), .unset, .unset] [])) t → Steps p.tables e below (s₁.setTop (entryFrame m #[(.ref x), (.int (1 : Int32)), (.int (3 : Int32))] 5)) t := fun t k => castTop (ef_ss4 m x (1 : Int32) (3 : Int32)) k
  have EN0 := EN
  obtain ⟨tv, kb, Ex, Vv, Cc, Kk⟩ := SX
  obtain ⟨z, fm, Sz, hz, Sf, hfm⟩ := EN
  have hcd := own_cod hpr
  have hbd := own_up hpr
  have hln : ∀ d ∈ StrChars.Road.wordsLen, d.before a0 Z = true := fun d hd => hw d ((by decide +kernel : ∀ d ∈ StrChars.Road.wordsLen, d ∈ tables_1) d hd)
  have hch : ∀ d ∈ StrChars.Road.wordsChN, d.before a0 Z = true := fun d hd => hw d ((by decide +kernel : ∀ d ∈ StrChars.Road.wordsChN, d ∈ tables_1) d hd)
  have hep : ∀ d ∈ StrChars.Road.wordsEmp, d.before a0 Z = true := fun d hd => hw d ((by decide +kernel : ∀ d ∈ StrChars.Road.wordsEmp, d ∈ tables_1) d hd)
  obtain ⟨cq1, kq1, qa1, qb1, qc1⟩ := isOf hZ e0 Ex
  obtain ⟨_, _, ⟨T1, L1, k1, n1⟩, -, X1, ⟨Lc1, hQ1, l1, y1, z1⟩, st1⟩ := X0.virtualBack hx (y := (⟨"java/lang/String", "length", "()I"⟩ : MethodName)) (z := (⟨"java/lang/String", "length", "()I"⟩ : MethodName)) hown (mvT hZ (wd96 hw)) (mvT hZ (wd76 hw)) (notFace_of_selects (args := #[]) (mvT hZ (wd78 hw))) (mvT hZ (wd78 hw)) (mvT hZ (wd77 hw)) (by decide) (StrChars.Road.lenW (W := 0) hZ hln (kI := 4) (wd9 hw) Ex Vv Cc Kk hcd hbd Sz hz (Nat.le_of_ble_eq_true rfl) (by decide) (by decide)) qa1 qc1 (g := (mkF m 1 #[.val (.ref x), .val (.int (1 : Int32)), .val (.int (3 : Int32)), .unset, .unset] [(.ref x)])) rfl (by rw [hml]; rfl) (Steps.refl _) (argsL := []) (rest := []) (lenOf pd_len rfl) rfl (by show 2 * 0 + _ ≤ _; exact Nat.le_of_eq rfl) (hb hby d21_1) (fun _ _ => ⟨rfl, e0, (by decide : 0 + 0 ≤ _), (by decide : 0 + 0 ≤ _)⟩)
  dsimp only [Pt.U, Pt.locs, Pt.cells, Pt.slots] at X1 l1 y1 z1 st1 hQ1
  subst l1 y1 z1
  obtain ⟨rfl, rfl, q1⟩ := hQ1
  have N1 := Fr.app N0 (Fr.nil n0)
  obtain ⟨_, _, ⟨T2, L2, k2, n2⟩, -, X2, ⟨Lc2, hQ2, l2, y2, z2⟩, st2⟩ := Jvm.LawKit.callS X1 hx (y := (⟨"java/lang/String", "checkBoundsBeginEnd", "(III)V"⟩ : MethodName)) hown (mvT hZ (wd97 hw)) (mvT hZ (wd98 hw)) (mvT hZ (wd10 hw)) (mvT hZ (wd99 hw)) (by decide) (backOf (W := 0) (rmcb l Z a0 hw [] (1 : Int32) (3 : Int32) (4 : Int32) h0 n0 Z0 EN0 (by decide) (by decide) (by decide)) hZ (wd99 hw) (wd10 hw) (by decide) (by decide)) (g := (mkF m 8 #[.val (.ref x), .val (.int (1 : Int32)), .val (.int (3 : Int32)), .val (.int (4 : Int32)), .unset] [(.int (4 : Int32)), (.int (3 : Int32)), (.int (1 : Int32))])) rfl (by rw [hml]; rfl) (argsL := [(.int (1 : Int32)), (.int (3 : Int32)), (.int (4 : Int32))]) (rest := []) (lenOf pd_cb rfl) rfl (by show 2 * 0 + _ ≤ _; exact Nat.le_of_eq rfl) (hb hby d21_8) (fun _ _ => ⟨rfl, q1, (by decide : 0 + 0 ≤ _), (by decide : 0 + 0 ≤ _)⟩)
  dsimp only [Pt.U, Pt.locs, Pt.cells, Pt.slots] at X2 l2 y2 z2 st2 hQ2
  subst l2 y2 z2
  obtain ⟨rfl, N2q, q2⟩ := hQ2
  have N2 := Fr.app N1 N2q
  obtain ⟨cq3, kq3, qa3, qb3, qc3⟩ := isOf hZ q2 Ex
  obtain ⟨_, _, ⟨T3, L3, k3, n3⟩, -, X3, ⟨Lc3, hQ3, l3, y3, z3⟩, st3⟩ := X2.virtualBack hx (y := (⟨"java/lang/String", "isLatin1", "()Z"⟩ : MethodName)) (z := (⟨"java/lang/String", "isLatin1", "()Z"⟩ : MethodName)) hown (mvT hZ (wd58 hw)) (mvT hZ (wd59 hw)) (notFace_of_selects (args := #[]) (mvT hZ (wd61 hw))) (mvT hZ (wd61 hw)) (mvT hZ (wd60 hw)) (by decide) (backOf (W := 0) (rml1 l Z a0 hw [] x h0 n0 Z0 EN0 Cc) hZ (wd62 hw) (wd10 hw) (by decide) (by decide)) qa3 qc3 (g := (mkF m 28 #[.val (.ref x), .val (.int (1 : Int32)), .val (.int (3 : Int32)), .val (.int (4 : Int32)), .val (.int (2 : Int32))] [(.ref x)])) rfl (by rw [hml]; rfl) (Steps.refl _) (argsL := []) (rest := []) (lenOf pd_l1 rfl) rfl (by show 2 * 0 + _ ≤ _; exact Nat.le_of_eq rfl) (hb hby d21_28) (fun _ _ => ⟨rfl, q2, (by decide : 0 + 0 ≤ _), (by decide : 0 + 0 ≤ _)⟩)
  dsimp only [Pt.U, Pt.locs, Pt.cells, Pt.slots] at X3 l3 y3 z3 st3 hQ3
  subst l3 y3 z3
  obtain ⟨rfl, N3q, q3⟩ := hQ3
  have N3 := Fr.app N2 N3q
  obtain ⟨T4, X4, e4, st4⟩ := getF X3 hx hZ hown (host := "") (Or.inl (wd28 hw)) Via.refl q3 Vv (g := (mkF m 35 #[.val (.ref x), .val (.int (1 : Int32)), .val (.int (3 : Int32)), .val (.int (4 : Int32)), .val (.int (2 : Int32))] [(.ref x)])) rfl rfl (hb hby d21_35)
  obtain ⟨_, _, ⟨T5, L5, k5, n5⟩, -, X5, ⟨Lc5, hQ5, l5, y5, z5⟩, st5⟩ := Jvm.LawKit.callS X4 hx (y := (⟨"java/lang/StringLatin1", "newString", "([BII)Ljava/lang/String;"⟩ : MethodName)) hown (mvT hZ (wd103 hw)) (mvT hZ (wd104 hw)) (mvT hZ (wd65 hw)) (mvT hZ (wd105 hw)) (by decide) (backOf (W := 0) (rmns l Z a0 hw [] tv kb (4 : Int32) ([c0, c1, c2, c3].map fun c => Value.int (StrChars.lo8 c)) ([c1, c2].map fun c => Value.int (StrChars.lo8 c)) 2 1 (1 : Int32) (2 : Int32) h0 n0 Z0 Kk (by decide) (by decide) (by decide) (by decide) (by decide) (by decide) (by decide) (by decide) (by decide) (by decide) rfl) hZ (wd105 hw) (wd65 hw) (by decide) (by decide)) (g := (mkF m 41 #[.val (.ref x), .val (.int (1 : Int32)), .val (.int (3 : Int32)), .val (.int (4 : Int32)), .val (.int (2 : Int32))] [(.int (2 : Int32)), (.int (1 : Int32)), (.ref tv)])) rfl (by rw [hml]; rfl) (argsL := [(.ref tv), (.int (1 : Int32)), (.int (2 : Int32))]) (rest := []) (lenOf pd_ns rfl) rfl (by show 2 * 0 + _ ≤ _; exact Nat.le_of_eq rfl) (hb hby d21_41) (fun _ _ => ⟨rfl, e4, (by decide : 0 + 2 ≤ _), (by decide : 0 + 9 ≤ _)⟩)
  dsimp only [Pt.U, Pt.locs, Pt.cells, Pt.slots] at X5 l5 y5 z5 st5 hQ5
  subst l5 y5 z5
  obtain ⟨y5, t5, kb5, rfl, N5q, E5, Ex5, Fv5, Fc5, V5⟩ := hQ5
  have N5 := Fr.app N3 N5q
  rw [show (((1 : Int32) + (2 : Int32)) - (1 : Int32)) = Int32.ofNat 2 from by decide] at V5
  have pre6 : ∀ t, Steps p.tables e below (T5.setTop (mkF m 57 #[.val (.ref x), .val (.int (1 : Int32)), .val (.int (3 : Int32)), .val (.int (4 : Int32)), .val (.int (2 : Int32))] [(.ref y5)])) t → Steps p.tables e below (s₁.setTop (entryFrame m #[(.ref x), (.int (1 : Int32)), (.int (3 : Int32))] 5)) t := fun t k => pre0 t (by
    show Steps p.tables e below (s₁.setTop (mkF m 0 #[.val (.ref x), .val (.int (1 : Int32)), .val (.int (3 : Int32)), .unset, .unset] [])) _
    refine XS.aloadN X0.here hx rfl (hb hby d21_0) rfl rfl ?_
    refine st1.trans ?_
    refine XS.istoreN X1.here hx rfl (hb hby d21_4) rfl (l' := #[.val (.ref x), .val (.int (1 : Int32)), .val (.int (3 : Int32)), .val (.int (4 : Int32)), .unset]) rfl ?_
    refine XS.iloadN X1.here hx rfl (hb hby d21_5) rfl ?_
    refine XS.iloadN X1.here hx rfl (hb hby d21_6) rfl ?_
    refine XS.iloadN X1.here hx rfl (hb hby d21_7) rfl ?_
    refine st2 _ ?_
    refine XS.iloadN X2.here hx rfl (hb hby d21_11) rfl ?_
    refine XS.ifYes X2.here hx rfl (pc0 := 12) (pc' := 22) rfl (hb hby d21_12) rfl ((if0 _ _).trans (feq (by decide : ¬ ((1 : Int32) = (0 : Int32)))).2) (by decide) (by decide) ?_
    refine XS.iloadN X2.here hx rfl (hb hby d21_22) rfl ?_
    refine XS.iloadN X2.here hx rfl (hb hby d21_23) rfl ?_
    refine XS.isub X2.here hx rfl (hb hby d21_24) rfl ?_
    show Steps p.tables e below (T2.setTop (mkF m 25 #[.val (.ref x), .val (.int (1 : Int32)), .val (.int (3 : Int32)), .val (.int (4 : Int32)), .unset] [(.int ((3 : Int32) - (1 : Int32)))])) _
    rw [show ((3 : Int32) - (1 : Int32)) = (2 : Int32) from by decide]
    refine XS.istore X2.here hx rfl (hb hby d21_25) rfl (l' := #[.val (.ref x), .val (.int (1 : Int32)), .val (.int (3 : Int32)), .val (.int (4 : Int32)), .val (.int (2 : Int32))]) rfl ?_
    refine XS.aloadN X2.here hx rfl (hb hby d21_27) rfl rfl ?_
    refine st3.trans ?_
    refine XS.ifNo X3.here hx rfl (hb hby d21_31) rfl ((if0 _ _).trans (feq (by decide : ¬ ((1 : Int32) = (0 : Int32)))).1) ?_
    refine XS.aloadN X3.here hx rfl (hb hby d21_34) rfl rfl ?_
    refine st4 _ ?_
    refine XS.iloadN X4.here hx rfl (hb hby d21_38) rfl ?_
    refine XS.iload X4.here hx rfl (hb hby d21_39) rfl ?_
    refine st5 _ ?_
    refine XS.goto X5.here hx rfl (pc0 := 44) (pc' := 57) rfl (hb hby d21_44) (by decide) (by decide) ?_
    exact k)
  obtain ⟨fs7, hr7, hrun7, hended7, hW7, hsame7⟩ := X5.leave (v := some (.ref y5)) (fun h => by rw [Bd.returns] at h; cases h)
  refine ⟨_, _, pre6 _ ?_, hrun7, hended7, _, _, rfl, ?_, ⟨_, rfl⟩, hW7, hsame7.mono (by decide) (by decide)⟩
  · show Steps p.tables e below (T5.setTop (mkF m 57 #[.val (.ref x), .val (.int (1 : Int32)), .val (.int (3 : Int32)), .val (.int (4 : Int32)), .val (.int (2 : Int32))] [(.ref y5)])) _
    exact retOut X5 hx (t := (.object "java/lang/String")) Bd.returns rfl (Or.inr (Or.inr (Or.inr (Or.inr ⟨rfl, rfl, rfl⟩)))) (hb hby d21_57) hr7
  · show Qss4 Z x c0 c1 c2 c3 h0 n0 _ T5.heap _
    exact ⟨_, rfl, N5, E5, t5, kb5, Ex5, Fv5, Fc5, V5⟩

theorem pd_ss5 : parseMethodDescriptor "(II)Ljava/lang/String;" = some ⟨[.int, .int], some (.object "java/lang/String")⟩ := by decide +kernel

theorem ef_ss5 (m : MethodId) (x0 : Addr) (x1 : Int32) (x2 : Int32)  : entryFrame m #[(.ref x0), (.int x1), (.int x2)] 5 = mkF m 0 #[.val (.ref x0), .val (.int x1), .val (.int x2), .unset, .unset] [] := by first | (simp [entryFrame, mkF, argsToLocals, Value.category]; done) | rfl
def Qss5 (Z : State) (x : Addr) (c0 c1 c2 c3 c4 : Int32) (h0 : Heap) (n0 : Nat) (v : Option Value) (h : Heap) (L : List Loc) : Prop := ∃ y, v = some (.ref y) ∧ Fr n0 L ∧ Ext h0 h ∧ own_str Z h y [c1, c2, c3]
set_option maxRecDepth 65536 in
set_option maxHeartbeats 40000000 in
theorem rmss5 (l : Launch) (Z : State) (a0 : Array Value) (hw : ∀ d ∈ tables_1, d.before a0 Z = true) (ws : List Jvm.Cond) (x : Addr) (c0 c1 c2 c3 c4 : Int32) (h0 : Heap) (n0 : Nat) (Z0 : n0 ≤ h0.size) (SX : own_str Z h0 x [c0, c1, c2, c3, c4]) (EN : own_env Z h0) (hpr : own_pr [c0, c1, c2, c3, c4]) :
    MetFree l (⟨"java/lang/String", "substring", "(II)Ljava/lang/String;"⟩ : MethodName) (head1 (Jvm.Cond.code (⟨"java/lang/String", "substring", "(II)Ljava/lang/String;"⟩ : MethodName) jdk_42_method_92_code 5 (some (.object "java/lang/String")) :: ws) ({ frames := 4, cells := 2, slots := 9, locals := 94 } : Room)) (fun a U => a = #[(.ref x), (.int (1 : Int32)), (.int (4 : Int32))] ∧ Z.Warmed39 U.vm ∧ U.heap = h0) (fun _ _ _ _ _ => True) (fun _ U o U' => ∃ v L, o = .returned v ∧ Qss5 Z x c0 c1 c2 c3 c4 h0 n0 v U'.heap L ∧ FrameEnd U o U' L ({ frames := 4, cells := 2, slots := 9, locals := 94 } : Room).cells ({ frames := 4, cells := 2, slots := 9, locals := 94 } : Room).slots) := by
  refine MetFree.of_bodySF (plainFor_of_name pn_k2) hisR ?_
  intro p e s m args below meth c s₁ Bd hml0 hP hK
  obtain ⟨rfl, hZ, hh⟩ := hP
  have hx := Bd.exec
  have hby := Bd.bytes
  have hml : c.maxLocals = 5 := hml0
  have hown : s.vm.findClass "java/lang/String" = some m.cls := findClass_of_methodNamed Bd.named
  have hnm := (name_of_methodNamed Bd.named Bd.method).1
  have X0 : Stand p l e ({ frames := 4, cells := 2, slots := 9, locals := 94 } : Room) s m #[(.ref x), (.int (1 : Int32)), (.int (4 : Int32))] below meth c s₁ [] 0 0 := Stand.of_body Bd
  have e0 : s₁.heap = h0 := by rw [← hh, Bd.state]; rfl
  have N0 := Fr.nil n0
  have pre0 : ∀ t, Steps p.tables e below (s₁.setTop (mkF m 0 #[.val (.ref x), .val (.int (1 : Int32)), .val (.int (4 : Int32)), .unset, .unset] [])) t → Steps p.tables e below (s₁.setTop (entryFrame m #[(.ref x), (.int (1 : Int32)), (.int (4 : Int32))] 5)) t := fun t k => castTop (ef_ss5 m x (1 : Int32) (4 : Int32)) k
  have EN0 := EN
  obtain ⟨tv, kb, Ex, Vv, Cc, Kk⟩ := SX
  obtain ⟨z, fm, Sz, hz, Sf, hfm⟩ := EN
  have hcd := own_cod hpr
  have hbd := own_up hpr
  have hln : ∀ d ∈ StrChars.Road.wordsLen, d.before a0 Z = true := fun d hd => hw d ((by decide +kernel : ∀ d ∈ StrChars.Road.wordsLen, d ∈ tables_1) d hd)
  have hch : ∀ d ∈ StrChars.Road.wordsChN, d.before a0 Z = true := fun d hd => hw d ((by decide +kernel : ∀ d ∈ StrChars.Road.wordsChN, d ∈ tables_1) d hd)
  have hep : ∀ d ∈ StrChars.Road.wordsEmp, d.before a0 Z = true := fun d hd => hw d ((by decide +kernel : ∀ d ∈ StrChars.Road.wordsEmp, d ∈ tables_1) d hd)
  obtain ⟨cq1, kq1, qa1, qb1, qc1⟩ := isOf hZ e0 Ex
  obtain ⟨_, _, ⟨T1, L1, k1, n1⟩, -, X1, ⟨Lc1, hQ1, l1, y1, z1⟩, st1⟩ := X0.virtualBack hx (y := (⟨"java/lang/String", "length", "()I"⟩ : MethodName)) (z := (⟨"java/lang/String", "length", "()I"⟩ : MethodName)) hown (mvT hZ (wd96 hw)) (mvT hZ (wd76 hw)) (notFace_of_selects (args := #[]) (mvT hZ (wd78 hw))) (mvT hZ (wd78 hw)) (mvT hZ (wd77 hw)) (by decide) (StrChars.Road.lenW (W := 0) hZ hln (kI := 4) (wd9 hw) Ex Vv Cc Kk hcd hbd Sz hz (Nat.le_of_ble_eq_true rfl) (by decide) (by decide)) qa1 qc1 (g := (mkF m 1 #[.val (.ref x), .val (.int (1 : Int32)), .val (.int (4 : Int32)), .unset, .unset] [(.ref x)])) rfl (by rw [hml]; rfl) (Steps.refl _) (argsL := []) (rest := []) (lenOf pd_len rfl) rfl (by show 2 * 0 + _ ≤ _; exact Nat.le_of_eq rfl) (hb hby d21_1) (fun _ _ => ⟨rfl, e0, (by decide : 0 + 0 ≤ _), (by decide : 0 + 0 ≤ _)⟩)
  dsimp only [Pt.U, Pt.locs, Pt.cells, Pt.slots] at X1 l1 y1 z1 st1 hQ1
  subst l1 y1 z1
  obtain ⟨rfl, rfl, q1⟩ := hQ1
  have N1 := Fr.app N0 (Fr.nil n0)
  obtain ⟨_, _, ⟨T2, L2, k2, n2⟩, -, X2, ⟨Lc2, hQ2, l2, y2, z2⟩, st2⟩ := Jvm.LawKit.callS X1 hx (y := (⟨"java/lang/String", "checkBoundsBeginEnd", "(III)V"⟩ : MethodName)) hown (mvT hZ (wd97 hw)) (mvT hZ (wd98 hw)) (mvT hZ (wd10 hw)) (mvT hZ (wd99 hw)) (by decide) (backOf (W := 0) (rmcb l Z a0 hw [] (1 : Int32) (4 : Int32) (5 : Int32) h0 n0 Z0 EN0 (by decide) (by decide) (by decide)) hZ (wd99 hw) (wd10 hw) (by decide) (by decide)) (g := (mkF m 8 #[.val (.ref x), .val (.int (1 : Int32)), .val (.int (4 : Int32)), .val (.int (5 : Int32)), .unset] [(.int (5 : Int32)), (.int (4 : Int32)), (.int (1 : Int32))])) rfl (by rw [hml]; rfl) (argsL := [(.int (1 : Int32)), (.int (4 : Int32)), (.int (5 : Int32))]) (rest := []) (lenOf pd_cb rfl) rfl (by show 2 * 0 + _ ≤ _; exact Nat.le_of_eq rfl) (hb hby d21_8) (fun _ _ => ⟨rfl, q1, (by decide : 0 + 0 ≤ _), (by decide : 0 + 0 ≤ _)⟩)
  dsimp only [Pt.U, Pt.locs, Pt.cells, Pt.slots] at X2 l2 y2 z2 st2 hQ2
  subst l2 y2 z2
  obtain ⟨rfl, N2q, q2⟩ := hQ2
  have N2 := Fr.app N1 N2q
  obtain ⟨cq3, kq3, qa3, qb3, qc3⟩ := isOf hZ q2 Ex
  obtain ⟨_, _, ⟨T3, L3, k3, n3⟩, -, X3, ⟨Lc3, hQ3, l3, y3, z3⟩, st3⟩ := X2.virtualBack hx (y := (⟨"java/lang/String", "isLatin1", "()Z"⟩ : MethodName)) (z := (⟨"java/lang/String", "isLatin1", "()Z"⟩ : MethodName)) hown (mvT hZ (wd58 hw)) (mvT hZ (wd59 hw)) (notFace_of_selects (args := #[]) (mvT hZ (wd61 hw))) (mvT hZ (wd61 hw)) (mvT hZ (wd60 hw)) (by decide) (backOf (W := 0) (rml1 l Z a0 hw [] x h0 n0 Z0 EN0 Cc) hZ (wd62 hw) (wd10 hw) (by decide) (by decide)) qa3 qc3 (g := (mkF m 28 #[.val (.ref x), .val (.int (1 : Int32)), .val (.int (4 : Int32)), .val (.int (5 : Int32)), .val (.int (3 : Int32))] [(.ref x)])) rfl (by rw [hml]; rfl) (Steps.refl _) (argsL := []) (rest := []) (lenOf pd_l1 rfl) rfl (by show 2 * 0 + _ ≤ _; exact Nat.le_of_eq rfl) (hb hby d21_28) (fun _ _ => ⟨rfl, q2, (by decide : 0 + 0 ≤ _), (by decide : 0 + 0 ≤ _)⟩)
  dsimp only [Pt.U, Pt.locs, Pt.cells, Pt.slots] at X3 l3 y3 z3 st3 hQ3
  subst l3 y3 z3
  obtain ⟨rfl, N3q, q3⟩ := hQ3
  have N3 := Fr.app N2 N3q
  obtain ⟨T4, X4, e4, st4⟩ := getF X3 hx hZ hown (host := "") (Or.inl (wd28 hw)) Via.refl q3 Vv (g := (mkF m 35 #[.val (.ref x), .val (.int (1 : Int32)), .val (.int (4 : Int32)), .val (.int (5 : Int32)), .val (.int (3 : Int32))] [(.ref x)])) rfl rfl (hb hby d21_35)
  obtain ⟨_, _, ⟨T5, L5, k5, n5⟩, -, X5, ⟨Lc5, hQ5, l5, y5, z5⟩, st5⟩ := Jvm.LawKit.callS X4 hx (y := (⟨"java/lang/StringLatin1", "newString", "([BII)Ljava/lang/String;"⟩ : MethodName)) hown (mvT hZ (wd103 hw)) (mvT hZ (wd104 hw)) (mvT hZ (wd65 hw)) (mvT hZ (wd105 hw)) (by decide) (backOf (W := 0) (rmns l Z a0 hw [] tv kb (5 : Int32) ([c0, c1, c2, c3, c4].map fun c => Value.int (StrChars.lo8 c)) ([c1, c2, c3].map fun c => Value.int (StrChars.lo8 c)) 3 1 (1 : Int32) (3 : Int32) h0 n0 Z0 Kk (by decide) (by decide) (by decide) (by decide) (by decide) (by decide) (by decide) (by decide) (by decide) (by decide) rfl) hZ (wd105 hw) (wd65 hw) (by decide) (by decide)) (g := (mkF m 41 #[.val (.ref x), .val (.int (1 : Int32)), .val (.int (4 : Int32)), .val (.int (5 : Int32)), .val (.int (3 : Int32))] [(.int (3 : Int32)), (.int (1 : Int32)), (.ref tv)])) rfl (by rw [hml]; rfl) (argsL := [(.ref tv), (.int (1 : Int32)), (.int (3 : Int32))]) (rest := []) (lenOf pd_ns rfl) rfl (by show 2 * 0 + _ ≤ _; exact Nat.le_of_eq rfl) (hb hby d21_41) (fun _ _ => ⟨rfl, e4, (by decide : 0 + 2 ≤ _), (by decide : 0 + 9 ≤ _)⟩)
  dsimp only [Pt.U, Pt.locs, Pt.cells, Pt.slots] at X5 l5 y5 z5 st5 hQ5
  subst l5 y5 z5
  obtain ⟨y5, t5, kb5, rfl, N5q, E5, Ex5, Fv5, Fc5, V5⟩ := hQ5
  have N5 := Fr.app N3 N5q
  rw [show (((1 : Int32) + (3 : Int32)) - (1 : Int32)) = Int32.ofNat 3 from by decide] at V5
  have pre6 : ∀ t, Steps p.tables e below (T5.setTop (mkF m 57 #[.val (.ref x), .val (.int (1 : Int32)), .val (.int (4 : Int32)), .val (.int (5 : Int32)), .val (.int (3 : Int32))] [(.ref y5)])) t → Steps p.tables e below (s₁.setTop (entryFrame m #[(.ref x), (.int (1 : Int32)), (.int (4 : Int32))] 5)) t := fun t k => pre0 t (by
    show Steps p.tables e below (s₁.setTop (mkF m 0 #[.val (.ref x), .val (.int (1 : Int32)), .val (.int (4 : Int32)), .unset, .unset] [])) _
    refine XS.aloadN X0.here hx rfl (hb hby d21_0) rfl rfl ?_
    refine st1.trans ?_
    refine XS.istoreN X1.here hx rfl (hb hby d21_4) rfl (l' := #[.val (.ref x), .val (.int (1 : Int32)), .val (.int (4 : Int32)), .val (.int (5 : Int32)), .unset]) rfl ?_
    refine XS.iloadN X1.here hx rfl (hb hby d21_5) rfl ?_
    refine XS.iloadN X1.here hx rfl (hb hby d21_6) rfl ?_
    refine XS.iloadN X1.here hx rfl (hb hby d21_7) rfl ?_
    refine st2 _ ?_
    refine XS.iloadN X2.here hx rfl (hb hby d21_11) rfl ?_
    refine XS.ifYes X2.here hx rfl (pc0 := 12) (pc' := 22) rfl (hb hby d21_12) rfl ((if0 _ _).trans (feq (by decide : ¬ ((1 : Int32) = (0 : Int32)))).2) (by decide) (by decide) ?_
    refine XS.iloadN X2.here hx rfl (hb hby d21_22) rfl ?_
    refine XS.iloadN X2.here hx rfl (hb hby d21_23) rfl ?_
    refine XS.isub X2.here hx rfl (hb hby d21_24) rfl ?_
    show Steps p.tables e below (T2.setTop (mkF m 25 #[.val (.ref x), .val (.int (1 : Int32)), .val (.int (4 : Int32)), .val (.int (5 : Int32)), .unset] [(.int ((4 : Int32) - (1 : Int32)))])) _
    rw [show ((4 : Int32) - (1 : Int32)) = (3 : Int32) from by decide]
    refine XS.istore X2.here hx rfl (hb hby d21_25) rfl (l' := #[.val (.ref x), .val (.int (1 : Int32)), .val (.int (4 : Int32)), .val (.int (5 : Int32)), .val (.int (3 : Int32))]) rfl ?_
    refine XS.aloadN X2.here hx rfl (hb hby d21_27) rfl rfl ?_
    refine st3.trans ?_
    refine XS.ifNo X3.here hx rfl (hb hby d21_31) rfl ((if0 _ _).trans (feq (by decide : ¬ ((1 : Int32) = (0 : Int32)))).1) ?_
    refine XS.aloadN X3.here hx rfl (hb hby d21_34) rfl rfl ?_
    refine st4 _ ?_
    refine XS.iloadN X4.here hx rfl (hb hby d21_38) rfl ?_
    refine XS.iload X4.here hx rfl (hb hby d21_39) rfl ?_
    refine st5 _ ?_
    refine XS.goto X5.here hx rfl (pc0 := 44) (pc' := 57) rfl (hb hby d21_44) (by decide) (by decide) ?_
    exact k)
  obtain ⟨fs7, hr7, hrun7, hended7, hW7, hsame7⟩ := X5.leave (v := some (.ref y5)) (fun h => by rw [Bd.returns] at h; cases h)
  refine ⟨_, _, pre6 _ ?_, hrun7, hended7, _, _, rfl, ?_, ⟨_, rfl⟩, hW7, hsame7.mono (by decide) (by decide)⟩
  · show Steps p.tables e below (T5.setTop (mkF m 57 #[.val (.ref x), .val (.int (1 : Int32)), .val (.int (4 : Int32)), .val (.int (5 : Int32)), .val (.int (3 : Int32))] [(.ref y5)])) _
    exact retOut X5 hx (t := (.object "java/lang/String")) Bd.returns rfl (Or.inr (Or.inr (Or.inr (Or.inr ⟨rfl, rfl, rfl⟩)))) (hb hby d21_57) hr7
  · show Qss5 Z x c0 c1 c2 c3 c4 h0 n0 _ T5.heap _
    exact ⟨_, rfl, N5, E5, t5, kb5, Ex5, Fv5, Fc5, V5⟩

theorem pd_pe1 : parseMethodDescriptor "(Ljava/lang/String;I)I" = some ⟨[(.object "java/lang/String"), .int], some .int⟩ := by decide +kernel

theorem ef_pe1 (m : MethodId) (x0 : Addr) (x1 : Int32)  : entryFrame m #[(.ref x0), (.int x1)] 4 = mkF m 0 #[.val (.ref x0), .val (.int x1), .unset, .unset] [] := by first | (simp [entryFrame, mkF, argsToLocals, Value.category]; done) | rfl
def Qpe1 (Z : State) (x : Addr) (c0 : Int32) (h0 : Heap) (n0 : Nat) (v : Option Value) (h : Heap) (L : List Loc) : Prop := ∃ r, v = some (.int r) ∧ Fr n0 L ∧ h = h0 ∧ (r = (0 : Int32) ↔ own_sole1 c0)
set_option maxRecDepth 65536 in
set_option maxHeartbeats 40000000 in
theorem rmpe1 (l : Launch) (Z : State) (a0 : Array Value) (hw : ∀ d ∈ tables_1, d.before a0 Z = true) (ws : List Jvm.Cond) (x : Addr) (c0 : Int32) (h0 : Heap) (n0 : Nat) (Z0 : n0 ≤ h0.size) (SX : own_str Z h0 x [c0]) (EN : own_env Z h0) (hpr : own_pr [c0]) :
    MetFree l (⟨"com/example/oxpecker/oxpecker/MessageTemplate", "parameterEnd", "(Ljava/lang/String;I)I"⟩ : MethodName) (head1 (Jvm.Cond.code (⟨"com/example/oxpecker/oxpecker/MessageTemplate", "parameterEnd", "(Ljava/lang/String;I)I"⟩ : MethodName) prog_5_method_9_code 4 (some .int) :: ws) ({ frames := 4, cells := 0, slots := 0, locals := 53 } : Room)) (fun a U => a = #[(.ref x), (.int (0 : Int32))] ∧ Z.Warmed39 U.vm ∧ U.heap = h0) (fun _ _ _ _ _ => True) (fun _ U o U' => ∃ v L, o = .returned v ∧ Qpe1 Z x c0 h0 n0 v U'.heap L ∧ FrameEnd U o U' L ({ frames := 4, cells := 0, slots := 0, locals := 53 } : Room).cells ({ frames := 4, cells := 0, slots := 0, locals := 53 } : Room).slots) := by
  refine MetFree.of_bodySF (plainFor_of_name pn_k1) hisR ?_
  intro p e s m args below meth c s₁ Bd hml0 hP hK
  obtain ⟨rfl, hZ, hh⟩ := hP
  have hx := Bd.exec
  have hby := Bd.bytes
  have hml : c.maxLocals = 4 := hml0
  have hown : s.vm.findClass "com/example/oxpecker/oxpecker/MessageTemplate" = some m.cls := findClass_of_methodNamed Bd.named
  have hnm := (name_of_methodNamed Bd.named Bd.method).1
  have X0 : Stand p l e ({ frames := 4, cells := 0, slots := 0, locals := 53 } : Room) s m #[(.ref x), (.int (0 : Int32))] below meth c s₁ [] 0 0 := Stand.of_body Bd
  have e0 : s₁.heap = h0 := by rw [← hh, Bd.state]; rfl
  have N0 := Fr.nil n0
  have pre0 : ∀ t, Steps p.tables e below (s₁.setTop (mkF m 0 #[.val (.ref x), .val (.int (0 : Int32)), .unset, .unset] [])) t → Steps p.tables e below (s₁.setTop (entryFrame m #[(.ref x), (.int (0 : Int32))] 4)) t := fun t k => castTop (ef_pe1 m x (0 : Int32)) k
  obtain ⟨tv, kb, Ex, Vv, Cc, Kk⟩ := SX
  obtain ⟨z, fm, Sz, hz, Sf, hfm⟩ := EN
  have hcd := own_cod hpr
  have hbd := own_up hpr
  have hln : ∀ d ∈ StrChars.Road.wordsLen, d.before a0 Z = true := fun d hd => hw d ((by decide +kernel : ∀ d ∈ StrChars.Road.wordsLen, d ∈ tables_1) d hd)
  have hch : ∀ d ∈ StrChars.Road.wordsChN, d.before a0 Z = true := fun d hd => hw d ((by decide +kernel : ∀ d ∈ StrChars.Road.wordsChN, d ∈ tables_1) d hd)
  have hep : ∀ d ∈ StrChars.Road.wordsEmp, d.before a0 Z = true := fun d hd => hw d ((by decide +kernel : ∀ d ∈ StrChars.Road.wordsEmp, d ∈ tables_1) d hd)
  obtain ⟨cq1, kq1, qa1, qb1, qc1⟩ := isOf hZ e0 Ex
  obtain ⟨_, _, ⟨T1, L1, k1, n1⟩, -, X1, ⟨Lc1, hQ1, l1, y1, z1⟩, st1⟩ := X0.virtualBack hx (y := (⟨"java/lang/String", "charAt", "(I)C"⟩ : MethodName)) (z := (⟨"java/lang/String", "charAt", "(I)C"⟩ : MethodName)) hown (mvT hZ (wd53 hw)) (mvT hZ (wd54 hw)) (notFace_of_selects (args := #[]) (mvT hZ (wd56 hw))) (mvT hZ (wd56 hw)) (mvT hZ (wd55 hw)) (by decide) (StrChars.Road.chN (W := 0) hZ hch (kI := 4) (wd9 hw) Ex Vv Cc Kk hcd hbd Sz hz Sf hfm (Nat.le_of_ble_eq_true rfl) (i := 0) (Nat.le_of_ble_eq_true rfl) (j := (0 : Int32)) (by decide) (by decide) (by decide)) qa1 qc1 (g := (mkF m 4 #[.val (.ref x), .val (.int (0 : Int32)), .val (.int (-1 : Int32)), .unset] [(.int (0 : Int32)), (.ref x)])) rfl (by rw [hml]; rfl) (Steps.refl _) (argsL := [(.int (0 : Int32))]) (rest := []) (lenOf pd_cha rfl) rfl (by show 2 * 0 + _ ≤ _; exact Nat.le_of_eq rfl) (hb hby d11_4) (fun _ _ => ⟨rfl, e0, (by decide : 0 + 0 ≤ _), (by decide : 0 + 0 ≤ _)⟩)
  dsimp only [Pt.U, Pt.locs, Pt.cells, Pt.slots] at X1 l1 y1 z1 st1 hQ1
  subst l1 y1 z1
  obtain ⟨rfl, rfl, q1⟩ := hQ1
  have N1 := Fr.app N0 (Fr.nil n0)
  have pre2 : ∀ t, Steps p.tables e below (T1.setTop (mkF m 9 #[.val (.ref x), .val (.int (0 : Int32)), .val (.int (-1 : Int32)), .unset] [(.int (123 : Int32)), (.int c0)])) t → Steps p.tables e below (s₁.setTop (entryFrame m #[(.ref x), (.int (0 : Int32))] 4)) t := fun t k => pre0 t (by
    show Steps p.tables e below (s₁.setTop (mkF m 0 #[.val (.ref x), .val (.int (0 : Int32)), .unset, .unset] [])) _
    refine XS.iconst X0.here hx rfl (hb hby d11_0) ?_
    refine XS.istoreN X0.here hx rfl (hb hby d11_1) rfl (l' := #[.val (.ref x), .val (.int (0 : Int32)), .val (.int (-1 : Int32)), .unset]) rfl ?_
    refine XS.aloadN X0.here hx rfl (hb hby d11_2) rfl rfl ?_
    refine XS.iloadN X0.here hx rfl (hb hby d11_3) rfl ?_
    refine st1.trans ?_
    refine XS.bipush X1.here hx rfl (hb hby d11_7) ?_
    exact k)
  by_cases hc9 : c0 = (123 : Int32)
  · obtain ⟨cq3, kq3, qa3, qb3, qc3⟩ := isOf hZ q1 Ex
    obtain ⟨_, _, ⟨T3, L3, k3, n3⟩, -, X3, ⟨Lc3, hQ3, l3, y3, z3⟩, st3⟩ := X1.virtualBack hx (y := (⟨"java/lang/String", "length", "()I"⟩ : MethodName)) (z := (⟨"java/lang/String", "length", "()I"⟩ : MethodName)) hown (mvT hZ (wd75 hw)) (mvT hZ (wd76 hw)) (notFace_of_selects (args := #[]) (mvT hZ (wd78 hw))) (mvT hZ (wd78 hw)) (mvT hZ (wd77 hw)) (by decide) (StrChars.Road.lenW (W := 1) hZ hln (kI := 4) (wd9 hw) Ex Vv Cc Kk hcd hbd Sz hz (Nat.le_of_ble_eq_true rfl) (by decide) (by decide)) qa3 qc3 (g := (mkF m 18 #[.val (.ref x), .val (.int (0 : Int32)), .val (.int (-1 : Int32)), .val (.int (1 : Int32))] [(.ref x), (.int (1 : Int32))])) rfl (by rw [hml]; rfl) (Steps.refl _) (argsL := []) (rest := [(.int (1 : Int32))]) (lenOf pd_len rfl) rfl (by show 2 * 0 + _ ≤ _; exact Nat.le_of_eq rfl) (hb hby d11_18) (fun _ _ => ⟨rfl, q1, (by decide : 0 + 0 ≤ _), (by decide : 0 + 0 ≤ _)⟩)
    dsimp only [Pt.U, Pt.locs, Pt.cells, Pt.slots] at X3 l3 y3 z3 st3 hQ3
    subst l3 y3 z3
    obtain ⟨rfl, rfl, q3⟩ := hQ3
    have N3 := Fr.app N1 (Fr.nil n0)
    have pre4 : ∀ t, Steps p.tables e below (T3.setTop (mkF m 69 #[.val (.ref x), .val (.int (0 : Int32)), .val (.int (-1 : Int32)), .val (.int (1 : Int32))] [(.int (-1 : Int32))])) t → Steps p.tables e below (s₁.setTop (entryFrame m #[(.ref x), (.int (0 : Int32))] 4)) t := fun t k => pre2 t (by
      show Steps p.tables e below (T1.setTop (mkF m 9 #[.val (.ref x), .val (.int (0 : Int32)), .val (.int (-1 : Int32)), .unset] [(.int (123 : Int32)), (.int c0)])) _
      refine XS.icmpNo X1.here hx rfl (hb hby d11_9) rfl (teq hc9).2 ?_
      refine XS.iloadN X1.here hx rfl (hb hby d11_12) rfl ?_
      refine XS.iconst X1.here hx rfl (hb hby d11_13) ?_
      refine XS.iadd X1.here hx rfl (hb hby d11_14) rfl ?_
      show Steps p.tables e below (T1.setTop (mkF m 15 #[.val (.ref x), .val (.int (0 : Int32)), .val (.int (-1 : Int32)), .unset] [(.int ((0 : Int32) + (1 : Int32)))])) _
      rw [show ((0 : Int32) + (1 : Int32)) = (1 : Int32) from by decide]
      refine XS.istoreN X1.here hx rfl (hb hby d11_15) rfl (l' := #[.val (.ref x), .val (.int (0 : Int32)), .val (.int (-1 : Int32)), .val (.int (1 : Int32))]) rfl ?_
      refine XS.iloadN X1.here hx rfl (hb hby d11_16) rfl ?_
      refine XS.aloadN X1.here hx rfl (hb hby d11_17) rfl rfl ?_
      refine st3.trans ?_
      refine XS.icmpYes X3.here hx rfl (pc0 := 21) (pc' := 41) rfl (hb hby d11_21) rfl (flt (by decide : ¬ ((1 : Int32) < (1 : Int32)))).2.1 (by decide) (by decide) ?_
      refine XS.iloadN X3.here hx rfl (hb hby d11_41) rfl ?_
      refine XS.iloadN X3.here hx rfl (hb hby d11_42) rfl ?_
      refine XS.iconst X3.here hx rfl (hb hby d11_43) ?_
      refine XS.iadd X3.here hx rfl (hb hby d11_44) rfl ?_
      show Steps p.tables e below (T3.setTop (mkF m 45 #[.val (.ref x), .val (.int (0 : Int32)), .val (.int (-1 : Int32)), .val (.int (1 : Int32))] [(.int ((0 : Int32) + (1 : Int32))), (.int (1 : Int32))])) _
      rw [show ((0 : Int32) + (1 : Int32)) = (1 : Int32) from by decide]
      refine XS.icmpYes X3.here hx rfl (pc0 := 45) (pc' := 68) rfl (hb hby d11_45) rfl (flt (by decide : ¬ ((1 : Int32) < (1 : Int32)))).2.2.2 (by decide) (by decide) ?_
      refine XS.iloadN X3.here hx rfl (hb hby d11_68) rfl ?_
      exact k)
    obtain ⟨fs5, hr5, hrun5, hended5, hW5, hsame5⟩ := X3.leave (v := some (.int (-1 : Int32))) (fun h => by rw [Bd.returns] at h; cases h)
    refine ⟨_, _, pre4 _ ?_, hrun5, hended5, _, _, rfl, ?_, ⟨_, rfl⟩, hW5, hsame5.mono (by decide) (by decide)⟩
    · show Steps p.tables e below (T3.setTop (mkF m 69 #[.val (.ref x), .val (.int (0 : Int32)), .val (.int (-1 : Int32)), .val (.int (1 : Int32))] [(.int (-1 : Int32))])) _
      exact retOut X3 hx (t := .int) Bd.returns rfl (Or.inl ⟨rfl, Or.inl rfl, _, rfl⟩) (hb hby d11_69) hr5
    · show Qpe1 Z x c0 h0 n0 _ T3.heap _
      rw [q3]
      exact ⟨_, rfl, N3, rfl, fun q => absurd q (by decide), fun q => q.elim⟩
  have pre6 : ∀ t, Steps p.tables e below (T1.setTop (mkF m 69 #[.val (.ref x), .val (.int (0 : Int32)), .val (.int (-1 : Int32)), .unset] [(.int (-1 : Int32))])) t → Steps p.tables e below (s₁.setTop (entryFrame m #[(.ref x), (.int (0 : Int32))] 4)) t := fun t k => pre2 t (by
    show Steps p.tables e below (T1.setTop (mkF m 9 #[.val (.ref x), .val (.int (0 : Int32)), .val (.int (-1 : Int32)), .unset] [(.int (123 : Int32)), (.int c0)])) _
    refine XS.icmpYes X1.here hx rfl (pc0 := 9) (pc' := 68) rfl (hb hby d11_9) rfl (feq hc9).2 (by decide) (by decide) ?_
    refine XS.iloadN X1.here hx rfl (hb hby d11_68) rfl ?_
    exact k)
  obtain ⟨fs7, hr7, hrun7, hended7, hW7, hsame7⟩ := X1.leave (v := some (.int (-1 : Int32))) (fun h => by rw [Bd.returns] at h; cases h)
  refine ⟨_, _, pre6 _ ?_, hrun7, hended7, _, _, rfl, ?_, ⟨_, rfl⟩, hW7, hsame7.mono (by decide) (by decide)⟩
  · show Steps p.tables e below (T1.setTop (mkF m 69 #[.val (.ref x), .val (.int (0 : Int32)), .val (.int (-1 : Int32)), .unset] [(.int (-1 : Int32))])) _
    exact retOut X1 hx (t := .int) Bd.returns rfl (Or.inl ⟨rfl, Or.inl rfl, _, rfl⟩) (hb hby d11_69) hr7
  · show Qpe1 Z x c0 h0 n0 _ T1.heap _
    rw [q1]
    exact ⟨_, rfl, N1, rfl, fun q => absurd q (by decide), fun q => q.elim⟩

theorem pd_pe2 : parseMethodDescriptor "(Ljava/lang/String;I)I" = some ⟨[(.object "java/lang/String"), .int], some .int⟩ := by decide +kernel

theorem ef_pe2 (m : MethodId) (x0 : Addr) (x1 : Int32)  : entryFrame m #[(.ref x0), (.int x1)] 4 = mkF m 0 #[.val (.ref x0), .val (.int x1), .unset, .unset] [] := by first | (simp [entryFrame, mkF, argsToLocals, Value.category]; done) | rfl
def Qpe2 (Z : State) (x : Addr) (c0 c1 : Int32) (h0 : Heap) (n0 : Nat) (v : Option Value) (h : Heap) (L : List Loc) : Prop := ∃ r, v = some (.int r) ∧ Fr n0 L ∧ h = h0 ∧ (r = (1 : Int32) ↔ own_sole2 c0 c1)
set_option maxRecDepth 65536 in
set_option maxHeartbeats 40000000 in
theorem rmpe2 (l : Launch) (Z : State) (a0 : Array Value) (hw : ∀ d ∈ tables_1, d.before a0 Z = true) (ws : List Jvm.Cond) (x : Addr) (c0 c1 : Int32) (h0 : Heap) (n0 : Nat) (Z0 : n0 ≤ h0.size) (SX : own_str Z h0 x [c0, c1]) (EN : own_env Z h0) (hpr : own_pr [c0, c1]) :
    MetFree l (⟨"com/example/oxpecker/oxpecker/MessageTemplate", "parameterEnd", "(Ljava/lang/String;I)I"⟩ : MethodName) (head1 (Jvm.Cond.code (⟨"com/example/oxpecker/oxpecker/MessageTemplate", "parameterEnd", "(Ljava/lang/String;I)I"⟩ : MethodName) prog_5_method_9_code 4 (some .int) :: ws) ({ frames := 4, cells := 0, slots := 0, locals := 53 } : Room)) (fun a U => a = #[(.ref x), (.int (0 : Int32))] ∧ Z.Warmed39 U.vm ∧ U.heap = h0) (fun _ _ _ _ _ => True) (fun _ U o U' => ∃ v L, o = .returned v ∧ Qpe2 Z x c0 c1 h0 n0 v U'.heap L ∧ FrameEnd U o U' L ({ frames := 4, cells := 0, slots := 0, locals := 53 } : Room).cells ({ frames := 4, cells := 0, slots := 0, locals := 53 } : Room).slots) := by
  refine MetFree.of_bodySF (plainFor_of_name pn_k1) hisR ?_
  intro p e s m args below meth c s₁ Bd hml0 hP hK
  obtain ⟨rfl, hZ, hh⟩ := hP
  have hx := Bd.exec
  have hby := Bd.bytes
  have hml : c.maxLocals = 4 := hml0
  have hown : s.vm.findClass "com/example/oxpecker/oxpecker/MessageTemplate" = some m.cls := findClass_of_methodNamed Bd.named
  have hnm := (name_of_methodNamed Bd.named Bd.method).1
  have X0 : Stand p l e ({ frames := 4, cells := 0, slots := 0, locals := 53 } : Room) s m #[(.ref x), (.int (0 : Int32))] below meth c s₁ [] 0 0 := Stand.of_body Bd
  have e0 : s₁.heap = h0 := by rw [← hh, Bd.state]; rfl
  have N0 := Fr.nil n0
  have pre0 : ∀ t, Steps p.tables e below (s₁.setTop (mkF m 0 #[.val (.ref x), .val (.int (0 : Int32)), .unset, .unset] [])) t → Steps p.tables e below (s₁.setTop (entryFrame m #[(.ref x), (.int (0 : Int32))] 4)) t := fun t k => castTop (ef_pe2 m x (0 : Int32)) k
  obtain ⟨tv, kb, Ex, Vv, Cc, Kk⟩ := SX
  obtain ⟨z, fm, Sz, hz, Sf, hfm⟩ := EN
  have hcd := own_cod hpr
  have hbd := own_up hpr
  have hln : ∀ d ∈ StrChars.Road.wordsLen, d.before a0 Z = true := fun d hd => hw d ((by decide +kernel : ∀ d ∈ StrChars.Road.wordsLen, d ∈ tables_1) d hd)
  have hch : ∀ d ∈ StrChars.Road.wordsChN, d.before a0 Z = true := fun d hd => hw d ((by decide +kernel : ∀ d ∈ StrChars.Road.wordsChN, d ∈ tables_1) d hd)
  have hep : ∀ d ∈ StrChars.Road.wordsEmp, d.before a0 Z = true := fun d hd => hw d ((by decide +kernel : ∀ d ∈ StrChars.Road.wordsEmp, d ∈ tables_1) d hd)
  obtain ⟨cq1, kq1, qa1, qb1, qc1⟩ := isOf hZ e0 Ex
  obtain ⟨_, _, ⟨T1, L1, k1, n1⟩, -, X1, ⟨Lc1, hQ1, l1, y1, z1⟩, st1⟩ := X0.virtualBack hx (y := (⟨"java/lang/String", "charAt", "(I)C"⟩ : MethodName)) (z := (⟨"java/lang/String", "charAt", "(I)C"⟩ : MethodName)) hown (mvT hZ (wd53 hw)) (mvT hZ (wd54 hw)) (notFace_of_selects (args := #[]) (mvT hZ (wd56 hw))) (mvT hZ (wd56 hw)) (mvT hZ (wd55 hw)) (by decide) (StrChars.Road.chN (W := 0) hZ hch (kI := 4) (wd9 hw) Ex Vv Cc Kk hcd hbd Sz hz Sf hfm (Nat.le_of_ble_eq_true rfl) (i := 0) (Nat.le_of_ble_eq_true rfl) (j := (0 : Int32)) (by decide) (by decide) (by decide)) qa1 qc1 (g := (mkF m 4 #[.val (.ref x), .val (.int (0 : Int32)), .val (.int (-1 : Int32)), .unset] [(.int (0 : Int32)), (.ref x)])) rfl (by rw [hml]; rfl) (Steps.refl _) (argsL := [(.int (0 : Int32))]) (rest := []) (lenOf pd_cha rfl) rfl (by show 2 * 0 + _ ≤ _; exact Nat.le_of_eq rfl) (hb hby d11_4) (fun _ _ => ⟨rfl, e0, (by decide : 0 + 0 ≤ _), (by decide : 0 + 0 ≤ _)⟩)
  dsimp only [Pt.U, Pt.locs, Pt.cells, Pt.slots] at X1 l1 y1 z1 st1 hQ1
  subst l1 y1 z1
  obtain ⟨rfl, rfl, q1⟩ := hQ1
  have N1 := Fr.app N0 (Fr.nil n0)
  have pre2 : ∀ t, Steps p.tables e below (T1.setTop (mkF m 9 #[.val (.ref x), .val (.int (0 : Int32)), .val (.int (-1 : Int32)), .unset] [(.int (123 : Int32)), (.int c0)])) t → Steps p.tables e below (s₁.setTop (entryFrame m #[(.ref x), (.int (0 : Int32))] 4)) t := fun t k => pre0 t (by
    show Steps p.tables e below (s₁.setTop (mkF m 0 #[.val (.ref x), .val (.int (0 : Int32)), .unset, .unset] [])) _
    refine XS.iconst X0.here hx rfl (hb hby d11_0) ?_
    refine XS.istoreN X0.here hx rfl (hb hby d11_1) rfl (l' := #[.val (.ref x), .val (.int (0 : Int32)), .val (.int (-1 : Int32)), .unset]) rfl ?_
    refine XS.aloadN X0.here hx rfl (hb hby d11_2) rfl rfl ?_
    refine XS.iloadN X0.here hx rfl (hb hby d11_3) rfl ?_
    refine st1.trans ?_
    refine XS.bipush X1.here hx rfl (hb hby d11_7) ?_
    exact k)
  by_cases hc9 : c0 = (123 : Int32)
  · obtain ⟨cq3, kq3, qa3, qb3, qc3⟩ := isOf hZ q1 Ex
    obtain ⟨_, _, ⟨T3, L3, k3, n3⟩, -, X3, ⟨Lc3, hQ3, l3, y3, z3⟩, st3⟩ := X1.virtualBack hx (y := (⟨"java/lang/String", "length", "()I"⟩ : MethodName)) (z := (⟨"java/lang/String", "length", "()I"⟩ : MethodName)) hown (mvT hZ (wd75 hw)) (mvT hZ (wd76 hw)) (notFace_of_selects (args := #[]) (mvT hZ (wd78 hw))) (mvT hZ (wd78 hw)) (mvT hZ (wd77 hw)) (by decide) (StrChars.Road.lenW (W := 1) hZ hln (kI := 4) (wd9 hw) Ex Vv Cc Kk hcd hbd Sz hz (Nat.le_of_ble_eq_true rfl) (by decide) (by decide)) qa3 qc3 (g := (mkF m 18 #[.val (.ref x), .val (.int (0 : Int32)), .val (.int (-1 : Int32)), .val (.int (1 : Int32))] [(.ref x), (.int (1 : Int32))])) rfl (by rw [hml]; rfl) (Steps.refl _) (argsL := []) (rest := [(.int (1 : Int32))]) (lenOf pd_len rfl) rfl (by show 2 * 0 + _ ≤ _; exact Nat.le_of_eq rfl) (hb hby d11_18) (fun _ _ => ⟨rfl, q1, (by decide : 0 + 0 ≤ _), (by decide : 0 + 0 ≤ _)⟩)
    dsimp only [Pt.U, Pt.locs, Pt.cells, Pt.slots] at X3 l3 y3 z3 st3 hQ3
    subst l3 y3 z3
    obtain ⟨rfl, rfl, q3⟩ := hQ3
    have N3 := Fr.app N1 (Fr.nil n0)
    obtain ⟨cq4, kq4, qa4, qb4, qc4⟩ := isOf hZ q3 Ex
    obtain ⟨_, _, ⟨T4, L4, k4, n4⟩, -, X4, ⟨Lc4, hQ4, l4, y4, z4⟩, st4⟩ := X3.virtualBack hx (y := (⟨"java/lang/String", "charAt", "(I)C"⟩ : MethodName)) (z := (⟨"java/lang/String", "charAt", "(I)C"⟩ : MethodName)) hown (mvT hZ (wd53 hw)) (mvT hZ (wd54 hw)) (notFace_of_selects (args := #[]) (mvT hZ (wd56 hw))) (mvT hZ (wd56 hw)) (mvT hZ (wd55 hw)) (by decide) (StrChars.Road.chN (W := 0) hZ hch (kI := 4) (wd9 hw) Ex Vv Cc Kk hcd hbd Sz hz Sf hfm (Nat.le_of_ble_eq_true rfl) (i := 1) (Nat.le_of_ble_eq_true rfl) (j := (1 : Int32)) (by decide) (by decide) (by decide)) qa4 qc4 (g := (mkF m 26 #[.val (.ref x), .val (.int (0 : Int32)), .val (.int (-1 : Int32)), .val (.int (1 : Int32))] [(.int (1 : Int32)), (.ref x)])) rfl (by rw [hml]; rfl) (Steps.refl _) (argsL := [(.int (1 : Int32))]) (rest := []) (lenOf pd_cha rfl) rfl (by show 2 * 0 + _ ≤ _; exact Nat.le_of_eq rfl) (hb hby d11_26) (fun _ _ => ⟨rfl, q3, (by decide : 0 + 0 ≤ _), (by decide : 0 + 0 ≤ _)⟩)
    dsimp only [Pt.U, Pt.locs, Pt.cells, Pt.slots] at X4 l4 y4 z4 st4 hQ4
    subst l4 y4 z4
    obtain ⟨rfl, rfl, q4⟩ := hQ4
    have N4 := Fr.app N3 (Fr.nil n0)
    obtain ⟨_, _, ⟨T5, L5, k5, n5⟩, -, X5, ⟨Lc5, hQ5, l5, y5, z5⟩, st5⟩ := Jvm.LawKit.callS X4 hx (y := (⟨"com/example/oxpecker/oxpecker/MessageTemplate", "isInName", "(C)Z"⟩ : MethodName)) hown (mvT hZ (wd85 hw)) (mvT hZ (wd86 hw)) (mvT hZ (wd32 hw)) (mvT hZ (wd87 hw)) (by decide) (backOf (W := 0) (rmin l Z a0 hw [] c1 h0 n0 Z0) hZ (wd87 hw) (wd32 hw) (by decide) (by decide)) (g := (mkF m 29 #[.val (.ref x), .val (.int (0 : Int32)), .val (.int (-1 : Int32)), .val (.int (1 : Int32))] [(.int c1)])) rfl (by rw [hml]; rfl) (argsL := [(.int c1)]) (rest := []) (lenOf pd_in rfl) rfl (by show 2 * 0 + _ ≤ _; exact Nat.le_of_eq rfl) (hb hby d11_29) (fun _ _ => ⟨rfl, q4, (by decide : 0 + 0 ≤ _), (by decide : 0 + 0 ≤ _)⟩)
    dsimp only [Pt.U, Pt.locs, Pt.cells, Pt.slots] at X5 l5 y5 z5 st5 hQ5
    subst l5 y5 z5
    obtain ⟨rfl, N5q, q5⟩ := hQ5
    have N5 := Fr.app N4 N5q
    have pre6 : ∀ t, Steps p.tables e below (T5.setTop (mkF m 32 #[.val (.ref x), .val (.int (0 : Int32)), .val (.int (-1 : Int32)), .val (.int (1 : Int32))] [(.int (own_in c1))])) t → Steps p.tables e below (s₁.setTop (entryFrame m #[(.ref x), (.int (0 : Int32))] 4)) t := fun t k => pre2 t (by
      show Steps p.tables e below (T1.setTop (mkF m 9 #[.val (.ref x), .val (.int (0 : Int32)), .val (.int (-1 : Int32)), .unset] [(.int (123 : Int32)), (.int c0)])) _
      refine XS.icmpNo X1.here hx rfl (hb hby d11_9) rfl (teq hc9).2 ?_
      refine XS.iloadN X1.here hx rfl (hb hby d11_12) rfl ?_
      refine XS.iconst X1.here hx rfl (hb hby d11_13) ?_
      refine XS.iadd X1.here hx rfl (hb hby d11_14) rfl ?_
      show Steps p.tables e below (T1.setTop (mkF m 15 #[.val (.ref x), .val (.int (0 : Int32)), .val (.int (-1 : Int32)), .unset] [(.int ((0 : Int32) + (1 : Int32)))])) _
      rw [show ((0 : Int32) + (1 : Int32)) = (1 : Int32) from by decide]
      refine XS.istoreN X1.here hx rfl (hb hby d11_15) rfl (l' := #[.val (.ref x), .val (.int (0 : Int32)), .val (.int (-1 : Int32)), .val (.int (1 : Int32))]) rfl ?_
      refine XS.iloadN X1.here hx rfl (hb hby d11_16) rfl ?_
      refine XS.aloadN X1.here hx rfl (hb hby d11_17) rfl rfl ?_
      refine st3.trans ?_
      refine XS.icmpNo X3.here hx rfl (hb hby d11_21) rfl (tlt (by decide : (1 : Int32) < (2 : Int32))).2.1 ?_
      refine XS.aloadN X3.here hx rfl (hb hby d11_24) rfl rfl ?_
      refine XS.iloadN X3.here hx rfl (hb hby d11_25) rfl ?_
      refine st4.trans ?_
      refine st5 _ ?_
      exact k)
    by_cases hc32 : (own_in c1) = (0 : Int32)
    · have pre7 : ∀ t, Steps p.tables e below (T5.setTop (mkF m 69 #[.val (.ref x), .val (.int (0 : Int32)), .val (.int (-1 : Int32)), .val (.int (1 : Int32))] [(.int (-1 : Int32))])) t → Steps p.tables e below (s₁.setTop (entryFrame m #[(.ref x), (.int (0 : Int32))] 4)) t := fun t k => pre6 t (by
        show Steps p.tables e below (T5.setTop (mkF m 32 #[.val (.ref x), .val (.int (0 : Int32)), .val (.int (-1 : Int32)), .val (.int (1 : Int32))] [(.int (own_in c1))])) _
        refine XS.ifYes X5.here hx rfl (pc0 := 32) (pc' := 41) rfl (hb hby d11_32) rfl ((if0 _ _).trans (teq hc32).1) (by decide) (by decide) ?_
        refine XS.iloadN X5.here hx rfl (hb hby d11_41) rfl ?_
        refine XS.iloadN X5.here hx rfl (hb hby d11_42) rfl ?_
        refine XS.iconst X5.here hx rfl (hb hby d11_43) ?_
        refine XS.iadd X5.here hx rfl (hb hby d11_44) rfl ?_
        show Steps p.tables e below (T5.setTop (mkF m 45 #[.val (.ref x), .val (.int (0 : Int32)), .val (.int (-1 : Int32)), .val (.int (1 : Int32))] [(.int ((0 : Int32) + (1 : Int32))), (.int (1 : Int32))])) _
        rw [show ((0 : Int32) + (1 : Int32)) = (1 : Int32) from by decide]
        refine XS.icmpYes X5.here hx rfl (pc0 := 45) (pc' := 68) rfl (hb hby d11_45) rfl (flt (by decide : ¬ ((1 : Int32) < (1 : Int32)))).2.2.2 (by decide) (by decide) ?_
        refine XS.iloadN X5.here hx rfl (hb hby d11_68) rfl ?_
        exact k)
      obtain ⟨fs8, hr8, hrun8, hended8, hW8, hsame8⟩ := X5.leave (v := some (.int (-1 : Int32))) (fun h => by rw [Bd.returns] at h; cases h)
      refine ⟨_, _, pre7 _ ?_, hrun8, hended8, _, _, rfl, ?_, ⟨_, rfl⟩, hW8, hsame8.mono (by decide) (by decide)⟩
      · show Steps p.tables e below (T5.setTop (mkF m 69 #[.val (.ref x), .val (.int (0 : Int32)), .val (.int (-1 : Int32)), .val (.int (1 : Int32))] [(.int (-1 : Int32))])) _
        exact retOut X5 hx (t := .int) Bd.returns rfl (Or.inl ⟨rfl, Or.inl rfl, _, rfl⟩) (hb hby d11_69) hr8
      · show Qpe2 Z x c0 c1 h0 n0 _ T5.heap _
        rw [q5]
        exact ⟨_, rfl, N5, rfl, fun q => absurd q (by decide), fun q => q.elim⟩
    obtain ⟨cq9, kq9, qa9, qb9, qc9⟩ := isOf hZ q5 Ex
    obtain ⟨_, _, ⟨T9, L9, k9, n9⟩, -, X9, ⟨Lc9, hQ9, l9, y9, z9⟩, st9⟩ := X5.virtualBack hx (y := (⟨"java/lang/String", "length", "()I"⟩ : MethodName)) (z := (⟨"java/lang/String", "length", "()I"⟩ : MethodName)) hown (mvT hZ (wd75 hw)) (mvT hZ (wd76 hw)) (notFace_of_selects (args := #[]) (mvT hZ (wd78 hw))) (mvT hZ (wd78 hw)) (mvT hZ (wd77 hw)) (by decide) (StrChars.Road.lenW (W := 1) hZ hln (kI := 4) (wd9 hw) Ex Vv Cc Kk hcd hbd Sz hz (Nat.le_of_ble_eq_true rfl) (by decide) (by decide)) qa9 qc9 (g := (mkF m 18 #[.val (.ref x), .val (.int (0 : Int32)), .val (.int (-1 : Int32)), .val (.int (2 : Int32))] [(.ref x), (.int (2 : Int32))])) rfl (by rw [hml]; rfl) (Steps.refl _) (argsL := []) (rest := [(.int (2 : Int32))]) (lenOf pd_len rfl) rfl (by show 2 * 0 + _ ≤ _; exact Nat.le_of_eq rfl) (hb hby d11_18) (fun _ _ => ⟨rfl, q5, (by decide : 0 + 0 ≤ _), (by decide : 0 + 0 ≤ _)⟩)
    dsimp only [Pt.U, Pt.locs, Pt.cells, Pt.slots] at X9 l9 y9 z9 st9 hQ9
    subst l9 y9 z9
    obtain ⟨rfl, rfl, q9⟩ := hQ9
    have N9 := Fr.app N5 (Fr.nil n0)
    obtain ⟨cq10, kq10, qa10, qb10, qc10⟩ := isOf hZ q9 Ex
    obtain ⟨_, _, ⟨T10, L10, k10, n10⟩, -, X10, ⟨Lc10, hQ10, l10, y10, z10⟩, st10⟩ := X9.virtualBack hx (y := (⟨"java/lang/String", "length", "()I"⟩ : MethodName)) (z := (⟨"java/lang/String", "length", "()I"⟩ : MethodName)) hown (mvT hZ (wd75 hw)) (mvT hZ (wd76 hw)) (notFace_of_selects (args := #[]) (mvT hZ (wd78 hw))) (mvT hZ (wd78 hw)) (mvT hZ (wd77 hw)) (by decide) (StrChars.Road.lenW (W := 1) hZ hln (kI := 4) (wd9 hw) Ex Vv Cc Kk hcd hbd Sz hz (Nat.le_of_ble_eq_true rfl) (by decide) (by decide)) qa10 qc10 (g := (mkF m 50 #[.val (.ref x), .val (.int (0 : Int32)), .val (.int (-1 : Int32)), .val (.int (2 : Int32))] [(.ref x), (.int (2 : Int32))])) rfl (by rw [hml]; rfl) (Steps.refl _) (argsL := []) (rest := [(.int (2 : Int32))]) (lenOf pd_len rfl) rfl (by show 2 * 0 + _ ≤ _; exact Nat.le_of_eq rfl) (hb hby d11_50) (fun _ _ => ⟨rfl, q9, (by decide : 0 + 0 ≤ _), (by decide : 0 + 0 ≤ _)⟩)
    dsimp only [Pt.U, Pt.locs, Pt.cells, Pt.slots] at X10 l10 y10 z10 st10 hQ10
    subst l10 y10 z10
    obtain ⟨rfl, rfl, q10⟩ := hQ10
    have N10 := Fr.app N9 (Fr.nil n0)
    have pre11 : ∀ t, Steps p.tables e below (T10.setTop (mkF m 69 #[.val (.ref x), .val (.int (0 : Int32)), .val (.int (-1 : Int32)), .val (.int (2 : Int32))] [(.int (-1 : Int32))])) t → Steps p.tables e below (s₁.setTop (entryFrame m #[(.ref x), (.int (0 : Int32))] 4)) t := fun t k => pre6 t (by
      show Steps p.tables e below (T5.setTop (mkF m 32 #[.val (.ref x), .val (.int (0 : Int32)), .val (.int (-1 : Int32)), .val (.int (1 : Int32))] [(.int (own_in c1))])) _
      refine XS.ifNo X5.here hx rfl (hb hby d11_32) rfl ((if0 _ _).trans (feq hc32).1) ?_
      refine XS.iinc X5.here hx rfl (hb hby d11_35) rfl (l' := #[.val (.ref x), .val (.int (0 : Int32)), .val (.int (-1 : Int32)), .val (.int ((1 : Int32) + (1 : Int32)))]) rfl ?_
      show Steps p.tables e below (T5.setTop (mkF m 38 #[.val (.ref x), .val (.int (0 : Int32)), .val (.int (-1 : Int32)), .val (.int ((1 : Int32) + (1 : Int32)))] [])) _
      rw [show ((1 : Int32) + (1 : Int32)) = (2 : Int32) from by decide]
      refine XS.goto X5.here hx rfl (pc0 := 38) (pc' := 16) rfl (hb hby d11_38) (by decide) (by decide) ?_
      refine XS.iloadN X5.here hx rfl (hb hby d11_16) rfl ?_
      refine XS.aloadN X5.here hx rfl (hb hby d11_17) rfl rfl ?_
      refine st9.trans ?_
      refine XS.icmpYes X9.here hx rfl (pc0 := 21) (pc' := 41) rfl (hb hby d11_21) rfl (flt (by decide : ¬ ((2 : Int32) < (2 : Int32)))).2.1 (by decide) (by decide) ?_
      refine XS.iloadN X9.here hx rfl (hb hby d11_41) rfl ?_
      refine XS.iloadN X9.here hx rfl (hb hby d11_42) rfl ?_
      refine XS.iconst X9.here hx rfl (hb hby d11_43) ?_
      refine XS.iadd X9.here hx rfl (hb hby d11_44) rfl ?_
      show Steps p.tables e below (T9.setTop (mkF m 45 #[.val (.ref x), .val (.int (0 : Int32)), .val (.int (-1 : Int32)), .val (.int (2 : Int32))] [(.int ((0 : Int32) + (1 : Int32))), (.int (2 : Int32))])) _
      rw [show ((0 : Int32) + (1 : Int32)) = (1 : Int32) from by decide]
      refine XS.icmpNo X9.here hx rfl (hb hby d11_45) rfl (tlt (by decide : (1 : Int32) < (2 : Int32))).2.2.2 ?_
      refine XS.iloadN X9.here hx rfl (hb hby d11_48) rfl ?_
      refine XS.aloadN X9.here hx rfl (hb hby d11_49) rfl rfl ?_
      refine st10.trans ?_
      refine XS.icmpYes X10.here hx rfl (pc0 := 53) (pc' := 68) rfl (hb hby d11_53) rfl (flt (by decide : ¬ ((2 : Int32) < (2 : Int32)))).2.1 (by decide) (by decide) ?_
      refine XS.iloadN X10.here hx rfl (hb hby d11_68) rfl ?_
      exact k)
    obtain ⟨fs12, hr12, hrun12, hended12, hW12, hsame12⟩ := X10.leave (v := some (.int (-1 : Int32))) (fun h => by rw [Bd.returns] at h; cases h)
    refine ⟨_, _, pre11 _ ?_, hrun12, hended12, _, _, rfl, ?_, ⟨_, rfl⟩, hW12, hsame12.mono (by decide) (by decide)⟩
    · show Steps p.tables e below (T10.setTop (mkF m 69 #[.val (.ref x), .val (.int (0 : Int32)), .val (.int (-1 : Int32)), .val (.int (2 : Int32))] [(.int (-1 : Int32))])) _
      exact retOut X10 hx (t := .int) Bd.returns rfl (Or.inl ⟨rfl, Or.inl rfl, _, rfl⟩) (hb hby d11_69) hr12
    · show Qpe2 Z x c0 c1 h0 n0 _ T10.heap _
      rw [q10]
      exact ⟨_, rfl, N10, rfl, fun q => absurd q (by decide), fun q => q.elim⟩
  have pre13 : ∀ t, Steps p.tables e below (T1.setTop (mkF m 69 #[.val (.ref x), .val (.int (0 : Int32)), .val (.int (-1 : Int32)), .unset] [(.int (-1 : Int32))])) t → Steps p.tables e below (s₁.setTop (entryFrame m #[(.ref x), (.int (0 : Int32))] 4)) t := fun t k => pre2 t (by
    show Steps p.tables e below (T1.setTop (mkF m 9 #[.val (.ref x), .val (.int (0 : Int32)), .val (.int (-1 : Int32)), .unset] [(.int (123 : Int32)), (.int c0)])) _
    refine XS.icmpYes X1.here hx rfl (pc0 := 9) (pc' := 68) rfl (hb hby d11_9) rfl (feq hc9).2 (by decide) (by decide) ?_
    refine XS.iloadN X1.here hx rfl (hb hby d11_68) rfl ?_
    exact k)
  obtain ⟨fs14, hr14, hrun14, hended14, hW14, hsame14⟩ := X1.leave (v := some (.int (-1 : Int32))) (fun h => by rw [Bd.returns] at h; cases h)
  refine ⟨_, _, pre13 _ ?_, hrun14, hended14, _, _, rfl, ?_, ⟨_, rfl⟩, hW14, hsame14.mono (by decide) (by decide)⟩
  · show Steps p.tables e below (T1.setTop (mkF m 69 #[.val (.ref x), .val (.int (0 : Int32)), .val (.int (-1 : Int32)), .unset] [(.int (-1 : Int32))])) _
    exact retOut X1 hx (t := .int) Bd.returns rfl (Or.inl ⟨rfl, Or.inl rfl, _, rfl⟩) (hb hby d11_69) hr14
  · show Qpe2 Z x c0 c1 h0 n0 _ T1.heap _
    rw [q1]
    exact ⟨_, rfl, N1, rfl, fun q => absurd q (by decide), fun q => q.elim⟩

theorem pd_pe3 : parseMethodDescriptor "(Ljava/lang/String;I)I" = some ⟨[(.object "java/lang/String"), .int], some .int⟩ := by decide +kernel

theorem ef_pe3 (m : MethodId) (x0 : Addr) (x1 : Int32)  : entryFrame m #[(.ref x0), (.int x1)] 4 = mkF m 0 #[.val (.ref x0), .val (.int x1), .unset, .unset] [] := by first | (simp [entryFrame, mkF, argsToLocals, Value.category]; done) | rfl
def Qpe3 (Z : State) (x : Addr) (c0 c1 c2 : Int32) (h0 : Heap) (n0 : Nat) (v : Option Value) (h : Heap) (L : List Loc) : Prop := ∃ r, v = some (.int r) ∧ Fr n0 L ∧ h = h0 ∧ (r = (2 : Int32) ↔ own_sole3 c0 c1 c2)
set_option maxRecDepth 65536 in
set_option maxHeartbeats 40000000 in
theorem rmpe3 (l : Launch) (Z : State) (a0 : Array Value) (hw : ∀ d ∈ tables_1, d.before a0 Z = true) (ws : List Jvm.Cond) (x : Addr) (c0 c1 c2 : Int32) (h0 : Heap) (n0 : Nat) (Z0 : n0 ≤ h0.size) (SX : own_str Z h0 x [c0, c1, c2]) (EN : own_env Z h0) (hpr : own_pr [c0, c1, c2]) :
    MetFree l (⟨"com/example/oxpecker/oxpecker/MessageTemplate", "parameterEnd", "(Ljava/lang/String;I)I"⟩ : MethodName) (head1 (Jvm.Cond.code (⟨"com/example/oxpecker/oxpecker/MessageTemplate", "parameterEnd", "(Ljava/lang/String;I)I"⟩ : MethodName) prog_5_method_9_code 4 (some .int) :: ws) ({ frames := 4, cells := 0, slots := 0, locals := 53 } : Room)) (fun a U => a = #[(.ref x), (.int (0 : Int32))] ∧ Z.Warmed39 U.vm ∧ U.heap = h0) (fun _ _ _ _ _ => True) (fun _ U o U' => ∃ v L, o = .returned v ∧ Qpe3 Z x c0 c1 c2 h0 n0 v U'.heap L ∧ FrameEnd U o U' L ({ frames := 4, cells := 0, slots := 0, locals := 53 } : Room).cells ({ frames := 4, cells := 0, slots := 0, locals := 53 } : Room).slots) := by
  refine MetFree.of_bodySF (plainFor_of_name pn_k1) hisR ?_
  intro p e s m args below meth c s₁ Bd hml0 hP hK
  obtain ⟨rfl, hZ, hh⟩ := hP
  have hx := Bd.exec
  have hby := Bd.bytes
  have hml : c.maxLocals = 4 := hml0
  have hown : s.vm.findClass "com/example/oxpecker/oxpecker/MessageTemplate" = some m.cls := findClass_of_methodNamed Bd.named
  have hnm := (name_of_methodNamed Bd.named Bd.method).1
  have X0 : Stand p l e ({ frames := 4, cells := 0, slots := 0, locals := 53 } : Room) s m #[(.ref x), (.int (0 : Int32))] below meth c s₁ [] 0 0 := Stand.of_body Bd
  have e0 : s₁.heap = h0 := by rw [← hh, Bd.state]; rfl
  have N0 := Fr.nil n0
  have pre0 : ∀ t, Steps p.tables e below (s₁.setTop (mkF m 0 #[.val (.ref x), .val (.int (0 : Int32)), .unset, .unset] [])) t → Steps p.tables e below (s₁.setTop (entryFrame m #[(.ref x), (.int (0 : Int32))] 4)) t := fun t k => castTop (ef_pe3 m x (0 : Int32)) k
  obtain ⟨tv, kb, Ex, Vv, Cc, Kk⟩ := SX
  obtain ⟨z, fm, Sz, hz, Sf, hfm⟩ := EN
  have hcd := own_cod hpr
  have hbd := own_up hpr
  have hln : ∀ d ∈ StrChars.Road.wordsLen, d.before a0 Z = true := fun d hd => hw d ((by decide +kernel : ∀ d ∈ StrChars.Road.wordsLen, d ∈ tables_1) d hd)
  have hch : ∀ d ∈ StrChars.Road.wordsChN, d.before a0 Z = true := fun d hd => hw d ((by decide +kernel : ∀ d ∈ StrChars.Road.wordsChN, d ∈ tables_1) d hd)
  have hep : ∀ d ∈ StrChars.Road.wordsEmp, d.before a0 Z = true := fun d hd => hw d ((by decide +kernel : ∀ d ∈ StrChars.Road.wordsEmp, d ∈ tables_1) d hd)
  obtain ⟨cq1, kq1, qa1, qb1, qc1⟩ := isOf hZ e0 Ex
  obtain ⟨_, _, ⟨T1, L1, k1, n1⟩, -, X1, ⟨Lc1, hQ1, l1, y1, z1⟩, st1⟩ := X0.virtualBack hx (y := (⟨"java/lang/String", "charAt", "(I)C"⟩ : MethodName)) (z := (⟨"java/lang/String", "charAt", "(I)C"⟩ : MethodName)) hown (mvT hZ (wd53 hw)) (mvT hZ (wd54 hw)) (notFace_of_selects (args := #[]) (mvT hZ (wd56 hw))) (mvT hZ (wd56 hw)) (mvT hZ (wd55 hw)) (by decide) (StrChars.Road.chN (W := 0) hZ hch (kI := 4) (wd9 hw) Ex Vv Cc Kk hcd hbd Sz hz Sf hfm (Nat.le_of_ble_eq_true rfl) (i := 0) (Nat.le_of_ble_eq_true rfl) (j := (0 : Int32)) (by decide) (by decide) (by decide)) qa1 qc1 (g := (mkF m 4 #[.val (.ref x), .val (.int (0 : Int32)), .val (.int (-1 : Int32)), .unset] [(.int (0 : Int32)), (.ref x)])) rfl (by rw [hml]; rfl) (Steps.refl _) (argsL := [(.int (0 : Int32))]) (rest := []) (lenOf pd_cha rfl) rfl (by show 2 * 0 + _ ≤ _; exact Nat.le_of_eq rfl) (hb hby d11_4) (fun _ _ => ⟨rfl, e0, (by decide : 0 + 0 ≤ _), (by decide : 0 + 0 ≤ _)⟩)
  dsimp only [Pt.U, Pt.locs, Pt.cells, Pt.slots] at X1 l1 y1 z1 st1 hQ1
  subst l1 y1 z1
  obtain ⟨rfl, rfl, q1⟩ := hQ1
  have N1 := Fr.app N0 (Fr.nil n0)
  have pre2 : ∀ t, Steps p.tables e below (T1.setTop (mkF m 9 #[.val (.ref x), .val (.int (0 : Int32)), .val (.int (-1 : Int32)), .unset] [(.int (123 : Int32)), (.int c0)])) t → Steps p.tables e below (s₁.setTop (entryFrame m #[(.ref x), (.int (0 : Int32))] 4)) t := fun t k => pre0 t (by
    show Steps p.tables e below (s₁.setTop (mkF m 0 #[.val (.ref x), .val (.int (0 : Int32)), .unset, .unset] [])) _
    refine XS.iconst X0.here hx rfl (hb hby d11_0) ?_
    refine XS.istoreN X0.here hx rfl (hb hby d11_1) rfl (l' := #[.val (.ref x), .val (.int (0 : Int32)), .val (.int (-1 : Int32)), .unset]) rfl ?_
    refine XS.aloadN X0.here hx rfl (hb hby d11_2) rfl rfl ?_
    refine XS.iloadN X0.here hx rfl (hb hby d11_3) rfl ?_
    refine st1.trans ?_
    refine XS.bipush X1.here hx rfl (hb hby d11_7) ?_
    exact k)
  by_cases hc9 : c0 = (123 : Int32)
  · obtain ⟨cq3, kq3, qa3, qb3, qc3⟩ := isOf hZ q1 Ex
    obtain ⟨_, _, ⟨T3, L3, k3, n3⟩, -, X3, ⟨Lc3, hQ3, l3, y3, z3⟩, st3⟩ := X1.virtualBack hx (y := (⟨"java/lang/String", "length", "()I"⟩ : MethodName)) (z := (⟨"java/lang/String", "length", "()I"⟩ : MethodName)) hown (mvT hZ (wd75 hw)) (mvT hZ (wd76 hw)) (notFace_of_selects (args := #[]) (mvT hZ (wd78 hw))) (mvT hZ (wd78 hw)) (mvT hZ (wd77 hw)) (by decide) (StrChars.Road.lenW (W := 1) hZ hln (kI := 4) (wd9 hw) Ex Vv Cc Kk hcd hbd Sz hz (Nat.le_of_ble_eq_true rfl) (by decide) (by decide)) qa3 qc3 (g := (mkF m 18 #[.val (.ref x), .val (.int (0 : Int32)), .val (.int (-1 : Int32)), .val (.int (1 : Int32))] [(.ref x), (.int (1 : Int32))])) rfl (by rw [hml]; rfl) (Steps.refl _) (argsL := []) (rest := [(.int (1 : Int32))]) (lenOf pd_len rfl) rfl (by show 2 * 0 + _ ≤ _; exact Nat.le_of_eq rfl) (hb hby d11_18) (fun _ _ => ⟨rfl, q1, (by decide : 0 + 0 ≤ _), (by decide : 0 + 0 ≤ _)⟩)
    dsimp only [Pt.U, Pt.locs, Pt.cells, Pt.slots] at X3 l3 y3 z3 st3 hQ3
    subst l3 y3 z3
    obtain ⟨rfl, rfl, q3⟩ := hQ3
    have N3 := Fr.app N1 (Fr.nil n0)
    obtain ⟨cq4, kq4, qa4, qb4, qc4⟩ := isOf hZ q3 Ex
    obtain ⟨_, _, ⟨T4, L4, k4, n4⟩, -, X4, ⟨Lc4, hQ4, l4, y4, z4⟩, st4⟩ := X3.virtualBack hx (y := (⟨"java/lang/String", "charAt", "(I)C"⟩ : MethodName)) (z := (⟨"java/lang/String", "charAt", "(I)C"⟩ : MethodName)) hown (mvT hZ (wd53 hw)) (mvT hZ (wd54 hw)) (notFace_of_selects (args := #[]) (mvT hZ (wd56 hw))) (mvT hZ (wd56 hw)) (mvT hZ (wd55 hw)) (by decide) (StrChars.Road.chN (W := 0) hZ hch (kI := 4) (wd9 hw) Ex Vv Cc Kk hcd hbd Sz hz Sf hfm (Nat.le_of_ble_eq_true rfl) (i := 1) (Nat.le_of_ble_eq_true rfl) (j := (1 : Int32)) (by decide) (by decide) (by decide)) qa4 qc4 (g := (mkF m 26 #[.val (.ref x), .val (.int (0 : Int32)), .val (.int (-1 : Int32)), .val (.int (1 : Int32))] [(.int (1 : Int32)), (.ref x)])) rfl (by rw [hml]; rfl) (Steps.refl _) (argsL := [(.int (1 : Int32))]) (rest := []) (lenOf pd_cha rfl) rfl (by show 2 * 0 + _ ≤ _; exact Nat.le_of_eq rfl) (hb hby d11_26) (fun _ _ => ⟨rfl, q3, (by decide : 0 + 0 ≤ _), (by decide : 0 + 0 ≤ _)⟩)
    dsimp only [Pt.U, Pt.locs, Pt.cells, Pt.slots] at X4 l4 y4 z4 st4 hQ4
    subst l4 y4 z4
    obtain ⟨rfl, rfl, q4⟩ := hQ4
    have N4 := Fr.app N3 (Fr.nil n0)
    obtain ⟨_, _, ⟨T5, L5, k5, n5⟩, -, X5, ⟨Lc5, hQ5, l5, y5, z5⟩, st5⟩ := Jvm.LawKit.callS X4 hx (y := (⟨"com/example/oxpecker/oxpecker/MessageTemplate", "isInName", "(C)Z"⟩ : MethodName)) hown (mvT hZ (wd85 hw)) (mvT hZ (wd86 hw)) (mvT hZ (wd32 hw)) (mvT hZ (wd87 hw)) (by decide) (backOf (W := 0) (rmin l Z a0 hw [] c1 h0 n0 Z0) hZ (wd87 hw) (wd32 hw) (by decide) (by decide)) (g := (mkF m 29 #[.val (.ref x), .val (.int (0 : Int32)), .val (.int (-1 : Int32)), .val (.int (1 : Int32))] [(.int c1)])) rfl (by rw [hml]; rfl) (argsL := [(.int c1)]) (rest := []) (lenOf pd_in rfl) rfl (by show 2 * 0 + _ ≤ _; exact Nat.le_of_eq rfl) (hb hby d11_29) (fun _ _ => ⟨rfl, q4, (by decide : 0 + 0 ≤ _), (by decide : 0 + 0 ≤ _)⟩)
    dsimp only [Pt.U, Pt.locs, Pt.cells, Pt.slots] at X5 l5 y5 z5 st5 hQ5
    subst l5 y5 z5
    obtain ⟨rfl, N5q, q5⟩ := hQ5
    have N5 := Fr.app N4 N5q
    have pre6 : ∀ t, Steps p.tables e below (T5.setTop (mkF m 32 #[.val (.ref x), .val (.int (0 : Int32)), .val (.int (-1 : Int32)), .val (.int (1 : Int32))] [(.int (own_in c1))])) t → Steps p.tables e below (s₁.setTop (entryFrame m #[(.ref x), (.int (0 : Int32))] 4)) t := fun t k => pre2 t (by
      show Steps p.tables e below (T1.setTop (mkF m 9 #[.val (.ref x), .val (.int (0 : Int32)), .val (.int (-1 : Int32)), .unset] [(.int (123 : Int32)), (.int c0)])) _
      refine XS.icmpNo X1.here hx rfl (hb hby d11_9) rfl (teq hc9).2 ?_
      refine XS.iloadN X1.here hx rfl (hb hby d11_12) rfl ?_
      refine XS.iconst X1.here hx rfl (hb hby d11_13) ?_
      refine XS.iadd X1.here hx rfl (hb hby d11_14) rfl ?_
      show Steps p.tables e below (T1.setTop (mkF m 15 #[.val (.ref x), .val (.int (0 : Int32)), .val (.int (-1 : Int32)), .unset] [(.int ((0 : Int32) + (1 : Int32)))])) _
      rw [show ((0 : Int32) + (1 : Int32)) = (1 : Int32) from by decide]
      refine XS.istoreN X1.here hx rfl (hb hby d11_15) rfl (l' := #[.val (.ref x), .val (.int (0 : Int32)), .val (.int (-1 : Int32)), .val (.int (1 : Int32))]) rfl ?_
      refine XS.iloadN X1.here hx rfl (hb hby d11_16) rfl ?_
      refine XS.aloadN X1.here hx rfl (hb hby d11_17) rfl rfl ?_
      refine st3.trans ?_
      refine XS.icmpNo X3.here hx rfl (hb hby d11_21) rfl (tlt (by decide : (1 : Int32) < (3 : Int32))).2.1 ?_
      refine XS.aloadN X3.here hx rfl (hb hby d11_24) rfl rfl ?_
      refine XS.iloadN X3.here hx rfl (hb hby d11_25) rfl ?_
      refine st4.trans ?_
      refine st5 _ ?_
      exact k)
    by_cases hc32 : (own_in c1) = (0 : Int32)
    · have pre7 : ∀ t, Steps p.tables e below (T5.setTop (mkF m 69 #[.val (.ref x), .val (.int (0 : Int32)), .val (.int (-1 : Int32)), .val (.int (1 : Int32))] [(.int (-1 : Int32))])) t → Steps p.tables e below (s₁.setTop (entryFrame m #[(.ref x), (.int (0 : Int32))] 4)) t := fun t k => pre6 t (by
        show Steps p.tables e below (T5.setTop (mkF m 32 #[.val (.ref x), .val (.int (0 : Int32)), .val (.int (-1 : Int32)), .val (.int (1 : Int32))] [(.int (own_in c1))])) _
        refine XS.ifYes X5.here hx rfl (pc0 := 32) (pc' := 41) rfl (hb hby d11_32) rfl ((if0 _ _).trans (teq hc32).1) (by decide) (by decide) ?_
        refine XS.iloadN X5.here hx rfl (hb hby d11_41) rfl ?_
        refine XS.iloadN X5.here hx rfl (hb hby d11_42) rfl ?_
        refine XS.iconst X5.here hx rfl (hb hby d11_43) ?_
        refine XS.iadd X5.here hx rfl (hb hby d11_44) rfl ?_
        show Steps p.tables e below (T5.setTop (mkF m 45 #[.val (.ref x), .val (.int (0 : Int32)), .val (.int (-1 : Int32)), .val (.int (1 : Int32))] [(.int ((0 : Int32) + (1 : Int32))), (.int (1 : Int32))])) _
        rw [show ((0 : Int32) + (1 : Int32)) = (1 : Int32) from by decide]
        refine XS.icmpYes X5.here hx rfl (pc0 := 45) (pc' := 68) rfl (hb hby d11_45) rfl (flt (by decide : ¬ ((1 : Int32) < (1 : Int32)))).2.2.2 (by decide) (by decide) ?_
        refine XS.iloadN X5.here hx rfl (hb hby d11_68) rfl ?_
        exact k)
      obtain ⟨fs8, hr8, hrun8, hended8, hW8, hsame8⟩ := X5.leave (v := some (.int (-1 : Int32))) (fun h => by rw [Bd.returns] at h; cases h)
      refine ⟨_, _, pre7 _ ?_, hrun8, hended8, _, _, rfl, ?_, ⟨_, rfl⟩, hW8, hsame8.mono (by decide) (by decide)⟩
      · show Steps p.tables e below (T5.setTop (mkF m 69 #[.val (.ref x), .val (.int (0 : Int32)), .val (.int (-1 : Int32)), .val (.int (1 : Int32))] [(.int (-1 : Int32))])) _
        exact retOut X5 hx (t := .int) Bd.returns rfl (Or.inl ⟨rfl, Or.inl rfl, _, rfl⟩) (hb hby d11_69) hr8
      · show Qpe3 Z x c0 c1 c2 h0 n0 _ T5.heap _
        rw [q5]
        exact ⟨_, rfl, N5, rfl, fun q => absurd q (by decide), fun q => by
          obtain ⟨w0, w1, w2⟩ := q
          first | contradiction | (exfalso; simp_all [own_in]; done)⟩
    obtain ⟨cq9, kq9, qa9, qb9, qc9⟩ := isOf hZ q5 Ex
    obtain ⟨_, _, ⟨T9, L9, k9, n9⟩, -, X9, ⟨Lc9, hQ9, l9, y9, z9⟩, st9⟩ := X5.virtualBack hx (y := (⟨"java/lang/String", "length", "()I"⟩ : MethodName)) (z := (⟨"java/lang/String", "length", "()I"⟩ : MethodName)) hown (mvT hZ (wd75 hw)) (mvT hZ (wd76 hw)) (notFace_of_selects (args := #[]) (mvT hZ (wd78 hw))) (mvT hZ (wd78 hw)) (mvT hZ (wd77 hw)) (by decide) (StrChars.Road.lenW (W := 1) hZ hln (kI := 4) (wd9 hw) Ex Vv Cc Kk hcd hbd Sz hz (Nat.le_of_ble_eq_true rfl) (by decide) (by decide)) qa9 qc9 (g := (mkF m 18 #[.val (.ref x), .val (.int (0 : Int32)), .val (.int (-1 : Int32)), .val (.int (2 : Int32))] [(.ref x), (.int (2 : Int32))])) rfl (by rw [hml]; rfl) (Steps.refl _) (argsL := []) (rest := [(.int (2 : Int32))]) (lenOf pd_len rfl) rfl (by show 2 * 0 + _ ≤ _; exact Nat.le_of_eq rfl) (hb hby d11_18) (fun _ _ => ⟨rfl, q5, (by decide : 0 + 0 ≤ _), (by decide : 0 + 0 ≤ _)⟩)
    dsimp only [Pt.U, Pt.locs, Pt.cells, Pt.slots] at X9 l9 y9 z9 st9 hQ9
    subst l9 y9 z9
    obtain ⟨rfl, rfl, q9⟩ := hQ9
    have N9 := Fr.app N5 (Fr.nil n0)
    obtain ⟨cq10, kq10, qa10, qb10, qc10⟩ := isOf hZ q9 Ex
    obtain ⟨_, _, ⟨T10, L10, k10, n10⟩, -, X10, ⟨Lc10, hQ10, l10, y10, z10⟩, st10⟩ := X9.virtualBack hx (y := (⟨"java/lang/String", "charAt", "(I)C"⟩ : MethodName)) (z := (⟨"java/lang/String", "charAt", "(I)C"⟩ : MethodName)) hown (mvT hZ (wd53 hw)) (mvT hZ (wd54 hw)) (notFace_of_selects (args := #[]) (mvT hZ (wd56 hw))) (mvT hZ (wd56 hw)) (mvT hZ (wd55 hw)) (by decide) (StrChars.Road.chN (W := 0) hZ hch (kI := 4) (wd9 hw) Ex Vv Cc Kk hcd hbd Sz hz Sf hfm (Nat.le_of_ble_eq_true rfl) (i := 2) (Nat.le_of_ble_eq_true rfl) (j := (2 : Int32)) (by decide) (by decide) (by decide)) qa10 qc10 (g := (mkF m 26 #[.val (.ref x), .val (.int (0 : Int32)), .val (.int (-1 : Int32)), .val (.int (2 : Int32))] [(.int (2 : Int32)), (.ref x)])) rfl (by rw [hml]; rfl) (Steps.refl _) (argsL := [(.int (2 : Int32))]) (rest := []) (lenOf pd_cha rfl) rfl (by show 2 * 0 + _ ≤ _; exact Nat.le_of_eq rfl) (hb hby d11_26) (fun _ _ => ⟨rfl, q9, (by decide : 0 + 0 ≤ _), (by decide : 0 + 0 ≤ _)⟩)
    dsimp only [Pt.U, Pt.locs, Pt.cells, Pt.slots] at X10 l10 y10 z10 st10 hQ10
    subst l10 y10 z10
    obtain ⟨rfl, rfl, q10⟩ := hQ10
    have N10 := Fr.app N9 (Fr.nil n0)
    obtain ⟨_, _, ⟨T11, L11, k11, n11⟩, -, X11, ⟨Lc11, hQ11, l11, y11, z11⟩, st11⟩ := Jvm.LawKit.callS X10 hx (y := (⟨"com/example/oxpecker/oxpecker/MessageTemplate", "isInName", "(C)Z"⟩ : MethodName)) hown (mvT hZ (wd85 hw)) (mvT hZ (wd86 hw)) (mvT hZ (wd32 hw)) (mvT hZ (wd87 hw)) (by decide) (backOf (W := 0) (rmin l Z a0 hw [] c2 h0 n0 Z0) hZ (wd87 hw) (wd32 hw) (by decide) (by decide)) (g := (mkF m 29 #[.val (.ref x), .val (.int (0 : Int32)), .val (.int (-1 : Int32)), .val (.int (2 : Int32))] [(.int c2)])) rfl (by rw [hml]; rfl) (argsL := [(.int c2)]) (rest := []) (lenOf pd_in rfl) rfl (by show 2 * 0 + _ ≤ _; exact Nat.le_of_eq rfl) (hb hby d11_29) (fun _ _ => ⟨rfl, q10, (by decide : 0 + 0 ≤ _), (by decide : 0 + 0 ≤ _)⟩)
    dsimp only [Pt.U, Pt.locs, Pt.cells, Pt.slots] at X11 l11 y11 z11 st11 hQ11
    subst l11 y11 z11
    obtain ⟨rfl, N11q, q11⟩ := hQ11
    have N11 := Fr.app N10 N11q
    have pre12 : ∀ t, Steps p.tables e below (T11.setTop (mkF m 32 #[.val (.ref x), .val (.int (0 : Int32)), .val (.int (-1 : Int32)), .val (.int (2 : Int32))] [(.int (own_in c2))])) t → Steps p.tables e below (s₁.setTop (entryFrame m #[(.ref x), (.int (0 : Int32))] 4)) t := fun t k => pre6 t (by
      show Steps p.tables e below (T5.setTop (mkF m 32 #[.val (.ref x), .val (.int (0 : Int32)), .val (.int (-1 : Int32)), .val (.int (1 : Int32))] [(.int (own_in c1))])) _
      refine XS.ifNo X5.here hx rfl (hb hby d11_32) rfl ((if0 _ _).trans (feq hc32).1) ?_
      refine XS.iinc X5.here hx rfl (hb hby d11_35) rfl (l' := #[.val (.ref x), .val (.int (0 : Int32)), .val (.int (-1 : Int32)), .val (.int ((1 : Int32) + (1 : Int32)))]) rfl ?_
      show Steps p.tables e below (T5.setTop (mkF m 38 #[.val (.ref x), .val (.int (0 : Int32)), .val (.int (-1 : Int32)), .val (.int ((1 : Int32) + (1 : Int32)))] [])) _
      rw [show ((1 : Int32) + (1 : Int32)) = (2 : Int32) from by decide]
      refine XS.goto X5.here hx rfl (pc0 := 38) (pc' := 16) rfl (hb hby d11_38) (by decide) (by decide) ?_
      refine XS.iloadN X5.here hx rfl (hb hby d11_16) rfl ?_
      refine XS.aloadN X5.here hx rfl (hb hby d11_17) rfl rfl ?_
      refine st9.trans ?_
      refine XS.icmpNo X9.here hx rfl (hb hby d11_21) rfl (tlt (by decide : (2 : Int32) < (3 : Int32))).2.1 ?_
      refine XS.aloadN X9.here hx rfl (hb hby d11_24) rfl rfl ?_
      refine XS.iloadN X9.here hx rfl (hb hby d11_25) rfl ?_
      refine st10.trans ?_
      refine st11 _ ?_
      exact k)
    by_cases hc32_13 : (own_in c2) = (0 : Int32)
    · obtain ⟨cq14, kq14, qa14, qb14, qc14⟩ := isOf hZ q11 Ex
      obtain ⟨_, _, ⟨T14, L14, k14, n14⟩, -, X14, ⟨Lc14, hQ14, l14, y14, z14⟩, st14⟩ := X11.virtualBack hx (y := (⟨"java/lang/String", "length", "()I"⟩ : MethodName)) (z := (⟨"java/lang/String", "length", "()I"⟩ : MethodName)) hown (mvT hZ (wd75 hw)) (mvT hZ (wd76 hw)) (notFace_of_selects (args := #[]) (mvT hZ (wd78 hw))) (mvT hZ (wd78 hw)) (mvT hZ (wd77 hw)) (by decide) (StrChars.Road.lenW (W := 1) hZ hln (kI := 4) (wd9 hw) Ex Vv Cc Kk hcd hbd Sz hz (Nat.le_of_ble_eq_true rfl) (by decide) (by decide)) qa14 qc14 (g := (mkF m 50 #[.val (.ref x), .val (.int (0 : Int32)), .val (.int (-1 : Int32)), .val (.int (2 : Int32))] [(.ref x), (.int (2 : Int32))])) rfl (by rw [hml]; rfl) (Steps.refl _) (argsL := []) (rest := [(.int (2 : Int32))]) (lenOf pd_len rfl) rfl (by show 2 * 0 + _ ≤ _; exact Nat.le_of_eq rfl) (hb hby d11_50) (fun _ _ => ⟨rfl, q11, (by decide : 0 + 0 ≤ _), (by decide : 0 + 0 ≤ _)⟩)
      dsimp only [Pt.U, Pt.locs, Pt.cells, Pt.slots] at X14 l14 y14 z14 st14 hQ14
      subst l14 y14 z14
      obtain ⟨rfl, rfl, q14⟩ := hQ14
      have N14 := Fr.app N11 (Fr.nil n0)
      obtain ⟨cq15, kq15, qa15, qb15, qc15⟩ := isOf hZ q14 Ex
      obtain ⟨_, _, ⟨T15, L15, k15, n15⟩, -, X15, ⟨Lc15, hQ15, l15, y15, z15⟩, st15⟩ := X14.virtualBack hx (y := (⟨"java/lang/String", "charAt", "(I)C"⟩ : MethodName)) (z := (⟨"java/lang/String", "charAt", "(I)C"⟩ : MethodName)) hown (mvT hZ (wd53 hw)) (mvT hZ (wd54 hw)) (notFace_of_selects (args := #[]) (mvT hZ (wd56 hw))) (mvT hZ (wd56 hw)) (mvT hZ (wd55 hw)) (by decide) (StrChars.Road.chN (W := 0) hZ hch (kI := 4) (wd9 hw) Ex Vv Cc Kk hcd hbd Sz hz Sf hfm (Nat.le_of_ble_eq_true rfl) (i := 2) (Nat.le_of_ble_eq_true rfl) (j := (2 : Int32)) (by decide) (by decide) (by decide)) qa15 qc15 (g := (mkF m 58 #[.val (.ref x), .val (.int (0 : Int32)), .val (.int (-1 : Int32)), .val (.int (2 : Int32))] [(.int (2 : Int32)), (.ref x)])) rfl (by rw [hml]; rfl) (Steps.refl _) (argsL := [(.int (2 : Int32))]) (rest := []) (lenOf pd_cha rfl) rfl (by show 2 * 0 + _ ≤ _; exact Nat.le_of_eq rfl) (hb hby d11_58) (fun _ _ => ⟨rfl, q14, (by decide : 0 + 0 ≤ _), (by decide : 0 + 0 ≤ _)⟩)
      dsimp only [Pt.U, Pt.locs, Pt.cells, Pt.slots] at X15 l15 y15 z15 st15 hQ15
      subst l15 y15 z15
      obtain ⟨rfl, rfl, q15⟩ := hQ15
      have N15 := Fr.app N14 (Fr.nil n0)
      have pre16 : ∀ t, Steps p.tables e below (T15.setTop (mkF m 63 #[.val (.ref x), .val (.int (0 : Int32)), .val (.int (-1 : Int32)), .val (.int (2 : Int32))] [(.int (125 : Int32)), (.int c2)])) t → Steps p.tables e below (s₁.setTop (entryFrame m #[(.ref x), (.int (0 : Int32))] 4)) t := fun t k => pre12 t (by
        show Steps p.tables e below (T11.setTop (mkF m 32 #[.val (.ref x), .val (.int (0 : Int32)), .val (.int (-1 : Int32)), .val (.int (2 : Int32))] [(.int (own_in c2))])) _
        refine XS.ifYes X11.here hx rfl (pc0 := 32) (pc' := 41) rfl (hb hby d11_32) rfl ((if0 _ _).trans (teq hc32_13).1) (by decide) (by decide) ?_
        refine XS.iloadN X11.here hx rfl (hb hby d11_41) rfl ?_
        refine XS.iloadN X11.here hx rfl (hb hby d11_42) rfl ?_
        refine XS.iconst X11.here hx rfl (hb hby d11_43) ?_
        refine XS.iadd X11.here hx rfl (hb hby d11_44) rfl ?_
        show Steps p.tables e below (T11.setTop (mkF m 45 #[.val (.ref x), .val (.int (0 : Int32)), .val (.int (-1 : Int32)), .val (.int (2 : Int32))] [(.int ((0 : Int32) + (1 : Int32))), (.int (2 : Int32))])) _
        rw [show ((0 : Int32) + (1 : Int32)) = (1 : Int32) from by decide]
        refine XS.icmpNo X11.here hx rfl (hb hby d11_45) rfl (tlt (by decide : (1 : Int32) < (2 : Int32))).2.2.2 ?_
        refine XS.iloadN X11.here hx rfl (hb hby d11_48) rfl ?_
        refine XS.aloadN X11.here hx rfl (hb hby d11_49) rfl rfl ?_
        refine st14.trans ?_
        refine XS.icmpNo X14.here hx rfl (hb hby d11_53) rfl (tlt (by decide : (2 : Int32) < (3 : Int32))).2.1 ?_
        refine XS.aloadN X14.here hx rfl (hb hby d11_56) rfl rfl ?_
        refine XS.iloadN X14.here hx rfl (hb hby d11_57) rfl ?_
        refine st15.trans ?_
        refine XS.bipush X15.here hx rfl (hb hby d11_61) ?_
        exact k)
      by_cases hc63 : c2 = (125 : Int32)
      · have pre17 : ∀ t, Steps p.tables e below (T15.setTop (mkF m 69 #[.val (.ref x), .val (.int (0 : Int32)), .val (.int (2 : Int32)), .val (.int (2 : Int32))] [(.int (2 : Int32))])) t → Steps p.tables e below (s₁.setTop (entryFrame m #[(.ref x), (.int (0 : Int32))] 4)) t := fun t k => pre16 t (by
          show Steps p.tables e below (T15.setTop (mkF m 63 #[.val (.ref x), .val (.int (0 : Int32)), .val (.int (-1 : Int32)), .val (.int (2 : Int32))] [(.int (125 : Int32)), (.int c2)])) _
          refine XS.icmpNo X15.here hx rfl (hb hby d11_63) rfl (teq hc63).2 ?_
          refine XS.iloadN X15.here hx rfl (hb hby d11_66) rfl ?_
          refine XS.istoreN X15.here hx rfl (hb hby d11_67) rfl (l' := #[.val (.ref x), .val (.int (0 : Int32)), .val (.int (2 : Int32)), .val (.int (2 : Int32))]) rfl ?_
          refine XS.iloadN X15.here hx rfl (hb hby d11_68) rfl ?_
          exact k)
        obtain ⟨fs18, hr18, hrun18, hended18, hW18, hsame18⟩ := X15.leave (v := some (.int (2 : Int32))) (fun h => by rw [Bd.returns] at h; cases h)
        refine ⟨_, _, pre17 _ ?_, hrun18, hended18, _, _, rfl, ?_, ⟨_, rfl⟩, hW18, hsame18.mono (by decide) (by decide)⟩
        · show Steps p.tables e below (T15.setTop (mkF m 69 #[.val (.ref x), .val (.int (0 : Int32)), .val (.int (2 : Int32)), .val (.int (2 : Int32))] [(.int (2 : Int32))])) _
          exact retOut X15 hx (t := .int) Bd.returns rfl (Or.inl ⟨rfl, Or.inl rfl, _, rfl⟩) (hb hby d11_69) hr18
        · show Qpe3 Z x c0 c1 c2 h0 n0 _ T15.heap _
          rw [q15]
          exact ⟨_, rfl, N15, rfl, fun _ => ⟨hc9, hc32, hc63⟩, fun _ => by decide⟩
      have pre19 : ∀ t, Steps p.tables e below (T15.setTop (mkF m 69 #[.val (.ref x), .val (.int (0 : Int32)), .val (.int (-1 : Int32)), .val (.int (2 : Int32))] [(.int (-1 : Int32))])) t → Steps p.tables e below (s₁.setTop (entryFrame m #[(.ref x), (.int (0 : Int32))] 4)) t := fun t k => pre16 t (by
        show Steps p.tables e below (T15.setTop (mkF m 63 #[.val (.ref x), .val (.int (0 : Int32)), .val (.int (-1 : Int32)), .val (.int (2 : Int32))] [(.int (125 : Int32)), (.int c2)])) _
        refine XS.icmpYes X15.here hx rfl (pc0 := 63) (pc' := 68) rfl (hb hby d11_63) rfl (feq hc63).2 (by decide) (by decide) ?_
        refine XS.iloadN X15.here hx rfl (hb hby d11_68) rfl ?_
        exact k)
      obtain ⟨fs20, hr20, hrun20, hended20, hW20, hsame20⟩ := X15.leave (v := some (.int (-1 : Int32))) (fun h => by rw [Bd.returns] at h; cases h)
      refine ⟨_, _, pre19 _ ?_, hrun20, hended20, _, _, rfl, ?_, ⟨_, rfl⟩, hW20, hsame20.mono (by decide) (by decide)⟩
      · show Steps p.tables e below (T15.setTop (mkF m 69 #[.val (.ref x), .val (.int (0 : Int32)), .val (.int (-1 : Int32)), .val (.int (2 : Int32))] [(.int (-1 : Int32))])) _
        exact retOut X15 hx (t := .int) Bd.returns rfl (Or.inl ⟨rfl, Or.inl rfl, _, rfl⟩) (hb hby d11_69) hr20
      · show Qpe3 Z x c0 c1 c2 h0 n0 _ T15.heap _
        rw [q15]
        exact ⟨_, rfl, N15, rfl, fun q => absurd q (by decide), fun q => by
          obtain ⟨w0, w1, w2⟩ := q
          first | contradiction | (exfalso; simp_all [own_in]; done)⟩
    obtain ⟨cq21, kq21, qa21, qb21, qc21⟩ := isOf hZ q11 Ex
    obtain ⟨_, _, ⟨T21, L21, k21, n21⟩, -, X21, ⟨Lc21, hQ21, l21, y21, z21⟩, st21⟩ := X11.virtualBack hx (y := (⟨"java/lang/String", "length", "()I"⟩ : MethodName)) (z := (⟨"java/lang/String", "length", "()I"⟩ : MethodName)) hown (mvT hZ (wd75 hw)) (mvT hZ (wd76 hw)) (notFace_of_selects (args := #[]) (mvT hZ (wd78 hw))) (mvT hZ (wd78 hw)) (mvT hZ (wd77 hw)) (by decide) (StrChars.Road.lenW (W := 1) hZ hln (kI := 4) (wd9 hw) Ex Vv Cc Kk hcd hbd Sz hz (Nat.le_of_ble_eq_true rfl) (by decide) (by decide)) qa21 qc21 (g := (mkF m 18 #[.val (.ref x), .val (.int (0 : Int32)), .val (.int (-1 : Int32)), .val (.int (3 : Int32))] [(.ref x), (.int (3 : Int32))])) rfl (by rw [hml]; rfl) (Steps.refl _) (argsL := []) (rest := [(.int (3 : Int32))]) (lenOf pd_len rfl) rfl (by show 2 * 0 + _ ≤ _; exact Nat.le_of_eq rfl) (hb hby d11_18) (fun _ _ => ⟨rfl, q11, (by decide : 0 + 0 ≤ _), (by decide : 0 + 0 ≤ _)⟩)
    dsimp only [Pt.U, Pt.locs, Pt.cells, Pt.slots] at X21 l21 y21 z21 st21 hQ21
    subst l21 y21 z21
    obtain ⟨rfl, rfl, q21⟩ := hQ21
    have N21 := Fr.app N11 (Fr.nil n0)
    obtain ⟨cq22, kq22, qa22, qb22, qc22⟩ := isOf hZ q21 Ex
    obtain ⟨_, _, ⟨T22, L22, k22, n22⟩, -, X22, ⟨Lc22, hQ22, l22, y22, z22⟩, st22⟩ := X21.virtualBack hx (y := (⟨"java/lang/String", "length", "()I"⟩ : MethodName)) (z := (⟨"java/lang/String", "length", "()I"⟩ : MethodName)) hown (mvT hZ (wd75 hw)) (mvT hZ (wd76 hw)) (notFace_of_selects (args := #[]) (mvT hZ (wd78 hw))) (mvT hZ (wd78 hw)) (mvT hZ (wd77 hw)) (by decide) (StrChars.Road.lenW (W := 1) hZ hln (kI := 4) (wd9 hw) Ex Vv Cc Kk hcd hbd Sz hz (Nat.le_of_ble_eq_true rfl) (by decide) (by decide)) qa22 qc22 (g := (mkF m 50 #[.val (.ref x), .val (.int (0 : Int32)), .val (.int (-1 : Int32)), .val (.int (3 : Int32))] [(.ref x), (.int (3 : Int32))])) rfl (by rw [hml]; rfl) (Steps.refl _) (argsL := []) (rest := [(.int (3 : Int32))]) (lenOf pd_len rfl) rfl (by show 2 * 0 + _ ≤ _; exact Nat.le_of_eq rfl) (hb hby d11_50) (fun _ _ => ⟨rfl, q21, (by decide : 0 + 0 ≤ _), (by decide : 0 + 0 ≤ _)⟩)
    dsimp only [Pt.U, Pt.locs, Pt.cells, Pt.slots] at X22 l22 y22 z22 st22 hQ22
    subst l22 y22 z22
    obtain ⟨rfl, rfl, q22⟩ := hQ22
    have N22 := Fr.app N21 (Fr.nil n0)
    have pre23 : ∀ t, Steps p.tables e below (T22.setTop (mkF m 69 #[.val (.ref x), .val (.int (0 : Int32)), .val (.int (-1 : Int32)), .val (.int (3 : Int32))] [(.int (-1 : Int32))])) t → Steps p.tables e below (s₁.setTop (entryFrame m #[(.ref x), (.int (0 : Int32))] 4)) t := fun t k => pre12 t (by
      show Steps p.tables e below (T11.setTop (mkF m 32 #[.val (.ref x), .val (.int (0 : Int32)), .val (.int (-1 : Int32)), .val (.int (2 : Int32))] [(.int (own_in c2))])) _
      refine XS.ifNo X11.here hx rfl (hb hby d11_32) rfl ((if0 _ _).trans (feq hc32_13).1) ?_
      refine XS.iinc X11.here hx rfl (hb hby d11_35) rfl (l' := #[.val (.ref x), .val (.int (0 : Int32)), .val (.int (-1 : Int32)), .val (.int ((2 : Int32) + (1 : Int32)))]) rfl ?_
      show Steps p.tables e below (T11.setTop (mkF m 38 #[.val (.ref x), .val (.int (0 : Int32)), .val (.int (-1 : Int32)), .val (.int ((2 : Int32) + (1 : Int32)))] [])) _
      rw [show ((2 : Int32) + (1 : Int32)) = (3 : Int32) from by decide]
      refine XS.goto X11.here hx rfl (pc0 := 38) (pc' := 16) rfl (hb hby d11_38) (by decide) (by decide) ?_
      refine XS.iloadN X11.here hx rfl (hb hby d11_16) rfl ?_
      refine XS.aloadN X11.here hx rfl (hb hby d11_17) rfl rfl ?_
      refine st21.trans ?_
      refine XS.icmpYes X21.here hx rfl (pc0 := 21) (pc' := 41) rfl (hb hby d11_21) rfl (flt (by decide : ¬ ((3 : Int32) < (3 : Int32)))).2.1 (by decide) (by decide) ?_
      refine XS.iloadN X21.here hx rfl (hb hby d11_41) rfl ?_
      refine XS.iloadN X21.here hx rfl (hb hby d11_42) rfl ?_
      refine XS.iconst X21.here hx rfl (hb hby d11_43) ?_
      refine XS.iadd X21.here hx rfl (hb hby d11_44) rfl ?_
      show Steps p.tables e below (T21.setTop (mkF m 45 #[.val (.ref x), .val (.int (0 : Int32)), .val (.int (-1 : Int32)), .val (.int (3 : Int32))] [(.int ((0 : Int32) + (1 : Int32))), (.int (3 : Int32))])) _
      rw [show ((0 : Int32) + (1 : Int32)) = (1 : Int32) from by decide]
      refine XS.icmpNo X21.here hx rfl (hb hby d11_45) rfl (tlt (by decide : (1 : Int32) < (3 : Int32))).2.2.2 ?_
      refine XS.iloadN X21.here hx rfl (hb hby d11_48) rfl ?_
      refine XS.aloadN X21.here hx rfl (hb hby d11_49) rfl rfl ?_
      refine st22.trans ?_
      refine XS.icmpYes X22.here hx rfl (pc0 := 53) (pc' := 68) rfl (hb hby d11_53) rfl (flt (by decide : ¬ ((3 : Int32) < (3 : Int32)))).2.1 (by decide) (by decide) ?_
      refine XS.iloadN X22.here hx rfl (hb hby d11_68) rfl ?_
      exact k)
    obtain ⟨fs24, hr24, hrun24, hended24, hW24, hsame24⟩ := X22.leave (v := some (.int (-1 : Int32))) (fun h => by rw [Bd.returns] at h; cases h)
    refine ⟨_, _, pre23 _ ?_, hrun24, hended24, _, _, rfl, ?_, ⟨_, rfl⟩, hW24, hsame24.mono (by decide) (by decide)⟩
    · show Steps p.tables e below (T22.setTop (mkF m 69 #[.val (.ref x), .val (.int (0 : Int32)), .val (.int (-1 : Int32)), .val (.int (3 : Int32))] [(.int (-1 : Int32))])) _
      exact retOut X22 hx (t := .int) Bd.returns rfl (Or.inl ⟨rfl, Or.inl rfl, _, rfl⟩) (hb hby d11_69) hr24
    · show Qpe3 Z x c0 c1 c2 h0 n0 _ T22.heap _
      rw [q22]
      exact ⟨_, rfl, N22, rfl, fun q => absurd q (by decide), fun q => by
        obtain ⟨w0, w1, w2⟩ := q
        first | contradiction | (exfalso; simp_all [own_in]; done)⟩
  have pre25 : ∀ t, Steps p.tables e below (T1.setTop (mkF m 69 #[.val (.ref x), .val (.int (0 : Int32)), .val (.int (-1 : Int32)), .unset] [(.int (-1 : Int32))])) t → Steps p.tables e below (s₁.setTop (entryFrame m #[(.ref x), (.int (0 : Int32))] 4)) t := fun t k => pre2 t (by
    show Steps p.tables e below (T1.setTop (mkF m 9 #[.val (.ref x), .val (.int (0 : Int32)), .val (.int (-1 : Int32)), .unset] [(.int (123 : Int32)), (.int c0)])) _
    refine XS.icmpYes X1.here hx rfl (pc0 := 9) (pc' := 68) rfl (hb hby d11_9) rfl (feq hc9).2 (by decide) (by decide) ?_
    refine XS.iloadN X1.here hx rfl (hb hby d11_68) rfl ?_
    exact k)
  obtain ⟨fs26, hr26, hrun26, hended26, hW26, hsame26⟩ := X1.leave (v := some (.int (-1 : Int32))) (fun h => by rw [Bd.returns] at h; cases h)
  refine ⟨_, _, pre25 _ ?_, hrun26, hended26, _, _, rfl, ?_, ⟨_, rfl⟩, hW26, hsame26.mono (by decide) (by decide)⟩
  · show Steps p.tables e below (T1.setTop (mkF m 69 #[.val (.ref x), .val (.int (0 : Int32)), .val (.int (-1 : Int32)), .unset] [(.int (-1 : Int32))])) _
    exact retOut X1 hx (t := .int) Bd.returns rfl (Or.inl ⟨rfl, Or.inl rfl, _, rfl⟩) (hb hby d11_69) hr26
  · show Qpe3 Z x c0 c1 c2 h0 n0 _ T1.heap _
    rw [q1]
    exact ⟨_, rfl, N1, rfl, fun q => absurd q (by decide), fun q => by
      obtain ⟨w0, w1, w2⟩ := q
      first | contradiction | (exfalso; simp_all [own_in]; done)⟩

theorem pd_pe4 : parseMethodDescriptor "(Ljava/lang/String;I)I" = some ⟨[(.object "java/lang/String"), .int], some .int⟩ := by decide +kernel

theorem ef_pe4 (m : MethodId) (x0 : Addr) (x1 : Int32)  : entryFrame m #[(.ref x0), (.int x1)] 4 = mkF m 0 #[.val (.ref x0), .val (.int x1), .unset, .unset] [] := by first | (simp [entryFrame, mkF, argsToLocals, Value.category]; done) | rfl
def Qpe4 (Z : State) (x : Addr) (c0 c1 c2 c3 : Int32) (h0 : Heap) (n0 : Nat) (v : Option Value) (h : Heap) (L : List Loc) : Prop := ∃ r, v = some (.int r) ∧ Fr n0 L ∧ h = h0 ∧ (r = (3 : Int32) ↔ own_sole4 c0 c1 c2 c3)
set_option maxRecDepth 65536 in
set_option maxHeartbeats 40000000 in
theorem rmpe4 (l : Launch) (Z : State) (a0 : Array Value) (hw : ∀ d ∈ tables_1, d.before a0 Z = true) (ws : List Jvm.Cond) (x : Addr) (c0 c1 c2 c3 : Int32) (h0 : Heap) (n0 : Nat) (Z0 : n0 ≤ h0.size) (SX : own_str Z h0 x [c0, c1, c2, c3]) (EN : own_env Z h0) (hpr : own_pr [c0, c1, c2, c3]) :
    MetFree l (⟨"com/example/oxpecker/oxpecker/MessageTemplate", "parameterEnd", "(Ljava/lang/String;I)I"⟩ : MethodName) (head1 (Jvm.Cond.code (⟨"com/example/oxpecker/oxpecker/MessageTemplate", "parameterEnd", "(Ljava/lang/String;I)I"⟩ : MethodName) prog_5_method_9_code 4 (some .int) :: ws) ({ frames := 4, cells := 0, slots := 0, locals := 53 } : Room)) (fun a U => a = #[(.ref x), (.int (0 : Int32))] ∧ Z.Warmed39 U.vm ∧ U.heap = h0) (fun _ _ _ _ _ => True) (fun _ U o U' => ∃ v L, o = .returned v ∧ Qpe4 Z x c0 c1 c2 c3 h0 n0 v U'.heap L ∧ FrameEnd U o U' L ({ frames := 4, cells := 0, slots := 0, locals := 53 } : Room).cells ({ frames := 4, cells := 0, slots := 0, locals := 53 } : Room).slots) := by
  refine MetFree.of_bodySF (plainFor_of_name pn_k1) hisR ?_
  intro p e s m args below meth c s₁ Bd hml0 hP hK
  obtain ⟨rfl, hZ, hh⟩ := hP
  have hx := Bd.exec
  have hby := Bd.bytes
  have hml : c.maxLocals = 4 := hml0
  have hown : s.vm.findClass "com/example/oxpecker/oxpecker/MessageTemplate" = some m.cls := findClass_of_methodNamed Bd.named
  have hnm := (name_of_methodNamed Bd.named Bd.method).1
  have X0 : Stand p l e ({ frames := 4, cells := 0, slots := 0, locals := 53 } : Room) s m #[(.ref x), (.int (0 : Int32))] below meth c s₁ [] 0 0 := Stand.of_body Bd
  have e0 : s₁.heap = h0 := by rw [← hh, Bd.state]; rfl
  have N0 := Fr.nil n0
  have pre0 : ∀ t, Steps p.tables e below (s₁.setTop (mkF m 0 #[.val (.ref x), .val (.int (0 : Int32)), .unset, .unset] [])) t → Steps p.tables e below (s₁.setTop (entryFrame m #[(.ref x), (.int (0 : Int32))] 4)) t := fun t k => castTop (ef_pe4 m x (0 : Int32)) k
  obtain ⟨tv, kb, Ex, Vv, Cc, Kk⟩ := SX
  obtain ⟨z, fm, Sz, hz, Sf, hfm⟩ := EN
  have hcd := own_cod hpr
  have hbd := own_up hpr
  have hln : ∀ d ∈ StrChars.Road.wordsLen, d.before a0 Z = true := fun d hd => hw d ((by decide +kernel : ∀ d ∈ StrChars.Road.wordsLen, d ∈ tables_1) d hd)
  have hch : ∀ d ∈ StrChars.Road.wordsChN, d.before a0 Z = true := fun d hd => hw d ((by decide +kernel : ∀ d ∈ StrChars.Road.wordsChN, d ∈ tables_1) d hd)
  have hep : ∀ d ∈ StrChars.Road.wordsEmp, d.before a0 Z = true := fun d hd => hw d ((by decide +kernel : ∀ d ∈ StrChars.Road.wordsEmp, d ∈ tables_1) d hd)
  obtain ⟨cq1, kq1, qa1, qb1, qc1⟩ := isOf hZ e0 Ex
  obtain ⟨_, _, ⟨T1, L1, k1, n1⟩, -, X1, ⟨Lc1, hQ1, l1, y1, z1⟩, st1⟩ := X0.virtualBack hx (y := (⟨"java/lang/String", "charAt", "(I)C"⟩ : MethodName)) (z := (⟨"java/lang/String", "charAt", "(I)C"⟩ : MethodName)) hown (mvT hZ (wd53 hw)) (mvT hZ (wd54 hw)) (notFace_of_selects (args := #[]) (mvT hZ (wd56 hw))) (mvT hZ (wd56 hw)) (mvT hZ (wd55 hw)) (by decide) (StrChars.Road.chN (W := 0) hZ hch (kI := 4) (wd9 hw) Ex Vv Cc Kk hcd hbd Sz hz Sf hfm (Nat.le_of_ble_eq_true rfl) (i := 0) (Nat.le_of_ble_eq_true rfl) (j := (0 : Int32)) (by decide) (by decide) (by decide)) qa1 qc1 (g := (mkF m 4 #[.val (.ref x), .val (.int (0 : Int32)), .val (.int (-1 : Int32)), .unset] [(.int (0 : Int32)), (.ref x)])) rfl (by rw [hml]; rfl) (Steps.refl _) (argsL := [(.int (0 : Int32))]) (rest := []) (lenOf pd_cha rfl) rfl (by show 2 * 0 + _ ≤ _; exact Nat.le_of_eq rfl) (hb hby d11_4) (fun _ _ => ⟨rfl, e0, (by decide : 0 + 0 ≤ _), (by decide : 0 + 0 ≤ _)⟩)
  dsimp only [Pt.U, Pt.locs, Pt.cells, Pt.slots] at X1 l1 y1 z1 st1 hQ1
  subst l1 y1 z1
  obtain ⟨rfl, rfl, q1⟩ := hQ1
  have N1 := Fr.app N0 (Fr.nil n0)
  have pre2 : ∀ t, Steps p.tables e below (T1.setTop (mkF m 9 #[.val (.ref x), .val (.int (0 : Int32)), .val (.int (-1 : Int32)), .unset] [(.int (123 : Int32)), (.int c0)])) t → Steps p.tables e below (s₁.setTop (entryFrame m #[(.ref x), (.int (0 : Int32))] 4)) t := fun t k => pre0 t (by
    show Steps p.tables e below (s₁.setTop (mkF m 0 #[.val (.ref x), .val (.int (0 : Int32)), .unset, .unset] [])) _
    refine XS.iconst X0.here hx rfl (hb hby d11_0) ?_
    refine XS.istoreN X0.here hx rfl (hb hby d11_1) rfl (l' := #[.val (.ref x), .val (.int (0 : Int32)), .val (.int (-1 : Int32)), .unset]) rfl ?_
    refine XS.aloadN X0.here hx rfl (hb hby d11_2) rfl rfl ?_
    refine XS.iloadN X0.here hx rfl (hb hby d11_3) rfl ?_
    refine st1.trans ?_
    refine XS.bipush X1.here hx rfl (hb hby d11_7) ?_
    exact k)
  by_cases hc9 : c0 = (123 : Int32)
  · obtain ⟨cq3, kq3, qa3, qb3, qc3⟩ := isOf hZ q1 Ex
    obtain ⟨_, _, ⟨T3, L3, k3, n3⟩, -, X3, ⟨Lc3, hQ3, l3, y3, z3⟩, st3⟩ := X1.virtualBack hx (y := (⟨"java/lang/String", "length", "()I"⟩ : MethodName)) (z := (⟨"java/lang/String", "length", "()I"⟩ : MethodName)) hown (mvT hZ (wd75 hw)) (mvT hZ (wd76 hw)) (notFace_of_selects (args := #[]) (mvT hZ (wd78 hw))) (mvT hZ (wd78 hw)) (mvT hZ (wd77 hw)) (by decide) (StrChars.Road.lenW (W := 1) hZ hln (kI := 4) (wd9 hw) Ex Vv Cc Kk hcd hbd Sz hz (Nat.le_of_ble_eq_true rfl) (by decide) (by decide)) qa3 qc3 (g := (mkF m 18 #[.val (.ref x), .val (.int (0 : Int32)), .val (.int (-1 : Int32)), .val (.int (1 : Int32))] [(.ref x), (.int (1 : Int32))])) rfl (by rw [hml]; rfl) (Steps.refl _) (argsL := []) (rest := [(.int (1 : Int32))]) (lenOf pd_len rfl) rfl (by show 2 * 0 + _ ≤ _; exact Nat.le_of_eq rfl) (hb hby d11_18) (fun _ _ => ⟨rfl, q1, (by decide : 0 + 0 ≤ _), (by decide : 0 + 0 ≤ _)⟩)
    dsimp only [Pt.U, Pt.locs, Pt.cells, Pt.slots] at X3 l3 y3 z3 st3 hQ3
    subst l3 y3 z3
    obtain ⟨rfl, rfl, q3⟩ := hQ3
    have N3 := Fr.app N1 (Fr.nil n0)
    obtain ⟨cq4, kq4, qa4, qb4, qc4⟩ := isOf hZ q3 Ex
    obtain ⟨_, _, ⟨T4, L4, k4, n4⟩, -, X4, ⟨Lc4, hQ4, l4, y4, z4⟩, st4⟩ := X3.virtualBack hx (y := (⟨"java/lang/String", "charAt", "(I)C"⟩ : MethodName)) (z := (⟨"java/lang/String", "charAt", "(I)C"⟩ : MethodName)) hown (mvT hZ (wd53 hw)) (mvT hZ (wd54 hw)) (notFace_of_selects (args := #[]) (mvT hZ (wd56 hw))) (mvT hZ (wd56 hw)) (mvT hZ (wd55 hw)) (by decide) (StrChars.Road.chN (W := 0) hZ hch (kI := 4) (wd9 hw) Ex Vv Cc Kk hcd hbd Sz hz Sf hfm (Nat.le_of_ble_eq_true rfl) (i := 1) (Nat.le_of_ble_eq_true rfl) (j := (1 : Int32)) (by decide) (by decide) (by decide)) qa4 qc4 (g := (mkF m 26 #[.val (.ref x), .val (.int (0 : Int32)), .val (.int (-1 : Int32)), .val (.int (1 : Int32))] [(.int (1 : Int32)), (.ref x)])) rfl (by rw [hml]; rfl) (Steps.refl _) (argsL := [(.int (1 : Int32))]) (rest := []) (lenOf pd_cha rfl) rfl (by show 2 * 0 + _ ≤ _; exact Nat.le_of_eq rfl) (hb hby d11_26) (fun _ _ => ⟨rfl, q3, (by decide : 0 + 0 ≤ _), (by decide : 0 + 0 ≤ _)⟩)
    dsimp only [Pt.U, Pt.locs, Pt.cells, Pt.slots] at X4 l4 y4 z4 st4 hQ4
    subst l4 y4 z4
    obtain ⟨rfl, rfl, q4⟩ := hQ4
    have N4 := Fr.app N3 (Fr.nil n0)
    obtain ⟨_, _, ⟨T5, L5, k5, n5⟩, -, X5, ⟨Lc5, hQ5, l5, y5, z5⟩, st5⟩ := Jvm.LawKit.callS X4 hx (y := (⟨"com/example/oxpecker/oxpecker/MessageTemplate", "isInName", "(C)Z"⟩ : MethodName)) hown (mvT hZ (wd85 hw)) (mvT hZ (wd86 hw)) (mvT hZ (wd32 hw)) (mvT hZ (wd87 hw)) (by decide) (backOf (W := 0) (rmin l Z a0 hw [] c1 h0 n0 Z0) hZ (wd87 hw) (wd32 hw) (by decide) (by decide)) (g := (mkF m 29 #[.val (.ref x), .val (.int (0 : Int32)), .val (.int (-1 : Int32)), .val (.int (1 : Int32))] [(.int c1)])) rfl (by rw [hml]; rfl) (argsL := [(.int c1)]) (rest := []) (lenOf pd_in rfl) rfl (by show 2 * 0 + _ ≤ _; exact Nat.le_of_eq rfl) (hb hby d11_29) (fun _ _ => ⟨rfl, q4, (by decide : 0 + 0 ≤ _), (by decide : 0 + 0 ≤ _)⟩)
    dsimp only [Pt.U, Pt.locs, Pt.cells, Pt.slots] at X5 l5 y5 z5 st5 hQ5
    subst l5 y5 z5
    obtain ⟨rfl, N5q, q5⟩ := hQ5
    have N5 := Fr.app N4 N5q
    have pre6 : ∀ t, Steps p.tables e below (T5.setTop (mkF m 32 #[.val (.ref x), .val (.int (0 : Int32)), .val (.int (-1 : Int32)), .val (.int (1 : Int32))] [(.int (own_in c1))])) t → Steps p.tables e below (s₁.setTop (entryFrame m #[(.ref x), (.int (0 : Int32))] 4)) t := fun t k => pre2 t (by
      show Steps p.tables e below (T1.setTop (mkF m 9 #[.val (.ref x), .val (.int (0 : Int32)), .val (.int (-1 : Int32)), .unset] [(.int (123 : Int32)), (.int c0)])) _
      refine XS.icmpNo X1.here hx rfl (hb hby d11_9) rfl (teq hc9).2 ?_
      refine XS.iloadN X1.here hx rfl (hb hby d11_12) rfl ?_
      refine XS.iconst X1.here hx rfl (hb hby d11_13) ?_
      refine XS.iadd X1.here hx rfl (hb hby d11_14) rfl ?_
      show Steps p.tables e below (T1.setTop (mkF m 15 #[.val (.ref x), .val (.int (0 : Int32)), .val (.int (-1 : Int32)), .unset] [(.int ((0 : Int32) + (1 : Int32)))])) _
      rw [show ((0 : Int32) + (1 : Int32)) = (1 : Int32) from by decide]
      refine XS.istoreN X1.here hx rfl (hb hby d11_15) rfl (l' := #[.val (.ref x), .val (.int (0 : Int32)), .val (.int (-1 : Int32)), .val (.int (1 : Int32))]) rfl ?_
      refine XS.iloadN X1.here hx rfl (hb hby d11_16) rfl ?_
      refine XS.aloadN X1.here hx rfl (hb hby d11_17) rfl rfl ?_
      refine st3.trans ?_
      refine XS.icmpNo X3.here hx rfl (hb hby d11_21) rfl (tlt (by decide : (1 : Int32) < (4 : Int32))).2.1 ?_
      refine XS.aloadN X3.here hx rfl (hb hby d11_24) rfl rfl ?_
      refine XS.iloadN X3.here hx rfl (hb hby d11_25) rfl ?_
      refine st4.trans ?_
      refine st5 _ ?_
      exact k)
    by_cases hc32 : (own_in c1) = (0 : Int32)
    · have pre7 : ∀ t, Steps p.tables e below (T5.setTop (mkF m 69 #[.val (.ref x), .val (.int (0 : Int32)), .val (.int (-1 : Int32)), .val (.int (1 : Int32))] [(.int (-1 : Int32))])) t → Steps p.tables e below (s₁.setTop (entryFrame m #[(.ref x), (.int (0 : Int32))] 4)) t := fun t k => pre6 t (by
        show Steps p.tables e below (T5.setTop (mkF m 32 #[.val (.ref x), .val (.int (0 : Int32)), .val (.int (-1 : Int32)), .val (.int (1 : Int32))] [(.int (own_in c1))])) _
        refine XS.ifYes X5.here hx rfl (pc0 := 32) (pc' := 41) rfl (hb hby d11_32) rfl ((if0 _ _).trans (teq hc32).1) (by decide) (by decide) ?_
        refine XS.iloadN X5.here hx rfl (hb hby d11_41) rfl ?_
        refine XS.iloadN X5.here hx rfl (hb hby d11_42) rfl ?_
        refine XS.iconst X5.here hx rfl (hb hby d11_43) ?_
        refine XS.iadd X5.here hx rfl (hb hby d11_44) rfl ?_
        show Steps p.tables e below (T5.setTop (mkF m 45 #[.val (.ref x), .val (.int (0 : Int32)), .val (.int (-1 : Int32)), .val (.int (1 : Int32))] [(.int ((0 : Int32) + (1 : Int32))), (.int (1 : Int32))])) _
        rw [show ((0 : Int32) + (1 : Int32)) = (1 : Int32) from by decide]
        refine XS.icmpYes X5.here hx rfl (pc0 := 45) (pc' := 68) rfl (hb hby d11_45) rfl (flt (by decide : ¬ ((1 : Int32) < (1 : Int32)))).2.2.2 (by decide) (by decide) ?_
        refine XS.iloadN X5.here hx rfl (hb hby d11_68) rfl ?_
        exact k)
      obtain ⟨fs8, hr8, hrun8, hended8, hW8, hsame8⟩ := X5.leave (v := some (.int (-1 : Int32))) (fun h => by rw [Bd.returns] at h; cases h)
      refine ⟨_, _, pre7 _ ?_, hrun8, hended8, _, _, rfl, ?_, ⟨_, rfl⟩, hW8, hsame8.mono (by decide) (by decide)⟩
      · show Steps p.tables e below (T5.setTop (mkF m 69 #[.val (.ref x), .val (.int (0 : Int32)), .val (.int (-1 : Int32)), .val (.int (1 : Int32))] [(.int (-1 : Int32))])) _
        exact retOut X5 hx (t := .int) Bd.returns rfl (Or.inl ⟨rfl, Or.inl rfl, _, rfl⟩) (hb hby d11_69) hr8
      · show Qpe4 Z x c0 c1 c2 c3 h0 n0 _ T5.heap _
        rw [q5]
        exact ⟨_, rfl, N5, rfl, fun q => absurd q (by decide), fun q => by
          obtain ⟨w0, w1, w2, w3⟩ := q
          first | contradiction | (exfalso; simp_all [own_in]; done)⟩
    obtain ⟨cq9, kq9, qa9, qb9, qc9⟩ := isOf hZ q5 Ex
    obtain ⟨_, _, ⟨T9, L9, k9, n9⟩, -, X9, ⟨Lc9, hQ9, l9, y9, z9⟩, st9⟩ := X5.virtualBack hx (y := (⟨"java/lang/String", "length", "()I"⟩ : MethodName)) (z := (⟨"java/lang/String", "length", "()I"⟩ : MethodName)) hown (mvT hZ (wd75 hw)) (mvT hZ (wd76 hw)) (notFace_of_selects (args := #[]) (mvT hZ (wd78 hw))) (mvT hZ (wd78 hw)) (mvT hZ (wd77 hw)) (by decide) (StrChars.Road.lenW (W := 1) hZ hln (kI := 4) (wd9 hw) Ex Vv Cc Kk hcd hbd Sz hz (Nat.le_of_ble_eq_true rfl) (by decide) (by decide)) qa9 qc9 (g := (mkF m 18 #[.val (.ref x), .val (.int (0 : Int32)), .val (.int (-1 : Int32)), .val (.int (2 : Int32))] [(.ref x), (.int (2 : Int32))])) rfl (by rw [hml]; rfl) (Steps.refl _) (argsL := []) (rest := [(.int (2 : Int32))]) (lenOf pd_len rfl) rfl (by show 2 * 0 + _ ≤ _; exact Nat.le_of_eq rfl) (hb hby d11_18) (fun _ _ => ⟨rfl, q5, (by decide : 0 + 0 ≤ _), (by decide : 0 + 0 ≤ _)⟩)
    dsimp only [Pt.U, Pt.locs, Pt.cells, Pt.slots] at X9 l9 y9 z9 st9 hQ9
    subst l9 y9 z9
    obtain ⟨rfl, rfl, q9⟩ := hQ9
    have N9 := Fr.app N5 (Fr.nil n0)
    obtain ⟨cq10, kq10, qa10, qb10, qc10⟩ := isOf hZ q9 Ex
    obtain ⟨_, _, ⟨T10, L10, k10, n10⟩, -, X10, ⟨Lc10, hQ10, l10, y10, z10⟩, st10⟩ := X9.virtualBack hx (y := (⟨"java/lang/String", "charAt", "(I)C"⟩ : MethodName)) (z := (⟨"java/lang/String", "charAt", "(I)C"⟩ : MethodName)) hown (mvT hZ (wd53 hw)) (mvT hZ (wd54 hw)) (notFace_of_selects (args := #[]) (mvT hZ (wd56 hw))) (mvT hZ (wd56 hw)) (mvT hZ (wd55 hw)) (by decide) (StrChars.Road.chN (W := 0) hZ hch (kI := 4) (wd9 hw) Ex Vv Cc Kk hcd hbd Sz hz Sf hfm (Nat.le_of_ble_eq_true rfl) (i := 2) (Nat.le_of_ble_eq_true rfl) (j := (2 : Int32)) (by decide) (by decide) (by decide)) qa10 qc10 (g := (mkF m 26 #[.val (.ref x), .val (.int (0 : Int32)), .val (.int (-1 : Int32)), .val (.int (2 : Int32))] [(.int (2 : Int32)), (.ref x)])) rfl (by rw [hml]; rfl) (Steps.refl _) (argsL := [(.int (2 : Int32))]) (rest := []) (lenOf pd_cha rfl) rfl (by show 2 * 0 + _ ≤ _; exact Nat.le_of_eq rfl) (hb hby d11_26) (fun _ _ => ⟨rfl, q9, (by decide : 0 + 0 ≤ _), (by decide : 0 + 0 ≤ _)⟩)
    dsimp only [Pt.U, Pt.locs, Pt.cells, Pt.slots] at X10 l10 y10 z10 st10 hQ10
    subst l10 y10 z10
    obtain ⟨rfl, rfl, q10⟩ := hQ10
    have N10 := Fr.app N9 (Fr.nil n0)
    obtain ⟨_, _, ⟨T11, L11, k11, n11⟩, -, X11, ⟨Lc11, hQ11, l11, y11, z11⟩, st11⟩ := Jvm.LawKit.callS X10 hx (y := (⟨"com/example/oxpecker/oxpecker/MessageTemplate", "isInName", "(C)Z"⟩ : MethodName)) hown (mvT hZ (wd85 hw)) (mvT hZ (wd86 hw)) (mvT hZ (wd32 hw)) (mvT hZ (wd87 hw)) (by decide) (backOf (W := 0) (rmin l Z a0 hw [] c2 h0 n0 Z0) hZ (wd87 hw) (wd32 hw) (by decide) (by decide)) (g := (mkF m 29 #[.val (.ref x), .val (.int (0 : Int32)), .val (.int (-1 : Int32)), .val (.int (2 : Int32))] [(.int c2)])) rfl (by rw [hml]; rfl) (argsL := [(.int c2)]) (rest := []) (lenOf pd_in rfl) rfl (by show 2 * 0 + _ ≤ _; exact Nat.le_of_eq rfl) (hb hby d11_29) (fun _ _ => ⟨rfl, q10, (by decide : 0 + 0 ≤ _), (by decide : 0 + 0 ≤ _)⟩)
    dsimp only [Pt.U, Pt.locs, Pt.cells, Pt.slots] at X11 l11 y11 z11 st11 hQ11
    subst l11 y11 z11
    obtain ⟨rfl, N11q, q11⟩ := hQ11
    have N11 := Fr.app N10 N11q
    have pre12 : ∀ t, Steps p.tables e below (T11.setTop (mkF m 32 #[.val (.ref x), .val (.int (0 : Int32)), .val (.int (-1 : Int32)), .val (.int (2 : Int32))] [(.int (own_in c2))])) t → Steps p.tables e below (s₁.setTop (entryFrame m #[(.ref x), (.int (0 : Int32))] 4)) t := fun t k => pre6 t (by
      show Steps p.tables e below (T5.setTop (mkF m 32 #[.val (.ref x), .val (.int (0 : Int32)), .val (.int (-1 : Int32)), .val (.int (1 : Int32))] [(.int (own_in c1))])) _
      refine XS.ifNo X5.here hx rfl (hb hby d11_32) rfl ((if0 _ _).trans (feq hc32).1) ?_
      refine XS.iinc X5.here hx rfl (hb hby d11_35) rfl (l' := #[.val (.ref x), .val (.int (0 : Int32)), .val (.int (-1 : Int32)), .val (.int ((1 : Int32) + (1 : Int32)))]) rfl ?_
      show Steps p.tables e below (T5.setTop (mkF m 38 #[.val (.ref x), .val (.int (0 : Int32)), .val (.int (-1 : Int32)), .val (.int ((1 : Int32) + (1 : Int32)))] [])) _
      rw [show ((1 : Int32) + (1 : Int32)) = (2 : Int32) from by decide]
      refine XS.goto X5.here hx rfl (pc0 := 38) (pc' := 16) rfl (hb hby d11_38) (by decide) (by decide) ?_
      refine XS.iloadN X5.here hx rfl (hb hby d11_16) rfl ?_
      refine XS.aloadN X5.here hx rfl (hb hby d11_17) rfl rfl ?_
      refine st9.trans ?_
      refine XS.icmpNo X9.here hx rfl (hb hby d11_21) rfl (tlt (by decide : (2 : Int32) < (4 : Int32))).2.1 ?_
      refine XS.aloadN X9.here hx rfl (hb hby d11_24) rfl rfl ?_
      refine XS.iloadN X9.here hx rfl (hb hby d11_25) rfl ?_
      refine st10.trans ?_
      refine st11 _ ?_
      exact k)
    by_cases hc32_13 : (own_in c2) = (0 : Int32)
    · obtain ⟨cq14, kq14, qa14, qb14, qc14⟩ := isOf hZ q11 Ex
      obtain ⟨_, _, ⟨T14, L14, k14, n14⟩, -, X14, ⟨Lc14, hQ14, l14, y14, z14⟩, st14⟩ := X11.virtualBack hx (y := (⟨"java/lang/String", "length", "()I"⟩ : MethodName)) (z := (⟨"java/lang/String", "length", "()I"⟩ : MethodName)) hown (mvT hZ (wd75 hw)) (mvT hZ (wd76 hw)) (notFace_of_selects (args := #[]) (mvT hZ (wd78 hw))) (mvT hZ (wd78 hw)) (mvT hZ (wd77 hw)) (by decide) (StrChars.Road.lenW (W := 1) hZ hln (kI := 4) (wd9 hw) Ex Vv Cc Kk hcd hbd Sz hz (Nat.le_of_ble_eq_true rfl) (by decide) (by decide)) qa14 qc14 (g := (mkF m 50 #[.val (.ref x), .val (.int (0 : Int32)), .val (.int (-1 : Int32)), .val (.int (2 : Int32))] [(.ref x), (.int (2 : Int32))])) rfl (by rw [hml]; rfl) (Steps.refl _) (argsL := []) (rest := [(.int (2 : Int32))]) (lenOf pd_len rfl) rfl (by show 2 * 0 + _ ≤ _; exact Nat.le_of_eq rfl) (hb hby d11_50) (fun _ _ => ⟨rfl, q11, (by decide : 0 + 0 ≤ _), (by decide : 0 + 0 ≤ _)⟩)
      dsimp only [Pt.U, Pt.locs, Pt.cells, Pt.slots] at X14 l14 y14 z14 st14 hQ14
      subst l14 y14 z14
      obtain ⟨rfl, rfl, q14⟩ := hQ14
      have N14 := Fr.app N11 (Fr.nil n0)
      obtain ⟨cq15, kq15, qa15, qb15, qc15⟩ := isOf hZ q14 Ex
      obtain ⟨_, _, ⟨T15, L15, k15, n15⟩, -, X15, ⟨Lc15, hQ15, l15, y15, z15⟩, st15⟩ := X14.virtualBack hx (y := (⟨"java/lang/String", "charAt", "(I)C"⟩ : MethodName)) (z := (⟨"java/lang/String", "charAt", "(I)C"⟩ : MethodName)) hown (mvT hZ (wd53 hw)) (mvT hZ (wd54 hw)) (notFace_of_selects (args := #[]) (mvT hZ (wd56 hw))) (mvT hZ (wd56 hw)) (mvT hZ (wd55 hw)) (by decide) (StrChars.Road.chN (W := 0) hZ hch (kI := 4) (wd9 hw) Ex Vv Cc Kk hcd hbd Sz hz Sf hfm (Nat.le_of_ble_eq_true rfl) (i := 2) (Nat.le_of_ble_eq_true rfl) (j := (2 : Int32)) (by decide) (by decide) (by decide)) qa15 qc15 (g := (mkF m 58 #[.val (.ref x), .val (.int (0 : Int32)), .val (.int (-1 : Int32)), .val (.int (2 : Int32))] [(.int (2 : Int32)), (.ref x)])) rfl (by rw [hml]; rfl) (Steps.refl _) (argsL := [(.int (2 : Int32))]) (rest := []) (lenOf pd_cha rfl) rfl (by show 2 * 0 + _ ≤ _; exact Nat.le_of_eq rfl) (hb hby d11_58) (fun _ _ => ⟨rfl, q14, (by decide : 0 + 0 ≤ _), (by decide : 0 + 0 ≤ _)⟩)
      dsimp only [Pt.U, Pt.locs, Pt.cells, Pt.slots] at X15 l15 y15 z15 st15 hQ15
      subst l15 y15 z15
      obtain ⟨rfl, rfl, q15⟩ := hQ15
      have N15 := Fr.app N14 (Fr.nil n0)
      have pre16 : ∀ t, Steps p.tables e below (T15.setTop (mkF m 63 #[.val (.ref x), .val (.int (0 : Int32)), .val (.int (-1 : Int32)), .val (.int (2 : Int32))] [(.int (125 : Int32)), (.int c2)])) t → Steps p.tables e below (s₁.setTop (entryFrame m #[(.ref x), (.int (0 : Int32))] 4)) t := fun t k => pre12 t (by
        show Steps p.tables e below (T11.setTop (mkF m 32 #[.val (.ref x), .val (.int (0 : Int32)), .val (.int (-1 : Int32)), .val (.int (2 : Int32))] [(.int (own_in c2))])) _
        refine XS.ifYes X11.here hx rfl (pc0 := 32) (pc' := 41) rfl (hb hby d11_32) rfl ((if0 _ _).trans (teq hc32_13).1) (by decide) (by decide) ?_
        refine XS.iloadN X11.here hx rfl (hb hby d11_41) rfl ?_
        refine XS.iloadN X11.here hx rfl (hb hby d11_42) rfl ?_
        refine XS.iconst X11.here hx rfl (hb hby d11_43) ?_
        refine XS.iadd X11.here hx rfl (hb hby d11_44) rfl ?_
        show Steps p.tables e below (T11.setTop (mkF m 45 #[.val (.ref x), .val (.int (0 : Int32)), .val (.int (-1 : Int32)), .val (.int (2 : Int32))] [(.int ((0 : Int32) + (1 : Int32))), (.int (2 : Int32))])) _
        rw [show ((0 : Int32) + (1 : Int32)) = (1 : Int32) from by decide]
        refine XS.icmpNo X11.here hx rfl (hb hby d11_45) rfl (tlt (by decide : (1 : Int32) < (2 : Int32))).2.2.2 ?_
        refine XS.iloadN X11.here hx rfl (hb hby d11_48) rfl ?_
        refine XS.aloadN X11.here hx rfl (hb hby d11_49) rfl rfl ?_
        refine st14.trans ?_
        refine XS.icmpNo X14.here hx rfl (hb hby d11_53) rfl (tlt (by decide : (2 : Int32) < (4 : Int32))).2.1 ?_
        refine XS.aloadN X14.here hx rfl (hb hby d11_56) rfl rfl ?_
        refine XS.iloadN X14.here hx rfl (hb hby d11_57) rfl ?_
        refine st15.trans ?_
        refine XS.bipush X15.here hx rfl (hb hby d11_61) ?_
        exact k)
      by_cases hc63 : c2 = (125 : Int32)
      · have pre17 : ∀ t, Steps p.tables e below (T15.setTop (mkF m 69 #[.val (.ref x), .val (.int (0 : Int32)), .val (.int (2 : Int32)), .val (.int (2 : Int32))] [(.int (2 : Int32))])) t → Steps p.tables e below (s₁.setTop (entryFrame m #[(.ref x), (.int (0 : Int32))] 4)) t := fun t k => pre16 t (by
          show Steps p.tables e below (T15.setTop (mkF m 63 #[.val (.ref x), .val (.int (0 : Int32)), .val (.int (-1 : Int32)), .val (.int (2 : Int32))] [(.int (125 : Int32)), (.int c2)])) _
          refine XS.icmpNo X15.here hx rfl (hb hby d11_63) rfl (teq hc63).2 ?_
          refine XS.iloadN X15.here hx rfl (hb hby d11_66) rfl ?_
          refine XS.istoreN X15.here hx rfl (hb hby d11_67) rfl (l' := #[.val (.ref x), .val (.int (0 : Int32)), .val (.int (2 : Int32)), .val (.int (2 : Int32))]) rfl ?_
          refine XS.iloadN X15.here hx rfl (hb hby d11_68) rfl ?_
          exact k)
        obtain ⟨fs18, hr18, hrun18, hended18, hW18, hsame18⟩ := X15.leave (v := some (.int (2 : Int32))) (fun h => by rw [Bd.returns] at h; cases h)
        refine ⟨_, _, pre17 _ ?_, hrun18, hended18, _, _, rfl, ?_, ⟨_, rfl⟩, hW18, hsame18.mono (by decide) (by decide)⟩
        · show Steps p.tables e below (T15.setTop (mkF m 69 #[.val (.ref x), .val (.int (0 : Int32)), .val (.int (2 : Int32)), .val (.int (2 : Int32))] [(.int (2 : Int32))])) _
          exact retOut X15 hx (t := .int) Bd.returns rfl (Or.inl ⟨rfl, Or.inl rfl, _, rfl⟩) (hb hby d11_69) hr18
        · show Qpe4 Z x c0 c1 c2 c3 h0 n0 _ T15.heap _
          rw [q15]
          exact ⟨_, rfl, N15, rfl, fun q => absurd q (by decide), fun q => by
            obtain ⟨w0, w1, w2, w3⟩ := q
            first | contradiction | (exfalso; simp_all [own_in]; done)⟩
      have pre19 : ∀ t, Steps p.tables e below (T15.setTop (mkF m 69 #[.val (.ref x), .val (.int (0 : Int32)), .val (.int (-1 : Int32)), .val (.int (2 : Int32))] [(.int (-1 : Int32))])) t → Steps p.tables e below (s₁.setTop (entryFrame m #[(.ref x), (.int (0 : Int32))] 4)) t := fun t k => pre16 t (by
        show Steps p.tables e below (T15.setTop (mkF m 63 #[.val (.ref x), .val (.int (0 : Int32)), .val (.int (-1 : Int32)), .val (.int (2 : Int32))] [(.int (125 : Int32)), (.int c2)])) _
        refine XS.icmpYes X15.here hx rfl (pc0 := 63) (pc' := 68) rfl (hb hby d11_63) rfl (feq hc63).2 (by decide) (by decide) ?_
        refine XS.iloadN X15.here hx rfl (hb hby d11_68) rfl ?_
        exact k)
      obtain ⟨fs20, hr20, hrun20, hended20, hW20, hsame20⟩ := X15.leave (v := some (.int (-1 : Int32))) (fun h => by rw [Bd.returns] at h; cases h)
      refine ⟨_, _, pre19 _ ?_, hrun20, hended20, _, _, rfl, ?_, ⟨_, rfl⟩, hW20, hsame20.mono (by decide) (by decide)⟩
      · show Steps p.tables e below (T15.setTop (mkF m 69 #[.val (.ref x), .val (.int (0 : Int32)), .val (.int (-1 : Int32)), .val (.int (2 : Int32))] [(.int (-1 : Int32))])) _
        exact retOut X15 hx (t := .int) Bd.returns rfl (Or.inl ⟨rfl, Or.inl rfl, _, rfl⟩) (hb hby d11_69) hr20
      · show Qpe4 Z x c0 c1 c2 c3 h0 n0 _ T15.heap _
        rw [q15]
        exact ⟨_, rfl, N15, rfl, fun q => absurd q (by decide), fun q => by
          obtain ⟨w0, w1, w2, w3⟩ := q
          first | contradiction | (exfalso; simp_all [own_in]; done)⟩
    obtain ⟨cq21, kq21, qa21, qb21, qc21⟩ := isOf hZ q11 Ex
    obtain ⟨_, _, ⟨T21, L21, k21, n21⟩, -, X21, ⟨Lc21, hQ21, l21, y21, z21⟩, st21⟩ := X11.virtualBack hx (y := (⟨"java/lang/String", "length", "()I"⟩ : MethodName)) (z := (⟨"java/lang/String", "length", "()I"⟩ : MethodName)) hown (mvT hZ (wd75 hw)) (mvT hZ (wd76 hw)) (notFace_of_selects (args := #[]) (mvT hZ (wd78 hw))) (mvT hZ (wd78 hw)) (mvT hZ (wd77 hw)) (by decide) (StrChars.Road.lenW (W := 1) hZ hln (kI := 4) (wd9 hw) Ex Vv Cc Kk hcd hbd Sz hz (Nat.le_of_ble_eq_true rfl) (by decide) (by decide)) qa21 qc21 (g := (mkF m 18 #[.val (.ref x), .val (.int (0 : Int32)), .val (.int (-1 : Int32)), .val (.int (3 : Int32))] [(.ref x), (.int (3 : Int32))])) rfl (by rw [hml]; rfl) (Steps.refl _) (argsL := []) (rest := [(.int (3 : Int32))]) (lenOf pd_len rfl) rfl (by show 2 * 0 + _ ≤ _; exact Nat.le_of_eq rfl) (hb hby d11_18) (fun _ _ => ⟨rfl, q11, (by decide : 0 + 0 ≤ _), (by decide : 0 + 0 ≤ _)⟩)
    dsimp only [Pt.U, Pt.locs, Pt.cells, Pt.slots] at X21 l21 y21 z21 st21 hQ21
    subst l21 y21 z21
    obtain ⟨rfl, rfl, q21⟩ := hQ21
    have N21 := Fr.app N11 (Fr.nil n0)
    obtain ⟨cq22, kq22, qa22, qb22, qc22⟩ := isOf hZ q21 Ex
    obtain ⟨_, _, ⟨T22, L22, k22, n22⟩, -, X22, ⟨Lc22, hQ22, l22, y22, z22⟩, st22⟩ := X21.virtualBack hx (y := (⟨"java/lang/String", "charAt", "(I)C"⟩ : MethodName)) (z := (⟨"java/lang/String", "charAt", "(I)C"⟩ : MethodName)) hown (mvT hZ (wd53 hw)) (mvT hZ (wd54 hw)) (notFace_of_selects (args := #[]) (mvT hZ (wd56 hw))) (mvT hZ (wd56 hw)) (mvT hZ (wd55 hw)) (by decide) (StrChars.Road.chN (W := 0) hZ hch (kI := 4) (wd9 hw) Ex Vv Cc Kk hcd hbd Sz hz Sf hfm (Nat.le_of_ble_eq_true rfl) (i := 3) (Nat.le_of_ble_eq_true rfl) (j := (3 : Int32)) (by decide) (by decide) (by decide)) qa22 qc22 (g := (mkF m 26 #[.val (.ref x), .val (.int (0 : Int32)), .val (.int (-1 : Int32)), .val (.int (3 : Int32))] [(.int (3 : Int32)), (.ref x)])) rfl (by rw [hml]; rfl) (Steps.refl _) (argsL := [(.int (3 : Int32))]) (rest := []) (lenOf pd_cha rfl) rfl (by show 2 * 0 + _ ≤ _; exact Nat.le_of_eq rfl) (hb hby d11_26) (fun _ _ => ⟨rfl, q21, (by decide : 0 + 0 ≤ _), (by decide : 0 + 0 ≤ _)⟩)
    dsimp only [Pt.U, Pt.locs, Pt.cells, Pt.slots] at X22 l22 y22 z22 st22 hQ22
    subst l22 y22 z22
    obtain ⟨rfl, rfl, q22⟩ := hQ22
    have N22 := Fr.app N21 (Fr.nil n0)
    obtain ⟨_, _, ⟨T23, L23, k23, n23⟩, -, X23, ⟨Lc23, hQ23, l23, y23, z23⟩, st23⟩ := Jvm.LawKit.callS X22 hx (y := (⟨"com/example/oxpecker/oxpecker/MessageTemplate", "isInName", "(C)Z"⟩ : MethodName)) hown (mvT hZ (wd85 hw)) (mvT hZ (wd86 hw)) (mvT hZ (wd32 hw)) (mvT hZ (wd87 hw)) (by decide) (backOf (W := 0) (rmin l Z a0 hw [] c3 h0 n0 Z0) hZ (wd87 hw) (wd32 hw) (by decide) (by decide)) (g := (mkF m 29 #[.val (.ref x), .val (.int (0 : Int32)), .val (.int (-1 : Int32)), .val (.int (3 : Int32))] [(.int c3)])) rfl (by rw [hml]; rfl) (argsL := [(.int c3)]) (rest := []) (lenOf pd_in rfl) rfl (by show 2 * 0 + _ ≤ _; exact Nat.le_of_eq rfl) (hb hby d11_29) (fun _ _ => ⟨rfl, q22, (by decide : 0 + 0 ≤ _), (by decide : 0 + 0 ≤ _)⟩)
    dsimp only [Pt.U, Pt.locs, Pt.cells, Pt.slots] at X23 l23 y23 z23 st23 hQ23
    subst l23 y23 z23
    obtain ⟨rfl, N23q, q23⟩ := hQ23
    have N23 := Fr.app N22 N23q
    have pre24 : ∀ t, Steps p.tables e below (T23.setTop (mkF m 32 #[.val (.ref x), .val (.int (0 : Int32)), .val (.int (-1 : Int32)), .val (.int (3 : Int32))] [(.int (own_in c3))])) t → Steps p.tables e below (s₁.setTop (entryFrame m #[(.ref x), (.int (0 : Int32))] 4)) t := fun t k => pre12 t (by
      show Steps p.tables e below (T11.setTop (mkF m 32 #[.val (.ref x), .val (.int (0 : Int32)), .val (.int (-1 : Int32)), .val (.int (2 : Int32))] [(.int (own_in c2))])) _
      refine XS.ifNo X11.here hx rfl (hb hby d11_32) rfl ((if0 _ _).trans (feq hc32_13).1) ?_
      refine XS.iinc X11.here hx rfl (hb hby d11_35) rfl (l' := #[.val (.ref x), .val (.int (0 : Int32)), .val (.int (-1 : Int32)), .val (.int ((2 : Int32) + (1 : Int32)))]) rfl ?_
      show Steps p.tables e below (T11.setTop (mkF m 38 #[.val (.ref x), .val (.int (0 : Int32)), .val (.int (-1 : Int32)), .val (.int ((2 : Int32) + (1 : Int32)))] [])) _
      rw [show ((2 : Int32) + (1 : Int32)) = (3 : Int32) from by decide]
      refine XS.goto X11.here hx rfl (pc0 := 38) (pc' := 16) rfl (hb hby d11_38) (by decide) (by decide) ?_
      refine XS.iloadN X11.here hx rfl (hb hby d11_16) rfl ?_
      refine XS.aloadN X11.here hx rfl (hb hby d11_17) rfl rfl ?_
      refine st21.trans ?_
      refine XS.icmpNo X21.here hx rfl (hb hby d11_21) rfl (tlt (by decide : (3 : Int32) < (4 : Int32))).2.1 ?_
      refine XS.aloadN X21.here hx rfl (hb hby d11_24) rfl rfl ?_
      refine XS.iloadN X21.here hx rfl (hb hby d11_25) rfl ?_
      refine st22.trans ?_
      refine st23 _ ?_
      exact k)
    by_cases hc32_25 : (own_in c3) = (0 : Int32)
    · obtain ⟨cq26, kq26, qa26, qb26, qc26⟩ := isOf hZ q23 Ex
      obtain ⟨_, _, ⟨T26, L26, k26, n26⟩, -, X26, ⟨Lc26, hQ26, l26, y26, z26⟩, st26⟩ := X23.virtualBack hx (y := (⟨"java/lang/String", "length", "()I"⟩ : MethodName)) (z := (⟨"java/lang/String", "length", "()I"⟩ : MethodName)) hown (mvT hZ (wd75 hw)) (mvT hZ (wd76 hw)) (notFace_of_selects (args := #[]) (mvT hZ (wd78 hw))) (mvT hZ (wd78 hw)) (mvT hZ (wd77 hw)) (by decide) (StrChars.Road.lenW (W := 1) hZ hln (kI := 4) (wd9 hw) Ex Vv Cc Kk hcd hbd Sz hz (Nat.le_of_ble_eq_true rfl) (by decide) (by decide)) qa26 qc26 (g := (mkF m 50 #[.val (.ref x), .val (.int (0 : Int32)), .val (.int (-1 : Int32)), .val (.int (3 : Int32))] [(.ref x), (.int (3 : Int32))])) rfl (by rw [hml]; rfl) (Steps.refl _) (argsL := []) (rest := [(.int (3 : Int32))]) (lenOf pd_len rfl) rfl (by show 2 * 0 + _ ≤ _; exact Nat.le_of_eq rfl) (hb hby d11_50) (fun _ _ => ⟨rfl, q23, (by decide : 0 + 0 ≤ _), (by decide : 0 + 0 ≤ _)⟩)
      dsimp only [Pt.U, Pt.locs, Pt.cells, Pt.slots] at X26 l26 y26 z26 st26 hQ26
      subst l26 y26 z26
      obtain ⟨rfl, rfl, q26⟩ := hQ26
      have N26 := Fr.app N23 (Fr.nil n0)
      obtain ⟨cq27, kq27, qa27, qb27, qc27⟩ := isOf hZ q26 Ex
      obtain ⟨_, _, ⟨T27, L27, k27, n27⟩, -, X27, ⟨Lc27, hQ27, l27, y27, z27⟩, st27⟩ := X26.virtualBack hx (y := (⟨"java/lang/String", "charAt", "(I)C"⟩ : MethodName)) (z := (⟨"java/lang/String", "charAt", "(I)C"⟩ : MethodName)) hown (mvT hZ (wd53 hw)) (mvT hZ (wd54 hw)) (notFace_of_selects (args := #[]) (mvT hZ (wd56 hw))) (mvT hZ (wd56 hw)) (mvT hZ (wd55 hw)) (by decide) (StrChars.Road.chN (W := 0) hZ hch (kI := 4) (wd9 hw) Ex Vv Cc Kk hcd hbd Sz hz Sf hfm (Nat.le_of_ble_eq_true rfl) (i := 3) (Nat.le_of_ble_eq_true rfl) (j := (3 : Int32)) (by decide) (by decide) (by decide)) qa27 qc27 (g := (mkF m 58 #[.val (.ref x), .val (.int (0 : Int32)), .val (.int (-1 : Int32)), .val (.int (3 : Int32))] [(.int (3 : Int32)), (.ref x)])) rfl (by rw [hml]; rfl) (Steps.refl _) (argsL := [(.int (3 : Int32))]) (rest := []) (lenOf pd_cha rfl) rfl (by show 2 * 0 + _ ≤ _; exact Nat.le_of_eq rfl) (hb hby d11_58) (fun _ _ => ⟨rfl, q26, (by decide : 0 + 0 ≤ _), (by decide : 0 + 0 ≤ _)⟩)
      dsimp only [Pt.U, Pt.locs, Pt.cells, Pt.slots] at X27 l27 y27 z27 st27 hQ27
      subst l27 y27 z27
      obtain ⟨rfl, rfl, q27⟩ := hQ27
      have N27 := Fr.app N26 (Fr.nil n0)
      have pre28 : ∀ t, Steps p.tables e below (T27.setTop (mkF m 63 #[.val (.ref x), .val (.int (0 : Int32)), .val (.int (-1 : Int32)), .val (.int (3 : Int32))] [(.int (125 : Int32)), (.int c3)])) t → Steps p.tables e below (s₁.setTop (entryFrame m #[(.ref x), (.int (0 : Int32))] 4)) t := fun t k => pre24 t (by
        show Steps p.tables e below (T23.setTop (mkF m 32 #[.val (.ref x), .val (.int (0 : Int32)), .val (.int (-1 : Int32)), .val (.int (3 : Int32))] [(.int (own_in c3))])) _
        refine XS.ifYes X23.here hx rfl (pc0 := 32) (pc' := 41) rfl (hb hby d11_32) rfl ((if0 _ _).trans (teq hc32_25).1) (by decide) (by decide) ?_
        refine XS.iloadN X23.here hx rfl (hb hby d11_41) rfl ?_
        refine XS.iloadN X23.here hx rfl (hb hby d11_42) rfl ?_
        refine XS.iconst X23.here hx rfl (hb hby d11_43) ?_
        refine XS.iadd X23.here hx rfl (hb hby d11_44) rfl ?_
        show Steps p.tables e below (T23.setTop (mkF m 45 #[.val (.ref x), .val (.int (0 : Int32)), .val (.int (-1 : Int32)), .val (.int (3 : Int32))] [(.int ((0 : Int32) + (1 : Int32))), (.int (3 : Int32))])) _
        rw [show ((0 : Int32) + (1 : Int32)) = (1 : Int32) from by decide]
        refine XS.icmpNo X23.here hx rfl (hb hby d11_45) rfl (tlt (by decide : (1 : Int32) < (3 : Int32))).2.2.2 ?_
        refine XS.iloadN X23.here hx rfl (hb hby d11_48) rfl ?_
        refine XS.aloadN X23.here hx rfl (hb hby d11_49) rfl rfl ?_
        refine st26.trans ?_
        refine XS.icmpNo X26.here hx rfl (hb hby d11_53) rfl (tlt (by decide : (3 : Int32) < (4 : Int32))).2.1 ?_
        refine XS.aloadN X26.here hx rfl (hb hby d11_56) rfl rfl ?_
        refine XS.iloadN X26.here hx rfl (hb hby d11_57) rfl ?_
        refine st27.trans ?_
        refine XS.bipush X27.here hx rfl (hb hby d11_61) ?_
        exact k)
      by_cases hc63 : c3 = (125 : Int32)
      · have pre29 : ∀ t, Steps p.tables e below (T27.setTop (mkF m 69 #[.val (.ref x), .val (.int (0 : Int32)), .val (.int (3 : Int32)), .val (.int (3 : Int32))] [(.int (3 : Int32))])) t → Steps p.tables e below (s₁.setTop (entryFrame m #[(.ref x), (.int (0 : Int32))] 4)) t := fun t k => pre28 t (by
          show Steps p.tables e below (T27.setTop (mkF m 63 #[.val (.ref x), .val (.int (0 : Int32)), .val (.int (-1 : Int32)), .val (.int (3 : Int32))] [(.int (125 : Int32)), (.int c3)])) _
          refine XS.icmpNo X27.here hx rfl (hb hby d11_63) rfl (teq hc63).2 ?_
          refine XS.iloadN X27.here hx rfl (hb hby d11_66) rfl ?_
          refine XS.istoreN X27.here hx rfl (hb hby d11_67) rfl (l' := #[.val (.ref x), .val (.int (0 : Int32)), .val (.int (3 : Int32)), .val (.int (3 : Int32))]) rfl ?_
          refine XS.iloadN X27.here hx rfl (hb hby d11_68) rfl ?_
          exact k)
        obtain ⟨fs30, hr30, hrun30, hended30, hW30, hsame30⟩ := X27.leave (v := some (.int (3 : Int32))) (fun h => by rw [Bd.returns] at h; cases h)
        refine ⟨_, _, pre29 _ ?_, hrun30, hended30, _, _, rfl, ?_, ⟨_, rfl⟩, hW30, hsame30.mono (by decide) (by decide)⟩
        · show Steps p.tables e below (T27.setTop (mkF m 69 #[.val (.ref x), .val (.int (0 : Int32)), .val (.int (3 : Int32)), .val (.int (3 : Int32))] [(.int (3 : Int32))])) _
          exact retOut X27 hx (t := .int) Bd.returns rfl (Or.inl ⟨rfl, Or.inl rfl, _, rfl⟩) (hb hby d11_69) hr30
        · show Qpe4 Z x c0 c1 c2 c3 h0 n0 _ T27.heap _
          rw [q27]
          exact ⟨_, rfl, N27, rfl, fun _ => ⟨hc9, hc32, hc32_13, hc63⟩, fun _ => by decide⟩
      have pre31 : ∀ t, Steps p.tables e below (T27.setTop (mkF m 69 #[.val (.ref x), .val (.int (0 : Int32)), .val (.int (-1 : Int32)), .val (.int (3 : Int32))] [(.int (-1 : Int32))])) t → Steps p.tables e below (s₁.setTop (entryFrame m #[(.ref x), (.int (0 : Int32))] 4)) t := fun t k => pre28 t (by
        show Steps p.tables e below (T27.setTop (mkF m 63 #[.val (.ref x), .val (.int (0 : Int32)), .val (.int (-1 : Int32)), .val (.int (3 : Int32))] [(.int (125 : Int32)), (.int c3)])) _
        refine XS.icmpYes X27.here hx rfl (pc0 := 63) (pc' := 68) rfl (hb hby d11_63) rfl (feq hc63).2 (by decide) (by decide) ?_
        refine XS.iloadN X27.here hx rfl (hb hby d11_68) rfl ?_
        exact k)
      obtain ⟨fs32, hr32, hrun32, hended32, hW32, hsame32⟩ := X27.leave (v := some (.int (-1 : Int32))) (fun h => by rw [Bd.returns] at h; cases h)
      refine ⟨_, _, pre31 _ ?_, hrun32, hended32, _, _, rfl, ?_, ⟨_, rfl⟩, hW32, hsame32.mono (by decide) (by decide)⟩
      · show Steps p.tables e below (T27.setTop (mkF m 69 #[.val (.ref x), .val (.int (0 : Int32)), .val (.int (-1 : Int32)), .val (.int (3 : Int32))] [(.int (-1 : Int32))])) _
        exact retOut X27 hx (t := .int) Bd.returns rfl (Or.inl ⟨rfl, Or.inl rfl, _, rfl⟩) (hb hby d11_69) hr32
      · show Qpe4 Z x c0 c1 c2 c3 h0 n0 _ T27.heap _
        rw [q27]
        exact ⟨_, rfl, N27, rfl, fun q => absurd q (by decide), fun q => by
          obtain ⟨w0, w1, w2, w3⟩ := q
          first | contradiction | (exfalso; simp_all [own_in]; done)⟩
    obtain ⟨cq33, kq33, qa33, qb33, qc33⟩ := isOf hZ q23 Ex
    obtain ⟨_, _, ⟨T33, L33, k33, n33⟩, -, X33, ⟨Lc33, hQ33, l33, y33, z33⟩, st33⟩ := X23.virtualBack hx (y := (⟨"java/lang/String", "length", "()I"⟩ : MethodName)) (z := (⟨"java/lang/String", "length", "()I"⟩ : MethodName)) hown (mvT hZ (wd75 hw)) (mvT hZ (wd76 hw)) (notFace_of_selects (args := #[]) (mvT hZ (wd78 hw))) (mvT hZ (wd78 hw)) (mvT hZ (wd77 hw)) (by decide) (StrChars.Road.lenW (W := 1) hZ hln (kI := 4) (wd9 hw) Ex Vv Cc Kk hcd hbd Sz hz (Nat.le_of_ble_eq_true rfl) (by decide) (by decide)) qa33 qc33 (g := (mkF m 18 #[.val (.ref x), .val (.int (0 : Int32)), .val (.int (-1 : Int32)), .val (.int (4 : Int32))] [(.ref x), (.int (4 : Int32))])) rfl (by rw [hml]; rfl) (Steps.refl _) (argsL := []) (rest := [(.int (4 : Int32))]) (lenOf pd_len rfl) rfl (by show 2 * 0 + _ ≤ _; exact Nat.le_of_eq rfl) (hb hby d11_18) (fun _ _ => ⟨rfl, q23, (by decide : 0 + 0 ≤ _), (by decide : 0 + 0 ≤ _)⟩)
    dsimp only [Pt.U, Pt.locs, Pt.cells, Pt.slots] at X33 l33 y33 z33 st33 hQ33
    subst l33 y33 z33
    obtain ⟨rfl, rfl, q33⟩ := hQ33
    have N33 := Fr.app N23 (Fr.nil n0)
    obtain ⟨cq34, kq34, qa34, qb34, qc34⟩ := isOf hZ q33 Ex
    obtain ⟨_, _, ⟨T34, L34, k34, n34⟩, -, X34, ⟨Lc34, hQ34, l34, y34, z34⟩, st34⟩ := X33.virtualBack hx (y := (⟨"java/lang/String", "length", "()I"⟩ : MethodName)) (z := (⟨"java/lang/String", "length", "()I"⟩ : MethodName)) hown (mvT hZ (wd75 hw)) (mvT hZ (wd76 hw)) (notFace_of_selects (args := #[]) (mvT hZ (wd78 hw))) (mvT hZ (wd78 hw)) (mvT hZ (wd77 hw)) (by decide) (StrChars.Road.lenW (W := 1) hZ hln (kI := 4) (wd9 hw) Ex Vv Cc Kk hcd hbd Sz hz (Nat.le_of_ble_eq_true rfl) (by decide) (by decide)) qa34 qc34 (g := (mkF m 50 #[.val (.ref x), .val (.int (0 : Int32)), .val (.int (-1 : Int32)), .val (.int (4 : Int32))] [(.ref x), (.int (4 : Int32))])) rfl (by rw [hml]; rfl) (Steps.refl _) (argsL := []) (rest := [(.int (4 : Int32))]) (lenOf pd_len rfl) rfl (by show 2 * 0 + _ ≤ _; exact Nat.le_of_eq rfl) (hb hby d11_50) (fun _ _ => ⟨rfl, q33, (by decide : 0 + 0 ≤ _), (by decide : 0 + 0 ≤ _)⟩)
    dsimp only [Pt.U, Pt.locs, Pt.cells, Pt.slots] at X34 l34 y34 z34 st34 hQ34
    subst l34 y34 z34
    obtain ⟨rfl, rfl, q34⟩ := hQ34
    have N34 := Fr.app N33 (Fr.nil n0)
    have pre35 : ∀ t, Steps p.tables e below (T34.setTop (mkF m 69 #[.val (.ref x), .val (.int (0 : Int32)), .val (.int (-1 : Int32)), .val (.int (4 : Int32))] [(.int (-1 : Int32))])) t → Steps p.tables e below (s₁.setTop (entryFrame m #[(.ref x), (.int (0 : Int32))] 4)) t := fun t k => pre24 t (by
      show Steps p.tables e below (T23.setTop (mkF m 32 #[.val (.ref x), .val (.int (0 : Int32)), .val (.int (-1 : Int32)), .val (.int (3 : Int32))] [(.int (own_in c3))])) _
      refine XS.ifNo X23.here hx rfl (hb hby d11_32) rfl ((if0 _ _).trans (feq hc32_25).1) ?_
      refine XS.iinc X23.here hx rfl (hb hby d11_35) rfl (l' := #[.val (.ref x), .val (.int (0 : Int32)), .val (.int (-1 : Int32)), .val (.int ((3 : Int32) + (1 : Int32)))]) rfl ?_
      show Steps p.tables e below (T23.setTop (mkF m 38 #[.val (.ref x), .val (.int (0 : Int32)), .val (.int (-1 : Int32)), .val (.int ((3 : Int32) + (1 : Int32)))] [])) _
      rw [show ((3 : Int32) + (1 : Int32)) = (4 : Int32) from by decide]
      refine XS.goto X23.here hx rfl (pc0 := 38) (pc' := 16) rfl (hb hby d11_38) (by decide) (by decide) ?_
      refine XS.iloadN X23.here hx rfl (hb hby d11_16) rfl ?_
      refine XS.aloadN X23.here hx rfl (hb hby d11_17) rfl rfl ?_
      refine st33.trans ?_
      refine XS.icmpYes X33.here hx rfl (pc0 := 21) (pc' := 41) rfl (hb hby d11_21) rfl (flt (by decide : ¬ ((4 : Int32) < (4 : Int32)))).2.1 (by decide) (by decide) ?_
      refine XS.iloadN X33.here hx rfl (hb hby d11_41) rfl ?_
      refine XS.iloadN X33.here hx rfl (hb hby d11_42) rfl ?_
      refine XS.iconst X33.here hx rfl (hb hby d11_43) ?_
      refine XS.iadd X33.here hx rfl (hb hby d11_44) rfl ?_
      show Steps p.tables e below (T33.setTop (mkF m 45 #[.val (.ref x), .val (.int (0 : Int32)), .val (.int (-1 : Int32)), .val (.int (4 : Int32))] [(.int ((0 : Int32) + (1 : Int32))), (.int (4 : Int32))])) _
      rw [show ((0 : Int32) + (1 : Int32)) = (1 : Int32) from by decide]
      refine XS.icmpNo X33.here hx rfl (hb hby d11_45) rfl (tlt (by decide : (1 : Int32) < (4 : Int32))).2.2.2 ?_
      refine XS.iloadN X33.here hx rfl (hb hby d11_48) rfl ?_
      refine XS.aloadN X33.here hx rfl (hb hby d11_49) rfl rfl ?_
      refine st34.trans ?_
      refine XS.icmpYes X34.here hx rfl (pc0 := 53) (pc' := 68) rfl (hb hby d11_53) rfl (flt (by decide : ¬ ((4 : Int32) < (4 : Int32)))).2.1 (by decide) (by decide) ?_
      refine XS.iloadN X34.here hx rfl (hb hby d11_68) rfl ?_
      exact k)
    obtain ⟨fs36, hr36, hrun36, hended36, hW36, hsame36⟩ := X34.leave (v := some (.int (-1 : Int32))) (fun h => by rw [Bd.returns] at h; cases h)
    refine ⟨_, _, pre35 _ ?_, hrun36, hended36, _, _, rfl, ?_, ⟨_, rfl⟩, hW36, hsame36.mono (by decide) (by decide)⟩
    · show Steps p.tables e below (T34.setTop (mkF m 69 #[.val (.ref x), .val (.int (0 : Int32)), .val (.int (-1 : Int32)), .val (.int (4 : Int32))] [(.int (-1 : Int32))])) _
      exact retOut X34 hx (t := .int) Bd.returns rfl (Or.inl ⟨rfl, Or.inl rfl, _, rfl⟩) (hb hby d11_69) hr36
    · show Qpe4 Z x c0 c1 c2 c3 h0 n0 _ T34.heap _
      rw [q34]
      exact ⟨_, rfl, N34, rfl, fun q => absurd q (by decide), fun q => by
        obtain ⟨w0, w1, w2, w3⟩ := q
        first | contradiction | (exfalso; simp_all [own_in]; done)⟩
  have pre37 : ∀ t, Steps p.tables e below (T1.setTop (mkF m 69 #[.val (.ref x), .val (.int (0 : Int32)), .val (.int (-1 : Int32)), .unset] [(.int (-1 : Int32))])) t → Steps p.tables e below (s₁.setTop (entryFrame m #[(.ref x), (.int (0 : Int32))] 4)) t := fun t k => pre2 t (by
    show Steps p.tables e below (T1.setTop (mkF m 9 #[.val (.ref x), .val (.int (0 : Int32)), .val (.int (-1 : Int32)), .unset] [(.int (123 : Int32)), (.int c0)])) _
    refine XS.icmpYes X1.here hx rfl (pc0 := 9) (pc' := 68) rfl (hb hby d11_9) rfl (feq hc9).2 (by decide) (by decide) ?_
    refine XS.iloadN X1.here hx rfl (hb hby d11_68) rfl ?_
    exact k)
  obtain ⟨fs38, hr38, hrun38, hended38, hW38, hsame38⟩ := X1.leave (v := some (.int (-1 : Int32))) (fun h => by rw [Bd.returns] at h; cases h)
  refine ⟨_, _, pre37 _ ?_, hrun38, hended38, _, _, rfl, ?_, ⟨_, rfl⟩, hW38, hsame38.mono (by decide) (by decide)⟩
  · show Steps p.tables e below (T1.setTop (mkF m 69 #[.val (.ref x), .val (.int (0 : Int32)), .val (.int (-1 : Int32)), .unset] [(.int (-1 : Int32))])) _
    exact retOut X1 hx (t := .int) Bd.returns rfl (Or.inl ⟨rfl, Or.inl rfl, _, rfl⟩) (hb hby d11_69) hr38
  · show Qpe4 Z x c0 c1 c2 c3 h0 n0 _ T1.heap _
    rw [q1]
    exact ⟨_, rfl, N1, rfl, fun q => absurd q (by decide), fun q => by
      obtain ⟨w0, w1, w2, w3⟩ := q
      first | contradiction | (exfalso; simp_all [own_in]; done)⟩

theorem pd_pe5 : parseMethodDescriptor "(Ljava/lang/String;I)I" = some ⟨[(.object "java/lang/String"), .int], some .int⟩ := by decide +kernel

theorem ef_pe5 (m : MethodId) (x0 : Addr) (x1 : Int32)  : entryFrame m #[(.ref x0), (.int x1)] 4 = mkF m 0 #[.val (.ref x0), .val (.int x1), .unset, .unset] [] := by first | (simp [entryFrame, mkF, argsToLocals, Value.category]; done) | rfl
def Qpe5 (Z : State) (x : Addr) (c0 c1 c2 c3 c4 : Int32) (h0 : Heap) (n0 : Nat) (v : Option Value) (h : Heap) (L : List Loc) : Prop := ∃ r, v = some (.int r) ∧ Fr n0 L ∧ h = h0 ∧ (r = (4 : Int32) ↔ own_sole5 c0 c1 c2 c3 c4)
set_option maxRecDepth 65536 in
set_option maxHeartbeats 40000000 in
theorem rmpe5 (l : Launch) (Z : State) (a0 : Array Value) (hw : ∀ d ∈ tables_1, d.before a0 Z = true) (ws : List Jvm.Cond) (x : Addr) (c0 c1 c2 c3 c4 : Int32) (h0 : Heap) (n0 : Nat) (Z0 : n0 ≤ h0.size) (SX : own_str Z h0 x [c0, c1, c2, c3, c4]) (EN : own_env Z h0) (hpr : own_pr [c0, c1, c2, c3, c4]) :
    MetFree l (⟨"com/example/oxpecker/oxpecker/MessageTemplate", "parameterEnd", "(Ljava/lang/String;I)I"⟩ : MethodName) (head1 (Jvm.Cond.code (⟨"com/example/oxpecker/oxpecker/MessageTemplate", "parameterEnd", "(Ljava/lang/String;I)I"⟩ : MethodName) prog_5_method_9_code 4 (some .int) :: ws) ({ frames := 4, cells := 0, slots := 0, locals := 53 } : Room)) (fun a U => a = #[(.ref x), (.int (0 : Int32))] ∧ Z.Warmed39 U.vm ∧ U.heap = h0) (fun _ _ _ _ _ => True) (fun _ U o U' => ∃ v L, o = .returned v ∧ Qpe5 Z x c0 c1 c2 c3 c4 h0 n0 v U'.heap L ∧ FrameEnd U o U' L ({ frames := 4, cells := 0, slots := 0, locals := 53 } : Room).cells ({ frames := 4, cells := 0, slots := 0, locals := 53 } : Room).slots) := by
  refine MetFree.of_bodySF (plainFor_of_name pn_k1) hisR ?_
  intro p e s m args below meth c s₁ Bd hml0 hP hK
  obtain ⟨rfl, hZ, hh⟩ := hP
  have hx := Bd.exec
  have hby := Bd.bytes
  have hml : c.maxLocals = 4 := hml0
  have hown : s.vm.findClass "com/example/oxpecker/oxpecker/MessageTemplate" = some m.cls := findClass_of_methodNamed Bd.named
  have hnm := (name_of_methodNamed Bd.named Bd.method).1
  have X0 : Stand p l e ({ frames := 4, cells := 0, slots := 0, locals := 53 } : Room) s m #[(.ref x), (.int (0 : Int32))] below meth c s₁ [] 0 0 := Stand.of_body Bd
  have e0 : s₁.heap = h0 := by rw [← hh, Bd.state]; rfl
  have N0 := Fr.nil n0
  have pre0 : ∀ t, Steps p.tables e below (s₁.setTop (mkF m 0 #[.val (.ref x), .val (.int (0 : Int32)), .unset, .unset] [])) t → Steps p.tables e below (s₁.setTop (entryFrame m #[(.ref x), (.int (0 : Int32))] 4)) t := fun t k => castTop (ef_pe5 m x (0 : Int32)) k
  obtain ⟨tv, kb, Ex, Vv, Cc, Kk⟩ := SX
  obtain ⟨z, fm, Sz, hz, Sf, hfm⟩ := EN
  have hcd := own_cod hpr
  have hbd := own_up hpr
  have hln : ∀ d ∈ StrChars.Road.wordsLen, d.before a0 Z = true := fun d hd => hw d ((by decide +kernel : ∀ d ∈ StrChars.Road.wordsLen, d ∈ tables_1) d hd)
  have hch : ∀ d ∈ StrChars.Road.wordsChN, d.before a0 Z = true := fun d hd => hw d ((by decide +kernel : ∀ d ∈ StrChars.Road.wordsChN, d ∈ tables_1) d hd)
  have hep : ∀ d ∈ StrChars.Road.wordsEmp, d.before a0 Z = true := fun d hd => hw d ((by decide +kernel : ∀ d ∈ StrChars.Road.wordsEmp, d ∈ tables_1) d hd)
  obtain ⟨cq1, kq1, qa1, qb1, qc1⟩ := isOf hZ e0 Ex
  obtain ⟨_, _, ⟨T1, L1, k1, n1⟩, -, X1, ⟨Lc1, hQ1, l1, y1, z1⟩, st1⟩ := X0.virtualBack hx (y := (⟨"java/lang/String", "charAt", "(I)C"⟩ : MethodName)) (z := (⟨"java/lang/String", "charAt", "(I)C"⟩ : MethodName)) hown (mvT hZ (wd53 hw)) (mvT hZ (wd54 hw)) (notFace_of_selects (args := #[]) (mvT hZ (wd56 hw))) (mvT hZ (wd56 hw)) (mvT hZ (wd55 hw)) (by decide) (StrChars.Road.chN (W := 0) hZ hch (kI := 4) (wd9 hw) Ex Vv Cc Kk hcd hbd Sz hz Sf hfm (Nat.le_of_ble_eq_true rfl) (i := 0) (Nat.le_of_ble_eq_true rfl) (j := (0 : Int32)) (by decide) (by decide) (by decide)) qa1 qc1 (g := (mkF m 4 #[.val (.ref x), .val (.int (0 : Int32)), .val (.int (-1 : Int32)), .unset] [(.int (0 : Int32)), (.ref x)])) rfl (by rw [hml]; rfl) (Steps.refl _) (argsL := [(.int (0 : Int32))]) (rest := []) (lenOf pd_cha rfl) rfl (by show 2 * 0 + _ ≤ _; exact Nat.le_of_eq rfl) (hb hby d11_4) (fun _ _ => ⟨rfl, e0, (by decide : 0 + 0 ≤ _), (by decide : 0 + 0 ≤ _)⟩)
  dsimp only [Pt.U, Pt.locs, Pt.cells, Pt.slots] at X1 l1 y1 z1 st1 hQ1
  subst l1 y1 z1
  obtain ⟨rfl, rfl, q1⟩ := hQ1
  have N1 := Fr.app N0 (Fr.nil n0)
  have pre2 : ∀ t, Steps p.tables e below (T1.setTop (mkF m 9 #[.val (.ref x), .val (.int (0 : Int32)), .val (.int (-1 : Int32)), .unset] [(.int (123 : Int32)), (.int c0)])) t → Steps p.tables e below (s₁.setTop (entryFrame m #[(.ref x), (.int (0 : Int32))] 4)) t := fun t k => pre0 t (by
    show Steps p.tables e below (s₁.setTop (mkF m 0 #[.val (.ref x), .val (.int (0 : Int32)), .unset, .unset] [])) _
    refine XS.iconst X0.here hx rfl (hb hby d11_0) ?_
    refine XS.istoreN X0.here hx rfl (hb hby d11_1) rfl (l' := #[.val (.ref x), .val (.int (0 : Int32)), .val (.int (-1 : Int32)), .unset]) rfl ?_
    refine XS.aloadN X0.here hx rfl (hb hby d11_2) rfl rfl ?_
    refine XS.iloadN X0.here hx rfl (hb hby d11_3) rfl ?_
    refine st1.trans ?_
    refine XS.bipush X1.here hx rfl (hb hby d11_7) ?_
    exact k)
  by_cases hc9 : c0 = (123 : Int32)
  · obtain ⟨cq3, kq3, qa3, qb3, qc3⟩ := isOf hZ q1 Ex
    obtain ⟨_, _, ⟨T3, L3, k3, n3⟩, -, X3, ⟨Lc3, hQ3, l3, y3, z3⟩, st3⟩ := X1.virtualBack hx (y := (⟨"java/lang/String", "length", "()I"⟩ : MethodName)) (z := (⟨"java/lang/String", "length", "()I"⟩ : MethodName)) hown (mvT hZ (wd75 hw)) (mvT hZ (wd76 hw)) (notFace_of_selects (args := #[]) (mvT hZ (wd78 hw))) (mvT hZ (wd78 hw)) (mvT hZ (wd77 hw)) (by decide) (StrChars.Road.lenW (W := 1) hZ hln (kI := 4) (wd9 hw) Ex Vv Cc Kk hcd hbd Sz hz (Nat.le_of_ble_eq_true rfl) (by decide) (by decide)) qa3 qc3 (g := (mkF m 18 #[.val (.ref x), .val (.int (0 : Int32)), .val (.int (-1 : Int32)), .val (.int (1 : Int32))] [(.ref x), (.int (1 : Int32))])) rfl (by rw [hml]; rfl) (Steps.refl _) (argsL := []) (rest := [(.int (1 : Int32))]) (lenOf pd_len rfl) rfl (by show 2 * 0 + _ ≤ _; exact Nat.le_of_eq rfl) (hb hby d11_18) (fun _ _ => ⟨rfl, q1, (by decide : 0 + 0 ≤ _), (by decide : 0 + 0 ≤ _)⟩)
    dsimp only [Pt.U, Pt.locs, Pt.cells, Pt.slots] at X3 l3 y3 z3 st3 hQ3
    subst l3 y3 z3
    obtain ⟨rfl, rfl, q3⟩ := hQ3
    have N3 := Fr.app N1 (Fr.nil n0)
    obtain ⟨cq4, kq4, qa4, qb4, qc4⟩ := isOf hZ q3 Ex
    obtain ⟨_, _, ⟨T4, L4, k4, n4⟩, -, X4, ⟨Lc4, hQ4, l4, y4, z4⟩, st4⟩ := X3.virtualBack hx (y := (⟨"java/lang/String", "charAt", "(I)C"⟩ : MethodName)) (z := (⟨"java/lang/String", "charAt", "(I)C"⟩ : MethodName)) hown (mvT hZ (wd53 hw)) (mvT hZ (wd54 hw)) (notFace_of_selects (args := #[]) (mvT hZ (wd56 hw))) (mvT hZ (wd56 hw)) (mvT hZ (wd55 hw)) (by decide) (StrChars.Road.chN (W := 0) hZ hch (kI := 4) (wd9 hw) Ex Vv Cc Kk hcd hbd Sz hz Sf hfm (Nat.le_of_ble_eq_true rfl) (i := 1) (Nat.le_of_ble_eq_true rfl) (j := (1 : Int32)) (by decide) (by decide) (by decide)) qa4 qc4 (g := (mkF m 26 #[.val (.ref x), .val (.int (0 : Int32)), .val (.int (-1 : Int32)), .val (.int (1 : Int32))] [(.int (1 : Int32)), (.ref x)])) rfl (by rw [hml]; rfl) (Steps.refl _) (argsL := [(.int (1 : Int32))]) (rest := []) (lenOf pd_cha rfl) rfl (by show 2 * 0 + _ ≤ _; exact Nat.le_of_eq rfl) (hb hby d11_26) (fun _ _ => ⟨rfl, q3, (by decide : 0 + 0 ≤ _), (by decide : 0 + 0 ≤ _)⟩)
    dsimp only [Pt.U, Pt.locs, Pt.cells, Pt.slots] at X4 l4 y4 z4 st4 hQ4
    subst l4 y4 z4
    obtain ⟨rfl, rfl, q4⟩ := hQ4
    have N4 := Fr.app N3 (Fr.nil n0)
    obtain ⟨_, _, ⟨T5, L5, k5, n5⟩, -, X5, ⟨Lc5, hQ5, l5, y5, z5⟩, st5⟩ := Jvm.LawKit.callS X4 hx (y := (⟨"com/example/oxpecker/oxpecker/MessageTemplate", "isInName", "(C)Z"⟩ : MethodName)) hown (mvT hZ (wd85 hw)) (mvT hZ (wd86 hw)) (mvT hZ (wd32 hw)) (mvT hZ (wd87 hw)) (by decide) (backOf (W := 0) (rmin l Z a0 hw [] c1 h0 n0 Z0) hZ (wd87 hw) (wd32 hw) (by decide) (by decide)) (g := (mkF m 29 #[.val (.ref x), .val (.int (0 : Int32)), .val (.int (-1 : Int32)), .val (.int (1 : Int32))] [(.int c1)])) rfl (by rw [hml]; rfl) (argsL := [(.int c1)]) (rest := []) (lenOf pd_in rfl) rfl (by show 2 * 0 + _ ≤ _; exact Nat.le_of_eq rfl) (hb hby d11_29) (fun _ _ => ⟨rfl, q4, (by decide : 0 + 0 ≤ _), (by decide : 0 + 0 ≤ _)⟩)
    dsimp only [Pt.U, Pt.locs, Pt.cells, Pt.slots] at X5 l5 y5 z5 st5 hQ5
    subst l5 y5 z5
    obtain ⟨rfl, N5q, q5⟩ := hQ5
    have N5 := Fr.app N4 N5q
    have pre6 : ∀ t, Steps p.tables e below (T5.setTop (mkF m 32 #[.val (.ref x), .val (.int (0 : Int32)), .val (.int (-1 : Int32)), .val (.int (1 : Int32))] [(.int (own_in c1))])) t → Steps p.tables e below (s₁.setTop (entryFrame m #[(.ref x), (.int (0 : Int32))] 4)) t := fun t k => pre2 t (by
      show Steps p.tables e below (T1.setTop (mkF m 9 #[.val (.ref x), .val (.int (0 : Int32)), .val (.int (-1 : Int32)), .unset] [(.int (123 : Int32)), (.int c0)])) _
      refine XS.icmpNo X1.here hx rfl (hb hby d11_9) rfl (teq hc9).2 ?_
      refine XS.iloadN X1.here hx rfl (hb hby d11_12) rfl ?_
      refine XS.iconst X1.here hx rfl (hb hby d11_13) ?_
      refine XS.iadd X1.here hx rfl (hb hby d11_14) rfl ?_
      show Steps p.tables e below (T1.setTop (mkF m 15 #[.val (.ref x), .val (.int (0 : Int32)), .val (.int (-1 : Int32)), .unset] [(.int ((0 : Int32) + (1 : Int32)))])) _
      rw [show ((0 : Int32) + (1 : Int32)) = (1 : Int32) from by decide]
      refine XS.istoreN X1.here hx rfl (hb hby d11_15) rfl (l' := #[.val (.ref x), .val (.int (0 : Int32)), .val (.int (-1 : Int32)), .val (.int (1 : Int32))]) rfl ?_
      refine XS.iloadN X1.here hx rfl (hb hby d11_16) rfl ?_
      refine XS.aloadN X1.here hx rfl (hb hby d11_17) rfl rfl ?_
      refine st3.trans ?_
      refine XS.icmpNo X3.here hx rfl (hb hby d11_21) rfl (tlt (by decide : (1 : Int32) < (5 : Int32))).2.1 ?_
      refine XS.aloadN X3.here hx rfl (hb hby d11_24) rfl rfl ?_
      refine XS.iloadN X3.here hx rfl (hb hby d11_25) rfl ?_
      refine st4.trans ?_
      refine st5 _ ?_
      exact k)
    by_cases hc32 : (own_in c1) = (0 : Int32)
    · have pre7 : ∀ t, Steps p.tables e below (T5.setTop (mkF m 69 #[.val (.ref x), .val (.int (0 : Int32)), .val (.int (-1 : Int32)), .val (.int (1 : Int32))] [(.int (-1 : Int32))])) t → Steps p.tables e below (s₁.setTop (entryFrame m #[(.ref x), (.int (0 : Int32))] 4)) t := fun t k => pre6 t (by
        show Steps p.tables e below (T5.setTop (mkF m 32 #[.val (.ref x), .val (.int (0 : Int32)), .val (.int (-1 : Int32)), .val (.int (1 : Int32))] [(.int (own_in c1))])) _
        refine XS.ifYes X5.here hx rfl (pc0 := 32) (pc' := 41) rfl (hb hby d11_32) rfl ((if0 _ _).trans (teq hc32).1) (by decide) (by decide) ?_
        refine XS.iloadN X5.here hx rfl (hb hby d11_41) rfl ?_
        refine XS.iloadN X5.here hx rfl (hb hby d11_42) rfl ?_
        refine XS.iconst X5.here hx rfl (hb hby d11_43) ?_
        refine XS.iadd X5.here hx rfl (hb hby d11_44) rfl ?_
        show Steps p.tables e below (T5.setTop (mkF m 45 #[.val (.ref x), .val (.int (0 : Int32)), .val (.int (-1 : Int32)), .val (.int (1 : Int32))] [(.int ((0 : Int32) + (1 : Int32))), (.int (1 : Int32))])) _
        rw [show ((0 : Int32) + (1 : Int32)) = (1 : Int32) from by decide]
        refine XS.icmpYes X5.here hx rfl (pc0 := 45) (pc' := 68) rfl (hb hby d11_45) rfl (flt (by decide : ¬ ((1 : Int32) < (1 : Int32)))).2.2.2 (by decide) (by decide) ?_
        refine XS.iloadN X5.here hx rfl (hb hby d11_68) rfl ?_
        exact k)
      obtain ⟨fs8, hr8, hrun8, hended8, hW8, hsame8⟩ := X5.leave (v := some (.int (-1 : Int32))) (fun h => by rw [Bd.returns] at h; cases h)
      refine ⟨_, _, pre7 _ ?_, hrun8, hended8, _, _, rfl, ?_, ⟨_, rfl⟩, hW8, hsame8.mono (by decide) (by decide)⟩
      · show Steps p.tables e below (T5.setTop (mkF m 69 #[.val (.ref x), .val (.int (0 : Int32)), .val (.int (-1 : Int32)), .val (.int (1 : Int32))] [(.int (-1 : Int32))])) _
        exact retOut X5 hx (t := .int) Bd.returns rfl (Or.inl ⟨rfl, Or.inl rfl, _, rfl⟩) (hb hby d11_69) hr8
      · show Qpe5 Z x c0 c1 c2 c3 c4 h0 n0 _ T5.heap _
        rw [q5]
        exact ⟨_, rfl, N5, rfl, fun q => absurd q (by decide), fun q => by
          obtain ⟨w0, w1, w2, w3, w4⟩ := q
          first | contradiction | (exfalso; simp_all [own_in]; done)⟩
    obtain ⟨cq9, kq9, qa9, qb9, qc9⟩ := isOf hZ q5 Ex
    obtain ⟨_, _, ⟨T9, L9, k9, n9⟩, -, X9, ⟨Lc9, hQ9, l9, y9, z9⟩, st9⟩ := X5.virtualBack hx (y := (⟨"java/lang/String", "length", "()I"⟩ : MethodName)) (z := (⟨"java/lang/String", "length", "()I"⟩ : MethodName)) hown (mvT hZ (wd75 hw)) (mvT hZ (wd76 hw)) (notFace_of_selects (args := #[]) (mvT hZ (wd78 hw))) (mvT hZ (wd78 hw)) (mvT hZ (wd77 hw)) (by decide) (StrChars.Road.lenW (W := 1) hZ hln (kI := 4) (wd9 hw) Ex Vv Cc Kk hcd hbd Sz hz (Nat.le_of_ble_eq_true rfl) (by decide) (by decide)) qa9 qc9 (g := (mkF m 18 #[.val (.ref x), .val (.int (0 : Int32)), .val (.int (-1 : Int32)), .val (.int (2 : Int32))] [(.ref x), (.int (2 : Int32))])) rfl (by rw [hml]; rfl) (Steps.refl _) (argsL := []) (rest := [(.int (2 : Int32))]) (lenOf pd_len rfl) rfl (by show 2 * 0 + _ ≤ _; exact Nat.le_of_eq rfl) (hb hby d11_18) (fun _ _ => ⟨rfl, q5, (by decide : 0 + 0 ≤ _), (by decide : 0 + 0 ≤ _)⟩)
    dsimp only [Pt.U, Pt.locs, Pt.cells, Pt.slots] at X9 l9 y9 z9 st9 hQ9
    subst l9 y9 z9
    obtain ⟨rfl, rfl, q9⟩ := hQ9
    have N9 := Fr.app N5 (Fr.nil n0)
    obtain ⟨cq10, kq10, qa10, qb10, qc10⟩ := isOf hZ q9 Ex
    obtain ⟨_, _, ⟨T10, L10, k10, n10⟩, -, X10, ⟨Lc10, hQ10, l10, y10, z10⟩, st10⟩ := X9.virtualBack hx (y := (⟨"java/lang/String", "charAt", "(I)C"⟩ : MethodName)) (z := (⟨"java/lang/String", "charAt", "(I)C"⟩ : MethodName)) hown (mvT hZ (wd53 hw)) (mvT hZ (wd54 hw)) (notFace_of_selects (args := #[]) (mvT hZ (wd56 hw))) (mvT hZ (wd56 hw)) (mvT hZ (wd55 hw)) (by decide) (StrChars.Road.chN (W := 0) hZ hch (kI := 4) (wd9 hw) Ex Vv Cc Kk hcd hbd Sz hz Sf hfm (Nat.le_of_ble_eq_true rfl) (i := 2) (Nat.le_of_ble_eq_true rfl) (j := (2 : Int32)) (by decide) (by decide) (by decide)) qa10 qc10 (g := (mkF m 26 #[.val (.ref x), .val (.int (0 : Int32)), .val (.int (-1 : Int32)), .val (.int (2 : Int32))] [(.int (2 : Int32)), (.ref x)])) rfl (by rw [hml]; rfl) (Steps.refl _) (argsL := [(.int (2 : Int32))]) (rest := []) (lenOf pd_cha rfl) rfl (by show 2 * 0 + _ ≤ _; exact Nat.le_of_eq rfl) (hb hby d11_26) (fun _ _ => ⟨rfl, q9, (by decide : 0 + 0 ≤ _), (by decide : 0 + 0 ≤ _)⟩)
    dsimp only [Pt.U, Pt.locs, Pt.cells, Pt.slots] at X10 l10 y10 z10 st10 hQ10
    subst l10 y10 z10
    obtain ⟨rfl, rfl, q10⟩ := hQ10
    have N10 := Fr.app N9 (Fr.nil n0)
    obtain ⟨_, _, ⟨T11, L11, k11, n11⟩, -, X11, ⟨Lc11, hQ11, l11, y11, z11⟩, st11⟩ := Jvm.LawKit.callS X10 hx (y := (⟨"com/example/oxpecker/oxpecker/MessageTemplate", "isInName", "(C)Z"⟩ : MethodName)) hown (mvT hZ (wd85 hw)) (mvT hZ (wd86 hw)) (mvT hZ (wd32 hw)) (mvT hZ (wd87 hw)) (by decide) (backOf (W := 0) (rmin l Z a0 hw [] c2 h0 n0 Z0) hZ (wd87 hw) (wd32 hw) (by decide) (by decide)) (g := (mkF m 29 #[.val (.ref x), .val (.int (0 : Int32)), .val (.int (-1 : Int32)), .val (.int (2 : Int32))] [(.int c2)])) rfl (by rw [hml]; rfl) (argsL := [(.int c2)]) (rest := []) (lenOf pd_in rfl) rfl (by show 2 * 0 + _ ≤ _; exact Nat.le_of_eq rfl) (hb hby d11_29) (fun _ _ => ⟨rfl, q10, (by decide : 0 + 0 ≤ _), (by decide : 0 + 0 ≤ _)⟩)
    dsimp only [Pt.U, Pt.locs, Pt.cells, Pt.slots] at X11 l11 y11 z11 st11 hQ11
    subst l11 y11 z11
    obtain ⟨rfl, N11q, q11⟩ := hQ11
    have N11 := Fr.app N10 N11q
    have pre12 : ∀ t, Steps p.tables e below (T11.setTop (mkF m 32 #[.val (.ref x), .val (.int (0 : Int32)), .val (.int (-1 : Int32)), .val (.int (2 : Int32))] [(.int (own_in c2))])) t → Steps p.tables e below (s₁.setTop (entryFrame m #[(.ref x), (.int (0 : Int32))] 4)) t := fun t k => pre6 t (by
      show Steps p.tables e below (T5.setTop (mkF m 32 #[.val (.ref x), .val (.int (0 : Int32)), .val (.int (-1 : Int32)), .val (.int (1 : Int32))] [(.int (own_in c1))])) _
      refine XS.ifNo X5.here hx rfl (hb hby d11_32) rfl ((if0 _ _).trans (feq hc32).1) ?_
      refine XS.iinc X5.here hx rfl (hb hby d11_35) rfl (l' := #[.val (.ref x), .val (.int (0 : Int32)), .val (.int (-1 : Int32)), .val (.int ((1 : Int32) + (1 : Int32)))]) rfl ?_
      show Steps p.tables e below (T5.setTop (mkF m 38 #[.val (.ref x), .val (.int (0 : Int32)), .val (.int (-1 : Int32)), .val (.int ((1 : Int32) + (1 : Int32)))] [])) _
      rw [show ((1 : Int32) + (1 : Int32)) = (2 : Int32) from by decide]
      refine XS.goto X5.here hx rfl (pc0 := 38) (pc' := 16) rfl (hb hby d11_38) (by decide) (by decide) ?_
      refine XS.iloadN X5.here hx rfl (hb hby d11_16) rfl ?_
      refine XS.aloadN X5.here hx rfl (hb hby d11_17) rfl rfl ?_
      refine st9.trans ?_
      refine XS.icmpNo X9.here hx rfl (hb hby d11_21) rfl (tlt (by decide : (2 : Int32) < (5 : Int32))).2.1 ?_
      refine XS.aloadN X9.here hx rfl (hb hby d11_24) rfl rfl ?_
      refine XS.iloadN X9.here hx rfl (hb hby d11_25) rfl ?_
      refine st10.trans ?_
      refine st11 _ ?_
      exact k)
    by_cases hc32_13 : (own_in c2) = (0 : Int32)
    · obtain ⟨cq14, kq14, qa14, qb14, qc14⟩ := isOf hZ q11 Ex
      obtain ⟨_, _, ⟨T14, L14, k14, n14⟩, -, X14, ⟨Lc14, hQ14, l14, y14, z14⟩, st14⟩ := X11.virtualBack hx (y := (⟨"java/lang/String", "length", "()I"⟩ : MethodName)) (z := (⟨"java/lang/String", "length", "()I"⟩ : MethodName)) hown (mvT hZ (wd75 hw)) (mvT hZ (wd76 hw)) (notFace_of_selects (args := #[]) (mvT hZ (wd78 hw))) (mvT hZ (wd78 hw)) (mvT hZ (wd77 hw)) (by decide) (StrChars.Road.lenW (W := 1) hZ hln (kI := 4) (wd9 hw) Ex Vv Cc Kk hcd hbd Sz hz (Nat.le_of_ble_eq_true rfl) (by decide) (by decide)) qa14 qc14 (g := (mkF m 50 #[.val (.ref x), .val (.int (0 : Int32)), .val (.int (-1 : Int32)), .val (.int (2 : Int32))] [(.ref x), (.int (2 : Int32))])) rfl (by rw [hml]; rfl) (Steps.refl _) (argsL := []) (rest := [(.int (2 : Int32))]) (lenOf pd_len rfl) rfl (by show 2 * 0 + _ ≤ _; exact Nat.le_of_eq rfl) (hb hby d11_50) (fun _ _ => ⟨rfl, q11, (by decide : 0 + 0 ≤ _), (by decide : 0 + 0 ≤ _)⟩)
      dsimp only [Pt.U, Pt.locs, Pt.cells, Pt.slots] at X14 l14 y14 z14 st14 hQ14
      subst l14 y14 z14
      obtain ⟨rfl, rfl, q14⟩ := hQ14
      have N14 := Fr.app N11 (Fr.nil n0)
      obtain ⟨cq15, kq15, qa15, qb15, qc15⟩ := isOf hZ q14 Ex
      obtain ⟨_, _, ⟨T15, L15, k15, n15⟩, -, X15, ⟨Lc15, hQ15, l15, y15, z15⟩, st15⟩ := X14.virtualBack hx (y := (⟨"java/lang/String", "charAt", "(I)C"⟩ : MethodName)) (z := (⟨"java/lang/String", "charAt", "(I)C"⟩ : MethodName)) hown (mvT hZ (wd53 hw)) (mvT hZ (wd54 hw)) (notFace_of_selects (args := #[]) (mvT hZ (wd56 hw))) (mvT hZ (wd56 hw)) (mvT hZ (wd55 hw)) (by decide) (StrChars.Road.chN (W := 0) hZ hch (kI := 4) (wd9 hw) Ex Vv Cc Kk hcd hbd Sz hz Sf hfm (Nat.le_of_ble_eq_true rfl) (i := 2) (Nat.le_of_ble_eq_true rfl) (j := (2 : Int32)) (by decide) (by decide) (by decide)) qa15 qc15 (g := (mkF m 58 #[.val (.ref x), .val (.int (0 : Int32)), .val (.int (-1 : Int32)), .val (.int (2 : Int32))] [(.int (2 : Int32)), (.ref x)])) rfl (by rw [hml]; rfl) (Steps.refl _) (argsL := [(.int (2 : Int32))]) (rest := []) (lenOf pd_cha rfl) rfl (by show 2 * 0 + _ ≤ _; exact Nat.le_of_eq rfl) (hb hby d11_58) (fun _ _ => ⟨rfl, q14, (by decide : 0 + 0 ≤ _), (by decide : 0 + 0 ≤ _)⟩)
      dsimp only [Pt.U, Pt.locs, Pt.cells, Pt.slots] at X15 l15 y15 z15 st15 hQ15
      subst l15 y15 z15
      obtain ⟨rfl, rfl, q15⟩ := hQ15
      have N15 := Fr.app N14 (Fr.nil n0)
      have pre16 : ∀ t, Steps p.tables e below (T15.setTop (mkF m 63 #[.val (.ref x), .val (.int (0 : Int32)), .val (.int (-1 : Int32)), .val (.int (2 : Int32))] [(.int (125 : Int32)), (.int c2)])) t → Steps p.tables e below (s₁.setTop (entryFrame m #[(.ref x), (.int (0 : Int32))] 4)) t := fun t k => pre12 t (by
        show Steps p.tables e below (T11.setTop (mkF m 32 #[.val (.ref x), .val (.int (0 : Int32)), .val (.int (-1 : Int32)), .val (.int (2 : Int32))] [(.int (own_in c2))])) _
        refine XS.ifYes X11.here hx rfl (pc0 := 32) (pc' := 41) rfl (hb hby d11_32) rfl ((if0 _ _).trans (teq hc32_13).1) (by decide) (by decide) ?_
        refine XS.iloadN X11.here hx rfl (hb hby d11_41) rfl ?_
        refine XS.iloadN X11.here hx rfl (hb hby d11_42) rfl ?_
        refine XS.iconst X11.here hx rfl (hb hby d11_43) ?_
        refine XS.iadd X11.here hx rfl (hb hby d11_44) rfl ?_
        show Steps p.tables e below (T11.setTop (mkF m 45 #[.val (.ref x), .val (.int (0 : Int32)), .val (.int (-1 : Int32)), .val (.int (2 : Int32))] [(.int ((0 : Int32) + (1 : Int32))), (.int (2 : Int32))])) _
        rw [show ((0 : Int32) + (1 : Int32)) = (1 : Int32) from by decide]
        refine XS.icmpNo X11.here hx rfl (hb hby d11_45) rfl (tlt (by decide : (1 : Int32) < (2 : Int32))).2.2.2 ?_
        refine XS.iloadN X11.here hx rfl (hb hby d11_48) rfl ?_
        refine XS.aloadN X11.here hx rfl (hb hby d11_49) rfl rfl ?_
        refine st14.trans ?_
        refine XS.icmpNo X14.here hx rfl (hb hby d11_53) rfl (tlt (by decide : (2 : Int32) < (5 : Int32))).2.1 ?_
        refine XS.aloadN X14.here hx rfl (hb hby d11_56) rfl rfl ?_
        refine XS.iloadN X14.here hx rfl (hb hby d11_57) rfl ?_
        refine st15.trans ?_
        refine XS.bipush X15.here hx rfl (hb hby d11_61) ?_
        exact k)
      by_cases hc63 : c2 = (125 : Int32)
      · have pre17 : ∀ t, Steps p.tables e below (T15.setTop (mkF m 69 #[.val (.ref x), .val (.int (0 : Int32)), .val (.int (2 : Int32)), .val (.int (2 : Int32))] [(.int (2 : Int32))])) t → Steps p.tables e below (s₁.setTop (entryFrame m #[(.ref x), (.int (0 : Int32))] 4)) t := fun t k => pre16 t (by
          show Steps p.tables e below (T15.setTop (mkF m 63 #[.val (.ref x), .val (.int (0 : Int32)), .val (.int (-1 : Int32)), .val (.int (2 : Int32))] [(.int (125 : Int32)), (.int c2)])) _
          refine XS.icmpNo X15.here hx rfl (hb hby d11_63) rfl (teq hc63).2 ?_
          refine XS.iloadN X15.here hx rfl (hb hby d11_66) rfl ?_
          refine XS.istoreN X15.here hx rfl (hb hby d11_67) rfl (l' := #[.val (.ref x), .val (.int (0 : Int32)), .val (.int (2 : Int32)), .val (.int (2 : Int32))]) rfl ?_
          refine XS.iloadN X15.here hx rfl (hb hby d11_68) rfl ?_
          exact k)
        obtain ⟨fs18, hr18, hrun18, hended18, hW18, hsame18⟩ := X15.leave (v := some (.int (2 : Int32))) (fun h => by rw [Bd.returns] at h; cases h)
        refine ⟨_, _, pre17 _ ?_, hrun18, hended18, _, _, rfl, ?_, ⟨_, rfl⟩, hW18, hsame18.mono (by decide) (by decide)⟩
        · show Steps p.tables e below (T15.setTop (mkF m 69 #[.val (.ref x), .val (.int (0 : Int32)), .val (.int (2 : Int32)), .val (.int (2 : Int32))] [(.int (2 : Int32))])) _
          exact retOut X15 hx (t := .int) Bd.returns rfl (Or.inl ⟨rfl, Or.inl rfl, _, rfl⟩) (hb hby d11_69) hr18
        · show Qpe5 Z x c0 c1 c2 c3 c4 h0 n0 _ T15.heap _
          rw [q15]
          exact ⟨_, rfl, N15, rfl, fun q => absurd q (by decide), fun q => by
            obtain ⟨w0, w1, w2, w3, w4⟩ := q
            first | contradiction | (exfalso; simp_all [own_in]; done)⟩
      have pre19 : ∀ t, Steps p.tables e below (T15.setTop (mkF m 69 #[.val (.ref x), .val (.int (0 : Int32)), .val (.int (-1 : Int32)), .val (.int (2 : Int32))] [(.int (-1 : Int32))])) t → Steps p.tables e below (s₁.setTop (entryFrame m #[(.ref x), (.int (0 : Int32))] 4)) t := fun t k => pre16 t (by
        show Steps p.tables e below (T15.setTop (mkF m 63 #[.val (.ref x), .val (.int (0 : Int32)), .val (.int (-1 : Int32)), .val (.int (2 : Int32))] [(.int (125 : Int32)), (.int c2)])) _
        refine XS.icmpYes X15.here hx rfl (pc0 := 63) (pc' := 68) rfl (hb hby d11_63) rfl (feq hc63).2 (by decide) (by decide) ?_
        refine XS.iloadN X15.here hx rfl (hb hby d11_68) rfl ?_
        exact k)
      obtain ⟨fs20, hr20, hrun20, hended20, hW20, hsame20⟩ := X15.leave (v := some (.int (-1 : Int32))) (fun h => by rw [Bd.returns] at h; cases h)
      refine ⟨_, _, pre19 _ ?_, hrun20, hended20, _, _, rfl, ?_, ⟨_, rfl⟩, hW20, hsame20.mono (by decide) (by decide)⟩
      · show Steps p.tables e below (T15.setTop (mkF m 69 #[.val (.ref x), .val (.int (0 : Int32)), .val (.int (-1 : Int32)), .val (.int (2 : Int32))] [(.int (-1 : Int32))])) _
        exact retOut X15 hx (t := .int) Bd.returns rfl (Or.inl ⟨rfl, Or.inl rfl, _, rfl⟩) (hb hby d11_69) hr20
      · show Qpe5 Z x c0 c1 c2 c3 c4 h0 n0 _ T15.heap _
        rw [q15]
        exact ⟨_, rfl, N15, rfl, fun q => absurd q (by decide), fun q => by
          obtain ⟨w0, w1, w2, w3, w4⟩ := q
          first | contradiction | (exfalso; simp_all [own_in]; done)⟩
    obtain ⟨cq21, kq21, qa21, qb21, qc21⟩ := isOf hZ q11 Ex
    obtain ⟨_, _, ⟨T21, L21, k21, n21⟩, -, X21, ⟨Lc21, hQ21, l21, y21, z21⟩, st21⟩ := X11.virtualBack hx (y := (⟨"java/lang/String", "length", "()I"⟩ : MethodName)) (z := (⟨"java/lang/String", "length", "()I"⟩ : MethodName)) hown (mvT hZ (wd75 hw)) (mvT hZ (wd76 hw)) (notFace_of_selects (args := #[]) (mvT hZ (wd78 hw))) (mvT hZ (wd78 hw)) (mvT hZ (wd77 hw)) (by decide) (StrChars.Road.lenW (W := 1) hZ hln (kI := 4) (wd9 hw) Ex Vv Cc Kk hcd hbd Sz hz (Nat.le_of_ble_eq_true rfl) (by decide) (by decide)) qa21 qc21 (g := (mkF m 18 #[.val (.ref x), .val (.int (0 : Int32)), .val (.int (-1 : Int32)), .val (.int (3 : Int32))] [(.ref x), (.int (3 : Int32))])) rfl (by rw [hml]; rfl) (Steps.refl _) (argsL := []) (rest := [(.int (3 : Int32))]) (lenOf pd_len rfl) rfl (by show 2 * 0 + _ ≤ _; exact Nat.le_of_eq rfl) (hb hby d11_18) (fun _ _ => ⟨rfl, q11, (by decide : 0 + 0 ≤ _), (by decide : 0 + 0 ≤ _)⟩)
    dsimp only [Pt.U, Pt.locs, Pt.cells, Pt.slots] at X21 l21 y21 z21 st21 hQ21
    subst l21 y21 z21
    obtain ⟨rfl, rfl, q21⟩ := hQ21
    have N21 := Fr.app N11 (Fr.nil n0)
    obtain ⟨cq22, kq22, qa22, qb22, qc22⟩ := isOf hZ q21 Ex
    obtain ⟨_, _, ⟨T22, L22, k22, n22⟩, -, X22, ⟨Lc22, hQ22, l22, y22, z22⟩, st22⟩ := X21.virtualBack hx (y := (⟨"java/lang/String", "charAt", "(I)C"⟩ : MethodName)) (z := (⟨"java/lang/String", "charAt", "(I)C"⟩ : MethodName)) hown (mvT hZ (wd53 hw)) (mvT hZ (wd54 hw)) (notFace_of_selects (args := #[]) (mvT hZ (wd56 hw))) (mvT hZ (wd56 hw)) (mvT hZ (wd55 hw)) (by decide) (StrChars.Road.chN (W := 0) hZ hch (kI := 4) (wd9 hw) Ex Vv Cc Kk hcd hbd Sz hz Sf hfm (Nat.le_of_ble_eq_true rfl) (i := 3) (Nat.le_of_ble_eq_true rfl) (j := (3 : Int32)) (by decide) (by decide) (by decide)) qa22 qc22 (g := (mkF m 26 #[.val (.ref x), .val (.int (0 : Int32)), .val (.int (-1 : Int32)), .val (.int (3 : Int32))] [(.int (3 : Int32)), (.ref x)])) rfl (by rw [hml]; rfl) (Steps.refl _) (argsL := [(.int (3 : Int32))]) (rest := []) (lenOf pd_cha rfl) rfl (by show 2 * 0 + _ ≤ _; exact Nat.le_of_eq rfl) (hb hby d11_26) (fun _ _ => ⟨rfl, q21, (by decide : 0 + 0 ≤ _), (by decide : 0 + 0 ≤ _)⟩)
    dsimp only [Pt.U, Pt.locs, Pt.cells, Pt.slots] at X22 l22 y22 z22 st22 hQ22
    subst l22 y22 z22
    obtain ⟨rfl, rfl, q22⟩ := hQ22
    have N22 := Fr.app N21 (Fr.nil n0)
    obtain ⟨_, _, ⟨T23, L23, k23, n23⟩, -, X23, ⟨Lc23, hQ23, l23, y23, z23⟩, st23⟩ := Jvm.LawKit.callS X22 hx (y := (⟨"com/example/oxpecker/oxpecker/MessageTemplate", "isInName", "(C)Z"⟩ : MethodName)) hown (mvT hZ (wd85 hw)) (mvT hZ (wd86 hw)) (mvT hZ (wd32 hw)) (mvT hZ (wd87 hw)) (by decide) (backOf (W := 0) (rmin l Z a0 hw [] c3 h0 n0 Z0) hZ (wd87 hw) (wd32 hw) (by decide) (by decide)) (g := (mkF m 29 #[.val (.ref x), .val (.int (0 : Int32)), .val (.int (-1 : Int32)), .val (.int (3 : Int32))] [(.int c3)])) rfl (by rw [hml]; rfl) (argsL := [(.int c3)]) (rest := []) (lenOf pd_in rfl) rfl (by show 2 * 0 + _ ≤ _; exact Nat.le_of_eq rfl) (hb hby d11_29) (fun _ _ => ⟨rfl, q22, (by decide : 0 + 0 ≤ _), (by decide : 0 + 0 ≤ _)⟩)
    dsimp only [Pt.U, Pt.locs, Pt.cells, Pt.slots] at X23 l23 y23 z23 st23 hQ23
    subst l23 y23 z23
    obtain ⟨rfl, N23q, q23⟩ := hQ23
    have N23 := Fr.app N22 N23q
    have pre24 : ∀ t, Steps p.tables e below (T23.setTop (mkF m 32 #[.val (.ref x), .val (.int (0 : Int32)), .val (.int (-1 : Int32)), .val (.int (3 : Int32))] [(.int (own_in c3))])) t → Steps p.tables e below (s₁.setTop (entryFrame m #[(.ref x), (.int (0 : Int32))] 4)) t := fun t k => pre12 t (by
      show Steps p.tables e below (T11.setTop (mkF m 32 #[.val (.ref x), .val (.int (0 : Int32)), .val (.int (-1 : Int32)), .val (.int (2 : Int32))] [(.int (own_in c2))])) _
      refine XS.ifNo X11.here hx rfl (hb hby d11_32) rfl ((if0 _ _).trans (feq hc32_13).1) ?_
      refine XS.iinc X11.here hx rfl (hb hby d11_35) rfl (l' := #[.val (.ref x), .val (.int (0 : Int32)), .val (.int (-1 : Int32)), .val (.int ((2 : Int32) + (1 : Int32)))]) rfl ?_
      show Steps p.tables e below (T11.setTop (mkF m 38 #[.val (.ref x), .val (.int (0 : Int32)), .val (.int (-1 : Int32)), .val (.int ((2 : Int32) + (1 : Int32)))] [])) _
      rw [show ((2 : Int32) + (1 : Int32)) = (3 : Int32) from by decide]
      refine XS.goto X11.here hx rfl (pc0 := 38) (pc' := 16) rfl (hb hby d11_38) (by decide) (by decide) ?_
      refine XS.iloadN X11.here hx rfl (hb hby d11_16) rfl ?_
      refine XS.aloadN X11.here hx rfl (hb hby d11_17) rfl rfl ?_
      refine st21.trans ?_
      refine XS.icmpNo X21.here hx rfl (hb hby d11_21) rfl (tlt (by decide : (3 : Int32) < (5 : Int32))).2.1 ?_
      refine XS.aloadN X21.here hx rfl (hb hby d11_24) rfl rfl ?_
      refine XS.iloadN X21.here hx rfl (hb hby d11_25) rfl ?_
      refine st22.trans ?_
      refine st23 _ ?_
      exact k)
    by_cases hc32_25 : (own_in c3) = (0 : Int32)
    · obtain ⟨cq26, kq26, qa26, qb26, qc26⟩ := isOf hZ q23 Ex
      obtain ⟨_, _, ⟨T26, L26, k26, n26⟩, -, X26, ⟨Lc26, hQ26, l26, y26, z26⟩, st26⟩ := X23.virtualBack hx (y := (⟨"java/lang/String", "length", "()I"⟩ : MethodName)) (z := (⟨"java/lang/String", "length", "()I"⟩ : MethodName)) hown (mvT hZ (wd75 hw)) (mvT hZ (wd76 hw)) (notFace_of_selects (args := #[]) (mvT hZ (wd78 hw))) (mvT hZ (wd78 hw)) (mvT hZ (wd77 hw)) (by decide) (StrChars.Road.lenW (W := 1) hZ hln (kI := 4) (wd9 hw) Ex Vv Cc Kk hcd hbd Sz hz (Nat.le_of_ble_eq_true rfl) (by decide) (by decide)) qa26 qc26 (g := (mkF m 50 #[.val (.ref x), .val (.int (0 : Int32)), .val (.int (-1 : Int32)), .val (.int (3 : Int32))] [(.ref x), (.int (3 : Int32))])) rfl (by rw [hml]; rfl) (Steps.refl _) (argsL := []) (rest := [(.int (3 : Int32))]) (lenOf pd_len rfl) rfl (by show 2 * 0 + _ ≤ _; exact Nat.le_of_eq rfl) (hb hby d11_50) (fun _ _ => ⟨rfl, q23, (by decide : 0 + 0 ≤ _), (by decide : 0 + 0 ≤ _)⟩)
      dsimp only [Pt.U, Pt.locs, Pt.cells, Pt.slots] at X26 l26 y26 z26 st26 hQ26
      subst l26 y26 z26
      obtain ⟨rfl, rfl, q26⟩ := hQ26
      have N26 := Fr.app N23 (Fr.nil n0)
      obtain ⟨cq27, kq27, qa27, qb27, qc27⟩ := isOf hZ q26 Ex
      obtain ⟨_, _, ⟨T27, L27, k27, n27⟩, -, X27, ⟨Lc27, hQ27, l27, y27, z27⟩, st27⟩ := X26.virtualBack hx (y := (⟨"java/lang/String", "charAt", "(I)C"⟩ : MethodName)) (z := (⟨"java/lang/String", "charAt", "(I)C"⟩ : MethodName)) hown (mvT hZ (wd53 hw)) (mvT hZ (wd54 hw)) (notFace_of_selects (args := #[]) (mvT hZ (wd56 hw))) (mvT hZ (wd56 hw)) (mvT hZ (wd55 hw)) (by decide) (StrChars.Road.chN (W := 0) hZ hch (kI := 4) (wd9 hw) Ex Vv Cc Kk hcd hbd Sz hz Sf hfm (Nat.le_of_ble_eq_true rfl) (i := 3) (Nat.le_of_ble_eq_true rfl) (j := (3 : Int32)) (by decide) (by decide) (by decide)) qa27 qc27 (g := (mkF m 58 #[.val (.ref x), .val (.int (0 : Int32)), .val (.int (-1 : Int32)), .val (.int (3 : Int32))] [(.int (3 : Int32)), (.ref x)])) rfl (by rw [hml]; rfl) (Steps.refl _) (argsL := [(.int (3 : Int32))]) (rest := []) (lenOf pd_cha rfl) rfl (by show 2 * 0 + _ ≤ _; exact Nat.le_of_eq rfl) (hb hby d11_58) (fun _ _ => ⟨rfl, q26, (by decide : 0 + 0 ≤ _), (by decide : 0 + 0 ≤ _)⟩)
      dsimp only [Pt.U, Pt.locs, Pt.cells, Pt.slots] at X27 l27 y27 z27 st27 hQ27
      subst l27 y27 z27
      obtain ⟨rfl, rfl, q27⟩ := hQ27
      have N27 := Fr.app N26 (Fr.nil n0)
      have pre28 : ∀ t, Steps p.tables e below (T27.setTop (mkF m 63 #[.val (.ref x), .val (.int (0 : Int32)), .val (.int (-1 : Int32)), .val (.int (3 : Int32))] [(.int (125 : Int32)), (.int c3)])) t → Steps p.tables e below (s₁.setTop (entryFrame m #[(.ref x), (.int (0 : Int32))] 4)) t := fun t k => pre24 t (by
        show Steps p.tables e below (T23.setTop (mkF m 32 #[.val (.ref x), .val (.int (0 : Int32)), .val (.int (-1 : Int32)), .val (.int (3 : Int32))] [(.int (own_in c3))])) _
        refine XS.ifYes X23.here hx rfl (pc0 := 32) (pc' := 41) rfl (hb hby d11_32) rfl ((if0 _ _).trans (teq hc32_25).1) (by decide) (by decide) ?_
        refine XS.iloadN X23.here hx rfl (hb hby d11_41) rfl ?_
        refine XS.iloadN X23.here hx rfl (hb hby d11_42) rfl ?_
        refine XS.iconst X23.here hx rfl (hb hby d11_43) ?_
        refine XS.iadd X23.here hx rfl (hb hby d11_44) rfl ?_
        show Steps p.tables e below (T23.setTop (mkF m 45 #[.val (.ref x), .val (.int (0 : Int32)), .val (.int (-1 : Int32)), .val (.int (3 : Int32))] [(.int ((0 : Int32) + (1 : Int32))), (.int (3 : Int32))])) _
        rw [show ((0 : Int32) + (1 : Int32)) = (1 : Int32) from by decide]
        refine XS.icmpNo X23.here hx rfl (hb hby d11_45) rfl (tlt (by decide : (1 : Int32) < (3 : Int32))).2.2.2 ?_
        refine XS.iloadN X23.here hx rfl (hb hby d11_48) rfl ?_
        refine XS.aloadN X23.here hx rfl (hb hby d11_49) rfl rfl ?_
        refine st26.trans ?_
        refine XS.icmpNo X26.here hx rfl (hb hby d11_53) rfl (tlt (by decide : (3 : Int32) < (5 : Int32))).2.1 ?_
        refine XS.aloadN X26.here hx rfl (hb hby d11_56) rfl rfl ?_
        refine XS.iloadN X26.here hx rfl (hb hby d11_57) rfl ?_
        refine st27.trans ?_
        refine XS.bipush X27.here hx rfl (hb hby d11_61) ?_
        exact k)
      by_cases hc63 : c3 = (125 : Int32)
      · have pre29 : ∀ t, Steps p.tables e below (T27.setTop (mkF m 69 #[.val (.ref x), .val (.int (0 : Int32)), .val (.int (3 : Int32)), .val (.int (3 : Int32))] [(.int (3 : Int32))])) t → Steps p.tables e below (s₁.setTop (entryFrame m #[(.ref x), (.int (0 : Int32))] 4)) t := fun t k => pre28 t (by
          show Steps p.tables e below (T27.setTop (mkF m 63 #[.val (.ref x), .val (.int (0 : Int32)), .val (.int (-1 : Int32)), .val (.int (3 : Int32))] [(.int (125 : Int32)), (.int c3)])) _
          refine XS.icmpNo X27.here hx rfl (hb hby d11_63) rfl (teq hc63).2 ?_
          refine XS.iloadN X27.here hx rfl (hb hby d11_66) rfl ?_
          refine XS.istoreN X27.here hx rfl (hb hby d11_67) rfl (l' := #[.val (.ref x), .val (.int (0 : Int32)), .val (.int (3 : Int32)), .val (.int (3 : Int32))]) rfl ?_
          refine XS.iloadN X27.here hx rfl (hb hby d11_68) rfl ?_
          exact k)
        obtain ⟨fs30, hr30, hrun30, hended30, hW30, hsame30⟩ := X27.leave (v := some (.int (3 : Int32))) (fun h => by rw [Bd.returns] at h; cases h)
        refine ⟨_, _, pre29 _ ?_, hrun30, hended30, _, _, rfl, ?_, ⟨_, rfl⟩, hW30, hsame30.mono (by decide) (by decide)⟩
        · show Steps p.tables e below (T27.setTop (mkF m 69 #[.val (.ref x), .val (.int (0 : Int32)), .val (.int (3 : Int32)), .val (.int (3 : Int32))] [(.int (3 : Int32))])) _
          exact retOut X27 hx (t := .int) Bd.returns rfl (Or.inl ⟨rfl, Or.inl rfl, _, rfl⟩) (hb hby d11_69) hr30
        · show Qpe5 Z x c0 c1 c2 c3 c4 h0 n0 _ T27.heap _
          rw [q27]
          exact ⟨_, rfl, N27, rfl, fun q => absurd q (by decide), fun q => by
            obtain ⟨w0, w1, w2, w3, w4⟩ := q
            first | contradiction | (exfalso; simp_all [own_in]; done)⟩
      have pre31 : ∀ t, Steps p.tables e below (T27.setTop (mkF m 69 #[.val (.ref x), .val (.int (0 : Int32)), .val (.int (-1 : Int32)), .val (.int (3 : Int32))] [(.int (-1 : Int32))])) t → Steps p.tables e below (s₁.setTop (entryFrame m #[(.ref x), (.int (0 : Int32))] 4)) t := fun t k => pre28 t (by
        show Steps p.tables e below (T27.setTop (mkF m 63 #[.val (.ref x), .val (.int (0 : Int32)), .val (.int (-1 : Int32)), .val (.int (3 : Int32))] [(.int (125 : Int32)), (.int c3)])) _
        refine XS.icmpYes X27.here hx rfl (pc0 := 63) (pc' := 68) rfl (hb hby d11_63) rfl (feq hc63).2 (by decide) (by decide) ?_
        refine XS.iloadN X27.here hx rfl (hb hby d11_68) rfl ?_
        exact k)
      obtain ⟨fs32, hr32, hrun32, hended32, hW32, hsame32⟩ := X27.leave (v := some (.int (-1 : Int32))) (fun h => by rw [Bd.returns] at h; cases h)
      refine ⟨_, _, pre31 _ ?_, hrun32, hended32, _, _, rfl, ?_, ⟨_, rfl⟩, hW32, hsame32.mono (by decide) (by decide)⟩
      · show Steps p.tables e below (T27.setTop (mkF m 69 #[.val (.ref x), .val (.int (0 : Int32)), .val (.int (-1 : Int32)), .val (.int (3 : Int32))] [(.int (-1 : Int32))])) _
        exact retOut X27 hx (t := .int) Bd.returns rfl (Or.inl ⟨rfl, Or.inl rfl, _, rfl⟩) (hb hby d11_69) hr32
      · show Qpe5 Z x c0 c1 c2 c3 c4 h0 n0 _ T27.heap _
        rw [q27]
        exact ⟨_, rfl, N27, rfl, fun q => absurd q (by decide), fun q => by
          obtain ⟨w0, w1, w2, w3, w4⟩ := q
          first | contradiction | (exfalso; simp_all [own_in]; done)⟩
    obtain ⟨cq33, kq33, qa33, qb33, qc33⟩ := isOf hZ q23 Ex
    obtain ⟨_, _, ⟨T33, L33, k33, n33⟩, -, X33, ⟨Lc33, hQ33, l33, y33, z33⟩, st33⟩ := X23.virtualBack hx (y := (⟨"java/lang/String", "length", "()I"⟩ : MethodName)) (z := (⟨"java/lang/String", "length", "()I"⟩ : MethodName)) hown (mvT hZ (wd75 hw)) (mvT hZ (wd76 hw)) (notFace_of_selects (args := #[]) (mvT hZ (wd78 hw))) (mvT hZ (wd78 hw)) (mvT hZ (wd77 hw)) (by decide) (StrChars.Road.lenW (W := 1) hZ hln (kI := 4) (wd9 hw) Ex Vv Cc Kk hcd hbd Sz hz (Nat.le_of_ble_eq_true rfl) (by decide) (by decide)) qa33 qc33 (g := (mkF m 18 #[.val (.ref x), .val (.int (0 : Int32)), .val (.int (-1 : Int32)), .val (.int (4 : Int32))] [(.ref x), (.int (4 : Int32))])) rfl (by rw [hml]; rfl) (Steps.refl _) (argsL := []) (rest := [(.int (4 : Int32))]) (lenOf pd_len rfl) rfl (by show 2 * 0 + _ ≤ _; exact Nat.le_of_eq rfl) (hb hby d11_18) (fun _ _ => ⟨rfl, q23, (by decide : 0 + 0 ≤ _), (by decide : 0 + 0 ≤ _)⟩)
    dsimp only [Pt.U, Pt.locs, Pt.cells, Pt.slots] at X33 l33 y33 z33 st33 hQ33
    subst l33 y33 z33
    obtain ⟨rfl, rfl, q33⟩ := hQ33
    have N33 := Fr.app N23 (Fr.nil n0)
    obtain ⟨cq34, kq34, qa34, qb34, qc34⟩ := isOf hZ q33 Ex
    obtain ⟨_, _, ⟨T34, L34, k34, n34⟩, -, X34, ⟨Lc34, hQ34, l34, y34, z34⟩, st34⟩ := X33.virtualBack hx (y := (⟨"java/lang/String", "charAt", "(I)C"⟩ : MethodName)) (z := (⟨"java/lang/String", "charAt", "(I)C"⟩ : MethodName)) hown (mvT hZ (wd53 hw)) (mvT hZ (wd54 hw)) (notFace_of_selects (args := #[]) (mvT hZ (wd56 hw))) (mvT hZ (wd56 hw)) (mvT hZ (wd55 hw)) (by decide) (StrChars.Road.chN (W := 0) hZ hch (kI := 4) (wd9 hw) Ex Vv Cc Kk hcd hbd Sz hz Sf hfm (Nat.le_of_ble_eq_true rfl) (i := 4) (Nat.le_of_ble_eq_true rfl) (j := (4 : Int32)) (by decide) (by decide) (by decide)) qa34 qc34 (g := (mkF m 26 #[.val (.ref x), .val (.int (0 : Int32)), .val (.int (-1 : Int32)), .val (.int (4 : Int32))] [(.int (4 : Int32)), (.ref x)])) rfl (by rw [hml]; rfl) (Steps.refl _) (argsL := [(.int (4 : Int32))]) (rest := []) (lenOf pd_cha rfl) rfl (by show 2 * 0 + _ ≤ _; exact Nat.le_of_eq rfl) (hb hby d11_26) (fun _ _ => ⟨rfl, q33, (by decide : 0 + 0 ≤ _), (by decide : 0 + 0 ≤ _)⟩)
    dsimp only [Pt.U, Pt.locs, Pt.cells, Pt.slots] at X34 l34 y34 z34 st34 hQ34
    subst l34 y34 z34
    obtain ⟨rfl, rfl, q34⟩ := hQ34
    have N34 := Fr.app N33 (Fr.nil n0)
    obtain ⟨_, _, ⟨T35, L35, k35, n35⟩, -, X35, ⟨Lc35, hQ35, l35, y35, z35⟩, st35⟩ := Jvm.LawKit.callS X34 hx (y := (⟨"com/example/oxpecker/oxpecker/MessageTemplate", "isInName", "(C)Z"⟩ : MethodName)) hown (mvT hZ (wd85 hw)) (mvT hZ (wd86 hw)) (mvT hZ (wd32 hw)) (mvT hZ (wd87 hw)) (by decide) (backOf (W := 0) (rmin l Z a0 hw [] c4 h0 n0 Z0) hZ (wd87 hw) (wd32 hw) (by decide) (by decide)) (g := (mkF m 29 #[.val (.ref x), .val (.int (0 : Int32)), .val (.int (-1 : Int32)), .val (.int (4 : Int32))] [(.int c4)])) rfl (by rw [hml]; rfl) (argsL := [(.int c4)]) (rest := []) (lenOf pd_in rfl) rfl (by show 2 * 0 + _ ≤ _; exact Nat.le_of_eq rfl) (hb hby d11_29) (fun _ _ => ⟨rfl, q34, (by decide : 0 + 0 ≤ _), (by decide : 0 + 0 ≤ _)⟩)
    dsimp only [Pt.U, Pt.locs, Pt.cells, Pt.slots] at X35 l35 y35 z35 st35 hQ35
    subst l35 y35 z35
    obtain ⟨rfl, N35q, q35⟩ := hQ35
    have N35 := Fr.app N34 N35q
    have pre36 : ∀ t, Steps p.tables e below (T35.setTop (mkF m 32 #[.val (.ref x), .val (.int (0 : Int32)), .val (.int (-1 : Int32)), .val (.int (4 : Int32))] [(.int (own_in c4))])) t → Steps p.tables e below (s₁.setTop (entryFrame m #[(.ref x), (.int (0 : Int32))] 4)) t := fun t k => pre24 t (by
      show Steps p.tables e below (T23.setTop (mkF m 32 #[.val (.ref x), .val (.int (0 : Int32)), .val (.int (-1 : Int32)), .val (.int (3 : Int32))] [(.int (own_in c3))])) _
      refine XS.ifNo X23.here hx rfl (hb hby d11_32) rfl ((if0 _ _).trans (feq hc32_25).1) ?_
      refine XS.iinc X23.here hx rfl (hb hby d11_35) rfl (l' := #[.val (.ref x), .val (.int (0 : Int32)), .val (.int (-1 : Int32)), .val (.int ((3 : Int32) + (1 : Int32)))]) rfl ?_
      show Steps p.tables e below (T23.setTop (mkF m 38 #[.val (.ref x), .val (.int (0 : Int32)), .val (.int (-1 : Int32)), .val (.int ((3 : Int32) + (1 : Int32)))] [])) _
      rw [show ((3 : Int32) + (1 : Int32)) = (4 : Int32) from by decide]
      refine XS.goto X23.here hx rfl (pc0 := 38) (pc' := 16) rfl (hb hby d11_38) (by decide) (by decide) ?_
      refine XS.iloadN X23.here hx rfl (hb hby d11_16) rfl ?_
      refine XS.aloadN X23.here hx rfl (hb hby d11_17) rfl rfl ?_
      refine st33.trans ?_
      refine XS.icmpNo X33.here hx rfl (hb hby d11_21) rfl (tlt (by decide : (4 : Int32) < (5 : Int32))).2.1 ?_
      refine XS.aloadN X33.here hx rfl (hb hby d11_24) rfl rfl ?_
      refine XS.iloadN X33.here hx rfl (hb hby d11_25) rfl ?_
      refine st34.trans ?_
      refine st35 _ ?_
      exact k)
    by_cases hc32_37 : (own_in c4) = (0 : Int32)
    · obtain ⟨cq38, kq38, qa38, qb38, qc38⟩ := isOf hZ q35 Ex
      obtain ⟨_, _, ⟨T38, L38, k38, n38⟩, -, X38, ⟨Lc38, hQ38, l38, y38, z38⟩, st38⟩ := X35.virtualBack hx (y := (⟨"java/lang/String", "length", "()I"⟩ : MethodName)) (z := (⟨"java/lang/String", "length", "()I"⟩ : MethodName)) hown (mvT hZ (wd75 hw)) (mvT hZ (wd76 hw)) (notFace_of_selects (args := #[]) (mvT hZ (wd78 hw))) (mvT hZ (wd78 hw)) (mvT hZ (wd77 hw)) (by decide) (StrChars.Road.lenW (W := 1) hZ hln (kI := 4) (wd9 hw) Ex Vv Cc Kk hcd hbd Sz hz (Nat.le_of_ble_eq_true rfl) (by decide) (by decide)) qa38 qc38 (g := (mkF m 50 #[.val (.ref x), .val (.int (0 : Int32)), .val (.int (-1 : Int32)), .val (.int (4 : Int32))] [(.ref x), (.int (4 : Int32))])) rfl (by rw [hml]; rfl) (Steps.refl _) (argsL := []) (rest := [(.int (4 : Int32))]) (lenOf pd_len rfl) rfl (by show 2 * 0 + _ ≤ _; exact Nat.le_of_eq rfl) (hb hby d11_50) (fun _ _ => ⟨rfl, q35, (by decide : 0 + 0 ≤ _), (by decide : 0 + 0 ≤ _)⟩)
      dsimp only [Pt.U, Pt.locs, Pt.cells, Pt.slots] at X38 l38 y38 z38 st38 hQ38
      subst l38 y38 z38
      obtain ⟨rfl, rfl, q38⟩ := hQ38
      have N38 := Fr.app N35 (Fr.nil n0)
      obtain ⟨cq39, kq39, qa39, qb39, qc39⟩ := isOf hZ q38 Ex
      obtain ⟨_, _, ⟨T39, L39, k39, n39⟩, -, X39, ⟨Lc39, hQ39, l39, y39, z39⟩, st39⟩ := X38.virtualBack hx (y := (⟨"java/lang/String", "charAt", "(I)C"⟩ : MethodName)) (z := (⟨"java/lang/String", "charAt", "(I)C"⟩ : MethodName)) hown (mvT hZ (wd53 hw)) (mvT hZ (wd54 hw)) (notFace_of_selects (args := #[]) (mvT hZ (wd56 hw))) (mvT hZ (wd56 hw)) (mvT hZ (wd55 hw)) (by decide) (StrChars.Road.chN (W := 0) hZ hch (kI := 4) (wd9 hw) Ex Vv Cc Kk hcd hbd Sz hz Sf hfm (Nat.le_of_ble_eq_true rfl) (i := 4) (Nat.le_of_ble_eq_true rfl) (j := (4 : Int32)) (by decide) (by decide) (by decide)) qa39 qc39 (g := (mkF m 58 #[.val (.ref x), .val (.int (0 : Int32)), .val (.int (-1 : Int32)), .val (.int (4 : Int32))] [(.int (4 : Int32)), (.ref x)])) rfl (by rw [hml]; rfl) (Steps.refl _) (argsL := [(.int (4 : Int32))]) (rest := []) (lenOf pd_cha rfl) rfl (by show 2 * 0 + _ ≤ _; exact Nat.le_of_eq rfl) (hb hby d11_58) (fun _ _ => ⟨rfl, q38, (by decide : 0 + 0 ≤ _), (by decide : 0 + 0 ≤ _)⟩)
      dsimp only [Pt.U, Pt.locs, Pt.cells, Pt.slots] at X39 l39 y39 z39 st39 hQ39
      subst l39 y39 z39
      obtain ⟨rfl, rfl, q39⟩ := hQ39
      have N39 := Fr.app N38 (Fr.nil n0)
      have pre40 : ∀ t, Steps p.tables e below (T39.setTop (mkF m 63 #[.val (.ref x), .val (.int (0 : Int32)), .val (.int (-1 : Int32)), .val (.int (4 : Int32))] [(.int (125 : Int32)), (.int c4)])) t → Steps p.tables e below (s₁.setTop (entryFrame m #[(.ref x), (.int (0 : Int32))] 4)) t := fun t k => pre36 t (by
        show Steps p.tables e below (T35.setTop (mkF m 32 #[.val (.ref x), .val (.int (0 : Int32)), .val (.int (-1 : Int32)), .val (.int (4 : Int32))] [(.int (own_in c4))])) _
        refine XS.ifYes X35.here hx rfl (pc0 := 32) (pc' := 41) rfl (hb hby d11_32) rfl ((if0 _ _).trans (teq hc32_37).1) (by decide) (by decide) ?_
        refine XS.iloadN X35.here hx rfl (hb hby d11_41) rfl ?_
        refine XS.iloadN X35.here hx rfl (hb hby d11_42) rfl ?_
        refine XS.iconst X35.here hx rfl (hb hby d11_43) ?_
        refine XS.iadd X35.here hx rfl (hb hby d11_44) rfl ?_
        show Steps p.tables e below (T35.setTop (mkF m 45 #[.val (.ref x), .val (.int (0 : Int32)), .val (.int (-1 : Int32)), .val (.int (4 : Int32))] [(.int ((0 : Int32) + (1 : Int32))), (.int (4 : Int32))])) _
        rw [show ((0 : Int32) + (1 : Int32)) = (1 : Int32) from by decide]
        refine XS.icmpNo X35.here hx rfl (hb hby d11_45) rfl (tlt (by decide : (1 : Int32) < (4 : Int32))).2.2.2 ?_
        refine XS.iloadN X35.here hx rfl (hb hby d11_48) rfl ?_
        refine XS.aloadN X35.here hx rfl (hb hby d11_49) rfl rfl ?_
        refine st38.trans ?_
        refine XS.icmpNo X38.here hx rfl (hb hby d11_53) rfl (tlt (by decide : (4 : Int32) < (5 : Int32))).2.1 ?_
        refine XS.aloadN X38.here hx rfl (hb hby d11_56) rfl rfl ?_
        refine XS.iloadN X38.here hx rfl (hb hby d11_57) rfl ?_
        refine st39.trans ?_
        refine XS.bipush X39.here hx rfl (hb hby d11_61) ?_
        exact k)
      by_cases hc63 : c4 = (125 : Int32)
      · have pre41 : ∀ t, Steps p.tables e below (T39.setTop (mkF m 69 #[.val (.ref x), .val (.int (0 : Int32)), .val (.int (4 : Int32)), .val (.int (4 : Int32))] [(.int (4 : Int32))])) t → Steps p.tables e below (s₁.setTop (entryFrame m #[(.ref x), (.int (0 : Int32))] 4)) t := fun t k => pre40 t (by
          show Steps p.tables e below (T39.setTop (mkF m 63 #[.val (.ref x), .val (.int (0 : Int32)), .val (.int (-1 : Int32)), .val (.int (4 : Int32))] [(.int (125 : Int32)), (.int c4)])) _
          refine XS.icmpNo X39.here hx rfl (hb hby d11_63) rfl (teq hc63).2 ?_
          refine XS.iloadN X39.here hx rfl (hb hby d11_66) rfl ?_
          refine XS.istoreN X39.here hx rfl (hb hby d11_67) rfl (l' := #[.val (.ref x), .val (.int (0 : Int32)), .val (.int (4 : Int32)), .val (.int (4 : Int32))]) rfl ?_
          refine XS.iloadN X39.here hx rfl (hb hby d11_68) rfl ?_
          exact k)
        obtain ⟨fs42, hr42, hrun42, hended42, hW42, hsame42⟩ := X39.leave (v := some (.int (4 : Int32))) (fun h => by rw [Bd.returns] at h; cases h)
        refine ⟨_, _, pre41 _ ?_, hrun42, hended42, _, _, rfl, ?_, ⟨_, rfl⟩, hW42, hsame42.mono (by decide) (by decide)⟩
        · show Steps p.tables e below (T39.setTop (mkF m 69 #[.val (.ref x), .val (.int (0 : Int32)), .val (.int (4 : Int32)), .val (.int (4 : Int32))] [(.int (4 : Int32))])) _
          exact retOut X39 hx (t := .int) Bd.returns rfl (Or.inl ⟨rfl, Or.inl rfl, _, rfl⟩) (hb hby d11_69) hr42
        · show Qpe5 Z x c0 c1 c2 c3 c4 h0 n0 _ T39.heap _
          rw [q39]
          exact ⟨_, rfl, N39, rfl, fun _ => ⟨hc9, hc32, hc32_13, hc32_25, hc63⟩, fun _ => by decide⟩
      have pre43 : ∀ t, Steps p.tables e below (T39.setTop (mkF m 69 #[.val (.ref x), .val (.int (0 : Int32)), .val (.int (-1 : Int32)), .val (.int (4 : Int32))] [(.int (-1 : Int32))])) t → Steps p.tables e below (s₁.setTop (entryFrame m #[(.ref x), (.int (0 : Int32))] 4)) t := fun t k => pre40 t (by
        show Steps p.tables e below (T39.setTop (mkF m 63 #[.val (.ref x), .val (.int (0 : Int32)), .val (.int (-1 : Int32)), .val (.int (4 : Int32))] [(.int (125 : Int32)), (.int c4)])) _
        refine XS.icmpYes X39.here hx rfl (pc0 := 63) (pc' := 68) rfl (hb hby d11_63) rfl (feq hc63).2 (by decide) (by decide) ?_
        refine XS.iloadN X39.here hx rfl (hb hby d11_68) rfl ?_
        exact k)
      obtain ⟨fs44, hr44, hrun44, hended44, hW44, hsame44⟩ := X39.leave (v := some (.int (-1 : Int32))) (fun h => by rw [Bd.returns] at h; cases h)
      refine ⟨_, _, pre43 _ ?_, hrun44, hended44, _, _, rfl, ?_, ⟨_, rfl⟩, hW44, hsame44.mono (by decide) (by decide)⟩
      · show Steps p.tables e below (T39.setTop (mkF m 69 #[.val (.ref x), .val (.int (0 : Int32)), .val (.int (-1 : Int32)), .val (.int (4 : Int32))] [(.int (-1 : Int32))])) _
        exact retOut X39 hx (t := .int) Bd.returns rfl (Or.inl ⟨rfl, Or.inl rfl, _, rfl⟩) (hb hby d11_69) hr44
      · show Qpe5 Z x c0 c1 c2 c3 c4 h0 n0 _ T39.heap _
        rw [q39]
        exact ⟨_, rfl, N39, rfl, fun q => absurd q (by decide), fun q => by
          obtain ⟨w0, w1, w2, w3, w4⟩ := q
          first | contradiction | (exfalso; simp_all [own_in]; done)⟩
    obtain ⟨cq45, kq45, qa45, qb45, qc45⟩ := isOf hZ q35 Ex
    obtain ⟨_, _, ⟨T45, L45, k45, n45⟩, -, X45, ⟨Lc45, hQ45, l45, y45, z45⟩, st45⟩ := X35.virtualBack hx (y := (⟨"java/lang/String", "length", "()I"⟩ : MethodName)) (z := (⟨"java/lang/String", "length", "()I"⟩ : MethodName)) hown (mvT hZ (wd75 hw)) (mvT hZ (wd76 hw)) (notFace_of_selects (args := #[]) (mvT hZ (wd78 hw))) (mvT hZ (wd78 hw)) (mvT hZ (wd77 hw)) (by decide) (StrChars.Road.lenW (W := 1) hZ hln (kI := 4) (wd9 hw) Ex Vv Cc Kk hcd hbd Sz hz (Nat.le_of_ble_eq_true rfl) (by decide) (by decide)) qa45 qc45 (g := (mkF m 18 #[.val (.ref x), .val (.int (0 : Int32)), .val (.int (-1 : Int32)), .val (.int (5 : Int32))] [(.ref x), (.int (5 : Int32))])) rfl (by rw [hml]; rfl) (Steps.refl _) (argsL := []) (rest := [(.int (5 : Int32))]) (lenOf pd_len rfl) rfl (by show 2 * 0 + _ ≤ _; exact Nat.le_of_eq rfl) (hb hby d11_18) (fun _ _ => ⟨rfl, q35, (by decide : 0 + 0 ≤ _), (by decide : 0 + 0 ≤ _)⟩)
    dsimp only [Pt.U, Pt.locs, Pt.cells, Pt.slots] at X45 l45 y45 z45 st45 hQ45
    subst l45 y45 z45
    obtain ⟨rfl, rfl, q45⟩ := hQ45
    have N45 := Fr.app N35 (Fr.nil n0)
    obtain ⟨cq46, kq46, qa46, qb46, qc46⟩ := isOf hZ q45 Ex
    obtain ⟨_, _, ⟨T46, L46, k46, n46⟩, -, X46, ⟨Lc46, hQ46, l46, y46, z46⟩, st46⟩ := X45.virtualBack hx (y := (⟨"java/lang/String", "length", "()I"⟩ : MethodName)) (z := (⟨"java/lang/String", "length", "()I"⟩ : MethodName)) hown (mvT hZ (wd75 hw)) (mvT hZ (wd76 hw)) (notFace_of_selects (args := #[]) (mvT hZ (wd78 hw))) (mvT hZ (wd78 hw)) (mvT hZ (wd77 hw)) (by decide) (StrChars.Road.lenW (W := 1) hZ hln (kI := 4) (wd9 hw) Ex Vv Cc Kk hcd hbd Sz hz (Nat.le_of_ble_eq_true rfl) (by decide) (by decide)) qa46 qc46 (g := (mkF m 50 #[.val (.ref x), .val (.int (0 : Int32)), .val (.int (-1 : Int32)), .val (.int (5 : Int32))] [(.ref x), (.int (5 : Int32))])) rfl (by rw [hml]; rfl) (Steps.refl _) (argsL := []) (rest := [(.int (5 : Int32))]) (lenOf pd_len rfl) rfl (by show 2 * 0 + _ ≤ _; exact Nat.le_of_eq rfl) (hb hby d11_50) (fun _ _ => ⟨rfl, q45, (by decide : 0 + 0 ≤ _), (by decide : 0 + 0 ≤ _)⟩)
    dsimp only [Pt.U, Pt.locs, Pt.cells, Pt.slots] at X46 l46 y46 z46 st46 hQ46
    subst l46 y46 z46
    obtain ⟨rfl, rfl, q46⟩ := hQ46
    have N46 := Fr.app N45 (Fr.nil n0)
    have pre47 : ∀ t, Steps p.tables e below (T46.setTop (mkF m 69 #[.val (.ref x), .val (.int (0 : Int32)), .val (.int (-1 : Int32)), .val (.int (5 : Int32))] [(.int (-1 : Int32))])) t → Steps p.tables e below (s₁.setTop (entryFrame m #[(.ref x), (.int (0 : Int32))] 4)) t := fun t k => pre36 t (by
      show Steps p.tables e below (T35.setTop (mkF m 32 #[.val (.ref x), .val (.int (0 : Int32)), .val (.int (-1 : Int32)), .val (.int (4 : Int32))] [(.int (own_in c4))])) _
      refine XS.ifNo X35.here hx rfl (hb hby d11_32) rfl ((if0 _ _).trans (feq hc32_37).1) ?_
      refine XS.iinc X35.here hx rfl (hb hby d11_35) rfl (l' := #[.val (.ref x), .val (.int (0 : Int32)), .val (.int (-1 : Int32)), .val (.int ((4 : Int32) + (1 : Int32)))]) rfl ?_
      show Steps p.tables e below (T35.setTop (mkF m 38 #[.val (.ref x), .val (.int (0 : Int32)), .val (.int (-1 : Int32)), .val (.int ((4 : Int32) + (1 : Int32)))] [])) _
      rw [show ((4 : Int32) + (1 : Int32)) = (5 : Int32) from by decide]
      refine XS.goto X35.here hx rfl (pc0 := 38) (pc' := 16) rfl (hb hby d11_38) (by decide) (by decide) ?_
      refine XS.iloadN X35.here hx rfl (hb hby d11_16) rfl ?_
      refine XS.aloadN X35.here hx rfl (hb hby d11_17) rfl rfl ?_
      refine st45.trans ?_
      refine XS.icmpYes X45.here hx rfl (pc0 := 21) (pc' := 41) rfl (hb hby d11_21) rfl (flt (by decide : ¬ ((5 : Int32) < (5 : Int32)))).2.1 (by decide) (by decide) ?_
      refine XS.iloadN X45.here hx rfl (hb hby d11_41) rfl ?_
      refine XS.iloadN X45.here hx rfl (hb hby d11_42) rfl ?_
      refine XS.iconst X45.here hx rfl (hb hby d11_43) ?_
      refine XS.iadd X45.here hx rfl (hb hby d11_44) rfl ?_
      show Steps p.tables e below (T45.setTop (mkF m 45 #[.val (.ref x), .val (.int (0 : Int32)), .val (.int (-1 : Int32)), .val (.int (5 : Int32))] [(.int ((0 : Int32) + (1 : Int32))), (.int (5 : Int32))])) _
      rw [show ((0 : Int32) + (1 : Int32)) = (1 : Int32) from by decide]
      refine XS.icmpNo X45.here hx rfl (hb hby d11_45) rfl (tlt (by decide : (1 : Int32) < (5 : Int32))).2.2.2 ?_
      refine XS.iloadN X45.here hx rfl (hb hby d11_48) rfl ?_
      refine XS.aloadN X45.here hx rfl (hb hby d11_49) rfl rfl ?_
      refine st46.trans ?_
      refine XS.icmpYes X46.here hx rfl (pc0 := 53) (pc' := 68) rfl (hb hby d11_53) rfl (flt (by decide : ¬ ((5 : Int32) < (5 : Int32)))).2.1 (by decide) (by decide) ?_
      refine XS.iloadN X46.here hx rfl (hb hby d11_68) rfl ?_
      exact k)
    obtain ⟨fs48, hr48, hrun48, hended48, hW48, hsame48⟩ := X46.leave (v := some (.int (-1 : Int32))) (fun h => by rw [Bd.returns] at h; cases h)
    refine ⟨_, _, pre47 _ ?_, hrun48, hended48, _, _, rfl, ?_, ⟨_, rfl⟩, hW48, hsame48.mono (by decide) (by decide)⟩
    · show Steps p.tables e below (T46.setTop (mkF m 69 #[.val (.ref x), .val (.int (0 : Int32)), .val (.int (-1 : Int32)), .val (.int (5 : Int32))] [(.int (-1 : Int32))])) _
      exact retOut X46 hx (t := .int) Bd.returns rfl (Or.inl ⟨rfl, Or.inl rfl, _, rfl⟩) (hb hby d11_69) hr48
    · show Qpe5 Z x c0 c1 c2 c3 c4 h0 n0 _ T46.heap _
      rw [q46]
      exact ⟨_, rfl, N46, rfl, fun q => absurd q (by decide), fun q => by
        obtain ⟨w0, w1, w2, w3, w4⟩ := q
        first | contradiction | (exfalso; simp_all [own_in]; done)⟩
  have pre49 : ∀ t, Steps p.tables e below (T1.setTop (mkF m 69 #[.val (.ref x), .val (.int (0 : Int32)), .val (.int (-1 : Int32)), .unset] [(.int (-1 : Int32))])) t → Steps p.tables e below (s₁.setTop (entryFrame m #[(.ref x), (.int (0 : Int32))] 4)) t := fun t k => pre2 t (by
    show Steps p.tables e below (T1.setTop (mkF m 9 #[.val (.ref x), .val (.int (0 : Int32)), .val (.int (-1 : Int32)), .unset] [(.int (123 : Int32)), (.int c0)])) _
    refine XS.icmpYes X1.here hx rfl (pc0 := 9) (pc' := 68) rfl (hb hby d11_9) rfl (feq hc9).2 (by decide) (by decide) ?_
    refine XS.iloadN X1.here hx rfl (hb hby d11_68) rfl ?_
    exact k)
  obtain ⟨fs50, hr50, hrun50, hended50, hW50, hsame50⟩ := X1.leave (v := some (.int (-1 : Int32))) (fun h => by rw [Bd.returns] at h; cases h)
  refine ⟨_, _, pre49 _ ?_, hrun50, hended50, _, _, rfl, ?_, ⟨_, rfl⟩, hW50, hsame50.mono (by decide) (by decide)⟩
  · show Steps p.tables e below (T1.setTop (mkF m 69 #[.val (.ref x), .val (.int (0 : Int32)), .val (.int (-1 : Int32)), .unset] [(.int (-1 : Int32))])) _
    exact retOut X1 hx (t := .int) Bd.returns rfl (Or.inl ⟨rfl, Or.inl rfl, _, rfl⟩) (hb hby d11_69) hr50
  · show Qpe5 Z x c0 c1 c2 c3 c4 h0 n0 _ T1.heap _
    rw [q1]
    exact ⟨_, rfl, N1, rfl, fun q => absurd q (by decide), fun q => by
      obtain ⟨w0, w1, w2, w3, w4⟩ := q
      first | contradiction | (exfalso; simp_all [own_in]; done)⟩

theorem pd_spN1 : parseMethodDescriptor "(Ljava/lang/String;)Ljava/lang/String;" = some ⟨[(.object "java/lang/String")], some (.object "java/lang/String")⟩ := by decide +kernel

theorem ef_spN1 (m : MethodId) (x0 : Addr)  : entryFrame m #[(.ref x0)] 2 = mkF m 0 #[.val (.ref x0), .unset] [] := by first | (simp [entryFrame, mkF, argsToLocals, Value.category]; done) | rfl
def QspN1 (Z : State) (x : Addr) (c0 : Int32) (h0 : Heap) (n0 : Nat) (v : Option Value) (h : Heap) (L : List Loc) : Prop := v = some .null ∧ Fr n0 L ∧ h = h0
set_option maxRecDepth 65536 in
set_option maxHeartbeats 40000000 in
theorem rmspN1 (l : Launch) (Z : State) (a0 : Array Value) (hw : ∀ d ∈ tables_1, d.before a0 Z = true) (ws : List Jvm.Cond) (x : Addr) (c0 : Int32) (h0 : Heap) (n0 : Nat) (Z0 : n0 ≤ h0.size) (SX : own_str Z h0 x [c0]) (EN : own_env Z h0) (hpr : own_pr [c0]) (hs : ¬ own_sole1 c0) :
    MetFree l (⟨"com/example/oxpecker/oxpecker/MessageTemplate", "soleParameter", "(Ljava/lang/String;)Ljava/lang/String;"⟩ : MethodName) (head1 (Jvm.Cond.code (⟨"com/example/oxpecker/oxpecker/MessageTemplate", "soleParameter", "(Ljava/lang/String;)Ljava/lang/String;"⟩ : MethodName) prog_5_method_4_code 2 (some (.object "java/lang/String")) :: ws) ({ frames := 5, cells := 0, slots := 0, locals := 70 } : Room)) (fun a U => a = #[(.ref x)] ∧ Z.Warmed39 U.vm ∧ U.heap = h0) (fun _ _ _ _ _ => True) (fun _ U o U' => ∃ v L, o = .returned v ∧ QspN1 Z x c0 h0 n0 v U'.heap L ∧ FrameEnd U o U' L ({ frames := 5, cells := 0, slots := 0, locals := 70 } : Room).cells ({ frames := 5, cells := 0, slots := 0, locals := 70 } : Room).slots) := by
  refine MetFree.of_bodySF (plainFor_of_name pn_k1) hisR ?_
  intro p e s m args below meth c s₁ Bd hml0 hP hK
  obtain ⟨rfl, hZ, hh⟩ := hP
  have hx := Bd.exec
  have hby := Bd.bytes
  have hml : c.maxLocals = 2 := hml0
  have hown : s.vm.findClass "com/example/oxpecker/oxpecker/MessageTemplate" = some m.cls := findClass_of_methodNamed Bd.named
  have hnm := (name_of_methodNamed Bd.named Bd.method).1
  have X0 : Stand p l e ({ frames := 5, cells := 0, slots := 0, locals := 70 } : Room) s m #[(.ref x)] below meth c s₁ [] 0 0 := Stand.of_body Bd
  have e0 : s₁.heap = h0 := by rw [← hh, Bd.state]; rfl
  have N0 := Fr.nil n0
  have pre0 : ∀ t, Steps p.tables e below (s₁.setTop (mkF m 0 #[.val (.ref x), .unset] [])) t → Steps p.tables e below (s₁.setTop (entryFrame m #[(.ref x)] 2)) t := fun t k => castTop (ef_spN1 m x) k
  have SX0 := SX
  have EN0 := EN
  obtain ⟨tv, kb, Ex, Vv, Cc, Kk⟩ := SX
  obtain ⟨z, fm, Sz, hz, Sf, hfm⟩ := EN
  have hcd := own_cod hpr
  have hbd := own_up hpr
  have hln : ∀ d ∈ StrChars.Road.wordsLen, d.before a0 Z = true := fun d hd => hw d ((by decide +kernel : ∀ d ∈ StrChars.Road.wordsLen, d ∈ tables_1) d hd)
  have hch : ∀ d ∈ StrChars.Road.wordsChN, d.before a0 Z = true := fun d hd => hw d ((by decide +kernel : ∀ d ∈ StrChars.Road.wordsChN, d ∈ tables_1) d hd)
  have hep : ∀ d ∈ StrChars.Road.wordsEmp, d.before a0 Z = true := fun d hd => hw d ((by decide +kernel : ∀ d ∈ StrChars.Road.wordsEmp, d ∈ tables_1) d hd)
  obtain ⟨cq1, kq1, qa1, qb1, qc1⟩ := isOf hZ e0 Ex
  obtain ⟨_, _, ⟨T1, L1, k1, n1⟩, -, X1, ⟨Lc1, hQ1, l1, y1, z1⟩, st1⟩ := X0.virtualBack hx (y := (⟨"java/lang/String", "isEmpty", "()Z"⟩ : MethodName)) (z := (⟨"java/lang/String", "isEmpty", "()Z"⟩ : MethodName)) hown (mvT hZ (wd34 hw)) (mvT hZ (wd35 hw)) (notFace_of_selects (args := #[]) (mvT hZ (wd37 hw))) (mvT hZ (wd37 hw)) (mvT hZ (wd36 hw)) (by decide) (StrChars.Road.empW (W := 0) hZ hep (kI := 4) (wd9 hw) Ex Vv Cc Kk hcd hbd (Nat.le_of_ble_eq_true rfl) (by decide) (by decide)) qa1 qc1 (g := (mkF m 1 #[.val (.ref x), .unset] [(.ref x)])) rfl (by rw [hml]; rfl) (Steps.refl _) (argsL := []) (rest := []) (lenOf pd_emp rfl) rfl (by show 2 * 0 + _ ≤ _; exact Nat.le_of_eq rfl) (hb hby d6_1) (fun _ _ => ⟨rfl, e0, (by decide : 0 + 0 ≤ _), (by decide : 0 + 0 ≤ _)⟩)
  dsimp only [Pt.U, Pt.locs, Pt.cells, Pt.slots] at X1 l1 y1 z1 st1 hQ1
  subst l1 y1 z1
  obtain ⟨rfl, rfl, q1⟩ := hQ1
  have N1 := Fr.app N0 (Fr.nil n0)
  obtain ⟨_, _, ⟨T2, L2, k2, n2⟩, -, X2, ⟨Lc2, hQ2, l2, y2, z2⟩, st2⟩ := Jvm.LawKit.callS X1 hx (y := (⟨"com/example/oxpecker/oxpecker/MessageTemplate", "parameterEnd", "(Ljava/lang/String;I)I"⟩ : MethodName)) hown (mvT hZ (wd50 hw)) (mvT hZ (wd51 hw)) (mvT hZ (wd32 hw)) (mvT hZ (wd52 hw)) (by decide) (backOf (W := 0) (rmpe1 l Z a0 hw [] x c0 h0 n0 Z0 SX0 EN0 hpr) hZ (wd52 hw) (wd32 hw) (by decide) (by decide)) (g := (mkF m 9 #[.val (.ref x), .unset] [(.int (0 : Int32)), (.ref x)])) rfl (by rw [hml]; rfl) (argsL := [(.ref x), (.int (0 : Int32))]) (rest := []) (lenOf pd_pe1 rfl) rfl (by show 2 * 0 + _ ≤ _; exact Nat.le_of_eq rfl) (hb hby d6_9) (fun _ _ => ⟨rfl, q1, (by decide : 0 + 0 ≤ _), (by decide : 0 + 0 ≤ _)⟩)
  dsimp only [Pt.U, Pt.locs, Pt.cells, Pt.slots] at X2 l2 y2 z2 st2 hQ2
  subst l2 y2 z2
  obtain ⟨r2, rfl, N2q, q2, hr2⟩ := hQ2
  have N2 := Fr.app N1 N2q
  obtain ⟨cq3, kq3, qa3, qb3, qc3⟩ := isOf hZ q2 Ex
  obtain ⟨_, _, ⟨T3, L3, k3, n3⟩, -, X3, ⟨Lc3, hQ3, l3, y3, z3⟩, st3⟩ := X2.virtualBack hx (y := (⟨"java/lang/String", "length", "()I"⟩ : MethodName)) (z := (⟨"java/lang/String", "length", "()I"⟩ : MethodName)) hown (mvT hZ (wd75 hw)) (mvT hZ (wd76 hw)) (notFace_of_selects (args := #[]) (mvT hZ (wd78 hw))) (mvT hZ (wd78 hw)) (mvT hZ (wd77 hw)) (by decide) (StrChars.Road.lenW (W := 1) hZ hln (kI := 4) (wd9 hw) Ex Vv Cc Kk hcd hbd Sz hz (Nat.le_of_ble_eq_true rfl) (by decide) (by decide)) qa3 qc3 (g := (mkF m 13 #[.val (.ref x), .unset] [(.ref x), (.int r2)])) rfl (by rw [hml]; rfl) (Steps.refl _) (argsL := []) (rest := [(.int r2)]) (lenOf pd_len rfl) rfl (by show 2 * 0 + _ ≤ _; exact Nat.le_of_eq rfl) (hb hby d6_13) (fun _ _ => ⟨rfl, q2, (by decide : 0 + 0 ≤ _), (by decide : 0 + 0 ≤ _)⟩)
  dsimp only [Pt.U, Pt.locs, Pt.cells, Pt.slots] at X3 l3 y3 z3 st3 hQ3
  subst l3 y3 z3
  obtain ⟨rfl, rfl, q3⟩ := hQ3
  have N3 := Fr.app N2 (Fr.nil n0)
  have pre4 : ∀ t, Steps p.tables e below (T3.setTop (mkF m 46 #[.val (.ref x), .val (.int (0 : Int32))] [.null])) t → Steps p.tables e below (s₁.setTop (entryFrame m #[(.ref x)] 2)) t := fun t k => pre0 t (by
    show Steps p.tables e below (s₁.setTop (mkF m 0 #[.val (.ref x), .unset] [])) _
    refine XS.aloadN X0.here hx rfl (hb hby d6_0) rfl rfl ?_
    refine st1.trans ?_
    refine XS.ifNo X1.here hx rfl (hb hby d6_4) rfl ((if0 _ _).trans (teq (by decide : (0 : Int32) = (0 : Int32))).2) ?_
    refine XS.aloadN X1.here hx rfl (hb hby d6_7) rfl rfl ?_
    refine XS.iconst X1.here hx rfl (hb hby d6_8) ?_
    refine st2 _ ?_
    refine XS.aloadN X2.here hx rfl (hb hby d6_12) rfl rfl ?_
    refine st3.trans ?_
    refine XS.iconst X3.here hx rfl (hb hby d6_16) ?_
    refine XS.isub X3.here hx rfl (hb hby d6_17) rfl ?_
    show Steps p.tables e below (T3.setTop (mkF m 18 #[.val (.ref x), .unset] [(.int ((1 : Int32) - (1 : Int32))), (.int r2)])) _
    rw [show ((1 : Int32) - (1 : Int32)) = (0 : Int32) from by decide]
    refine XS.icmpYes X3.here hx rfl (pc0 := 18) (pc' := 25) rfl (hb hby d6_18) rfl (feq (fun q => hs (hr2.mp q))).2 (by decide) (by decide) ?_
    refine XS.iconst X3.here hx rfl (hb hby d6_25) ?_
    refine XS.istoreN X3.here hx rfl (hb hby d6_26) rfl (l' := #[.val (.ref x), .val (.int (0 : Int32))]) rfl ?_
    refine XS.iloadN X3.here hx rfl (hb hby d6_27) rfl ?_
    refine XS.ifYes X3.here hx rfl (pc0 := 28) (pc' := 45) rfl (hb hby d6_28) rfl ((if0 _ _).trans (teq (by decide : (0 : Int32) = (0 : Int32))).1) (by decide) (by decide) ?_
    refine XS.aconstNull X3.here hx rfl (hb hby d6_45) ?_
    exact k)
  obtain ⟨fs5, hr5, hrun5, hended5, hW5, hsame5⟩ := X3.leave (v := some .null) (fun h => by rw [Bd.returns] at h; cases h)
  refine ⟨_, _, pre4 _ ?_, hrun5, hended5, _, _, rfl, ?_, ⟨_, rfl⟩, hW5, hsame5.mono (by decide) (by decide)⟩
  · show Steps p.tables e below (T3.setTop (mkF m 46 #[.val (.ref x), .val (.int (0 : Int32))] [.null])) _
    exact retOut X3 hx (t := (.object "java/lang/String")) Bd.returns rfl (Or.inr (Or.inr (Or.inr (Or.inr ⟨rfl, rfl, rfl⟩)))) (hb hby d6_46) hr5
  · show QspN1 Z x c0 h0 n0 _ T3.heap _
    rw [q3]
    exact ⟨rfl, N3, rfl⟩

theorem pd_spN2 : parseMethodDescriptor "(Ljava/lang/String;)Ljava/lang/String;" = some ⟨[(.object "java/lang/String")], some (.object "java/lang/String")⟩ := by decide +kernel

theorem ef_spN2 (m : MethodId) (x0 : Addr)  : entryFrame m #[(.ref x0)] 2 = mkF m 0 #[.val (.ref x0), .unset] [] := by first | (simp [entryFrame, mkF, argsToLocals, Value.category]; done) | rfl
def QspN2 (Z : State) (x : Addr) (c0 c1 : Int32) (h0 : Heap) (n0 : Nat) (v : Option Value) (h : Heap) (L : List Loc) : Prop := v = some .null ∧ Fr n0 L ∧ h = h0
set_option maxRecDepth 65536 in
set_option maxHeartbeats 40000000 in
theorem rmspN2 (l : Launch) (Z : State) (a0 : Array Value) (hw : ∀ d ∈ tables_1, d.before a0 Z = true) (ws : List Jvm.Cond) (x : Addr) (c0 c1 : Int32) (h0 : Heap) (n0 : Nat) (Z0 : n0 ≤ h0.size) (SX : own_str Z h0 x [c0, c1]) (EN : own_env Z h0) (hpr : own_pr [c0, c1]) (hs : ¬ own_sole2 c0 c1) :
    MetFree l (⟨"com/example/oxpecker/oxpecker/MessageTemplate", "soleParameter", "(Ljava/lang/String;)Ljava/lang/String;"⟩ : MethodName) (head1 (Jvm.Cond.code (⟨"com/example/oxpecker/oxpecker/MessageTemplate", "soleParameter", "(Ljava/lang/String;)Ljava/lang/String;"⟩ : MethodName) prog_5_method_4_code 2 (some (.object "java/lang/String")) :: ws) ({ frames := 5, cells := 0, slots := 0, locals := 70 } : Room)) (fun a U => a = #[(.ref x)] ∧ Z.Warmed39 U.vm ∧ U.heap = h0) (fun _ _ _ _ _ => True) (fun _ U o U' => ∃ v L, o = .returned v ∧ QspN2 Z x c0 c1 h0 n0 v U'.heap L ∧ FrameEnd U o U' L ({ frames := 5, cells := 0, slots := 0, locals := 70 } : Room).cells ({ frames := 5, cells := 0, slots := 0, locals := 70 } : Room).slots) := by
  refine MetFree.of_bodySF (plainFor_of_name pn_k1) hisR ?_
  intro p e s m args below meth c s₁ Bd hml0 hP hK
  obtain ⟨rfl, hZ, hh⟩ := hP
  have hx := Bd.exec
  have hby := Bd.bytes
  have hml : c.maxLocals = 2 := hml0
  have hown : s.vm.findClass "com/example/oxpecker/oxpecker/MessageTemplate" = some m.cls := findClass_of_methodNamed Bd.named
  have hnm := (name_of_methodNamed Bd.named Bd.method).1
  have X0 : Stand p l e ({ frames := 5, cells := 0, slots := 0, locals := 70 } : Room) s m #[(.ref x)] below meth c s₁ [] 0 0 := Stand.of_body Bd
  have e0 : s₁.heap = h0 := by rw [← hh, Bd.state]; rfl
  have N0 := Fr.nil n0
  have pre0 : ∀ t, Steps p.tables e below (s₁.setTop (mkF m 0 #[.val (.ref x), .unset] [])) t → Steps p.tables e below (s₁.setTop (entryFrame m #[(.ref x)] 2)) t := fun t k => castTop (ef_spN2 m x) k
  have SX0 := SX
  have EN0 := EN
  obtain ⟨tv, kb, Ex, Vv, Cc, Kk⟩ := SX
  obtain ⟨z, fm, Sz, hz, Sf, hfm⟩ := EN
  have hcd := own_cod hpr
  have hbd := own_up hpr
  have hln : ∀ d ∈ StrChars.Road.wordsLen, d.before a0 Z = true := fun d hd => hw d ((by decide +kernel : ∀ d ∈ StrChars.Road.wordsLen, d ∈ tables_1) d hd)
  have hch : ∀ d ∈ StrChars.Road.wordsChN, d.before a0 Z = true := fun d hd => hw d ((by decide +kernel : ∀ d ∈ StrChars.Road.wordsChN, d ∈ tables_1) d hd)
  have hep : ∀ d ∈ StrChars.Road.wordsEmp, d.before a0 Z = true := fun d hd => hw d ((by decide +kernel : ∀ d ∈ StrChars.Road.wordsEmp, d ∈ tables_1) d hd)
  obtain ⟨cq1, kq1, qa1, qb1, qc1⟩ := isOf hZ e0 Ex
  obtain ⟨_, _, ⟨T1, L1, k1, n1⟩, -, X1, ⟨Lc1, hQ1, l1, y1, z1⟩, st1⟩ := X0.virtualBack hx (y := (⟨"java/lang/String", "isEmpty", "()Z"⟩ : MethodName)) (z := (⟨"java/lang/String", "isEmpty", "()Z"⟩ : MethodName)) hown (mvT hZ (wd34 hw)) (mvT hZ (wd35 hw)) (notFace_of_selects (args := #[]) (mvT hZ (wd37 hw))) (mvT hZ (wd37 hw)) (mvT hZ (wd36 hw)) (by decide) (StrChars.Road.empW (W := 0) hZ hep (kI := 4) (wd9 hw) Ex Vv Cc Kk hcd hbd (Nat.le_of_ble_eq_true rfl) (by decide) (by decide)) qa1 qc1 (g := (mkF m 1 #[.val (.ref x), .unset] [(.ref x)])) rfl (by rw [hml]; rfl) (Steps.refl _) (argsL := []) (rest := []) (lenOf pd_emp rfl) rfl (by show 2 * 0 + _ ≤ _; exact Nat.le_of_eq rfl) (hb hby d6_1) (fun _ _ => ⟨rfl, e0, (by decide : 0 + 0 ≤ _), (by decide : 0 + 0 ≤ _)⟩)
  dsimp only [Pt.U, Pt.locs, Pt.cells, Pt.slots] at X1 l1 y1 z1 st1 hQ1
  subst l1 y1 z1
  obtain ⟨rfl, rfl, q1⟩ := hQ1
  have N1 := Fr.app N0 (Fr.nil n0)
  obtain ⟨_, _, ⟨T2, L2, k2, n2⟩, -, X2, ⟨Lc2, hQ2, l2, y2, z2⟩, st2⟩ := Jvm.LawKit.callS X1 hx (y := (⟨"com/example/oxpecker/oxpecker/MessageTemplate", "parameterEnd", "(Ljava/lang/String;I)I"⟩ : MethodName)) hown (mvT hZ (wd50 hw)) (mvT hZ (wd51 hw)) (mvT hZ (wd32 hw)) (mvT hZ (wd52 hw)) (by decide) (backOf (W := 0) (rmpe2 l Z a0 hw [] x c0 c1 h0 n0 Z0 SX0 EN0 hpr) hZ (wd52 hw) (wd32 hw) (by decide) (by decide)) (g := (mkF m 9 #[.val (.ref x), .unset] [(.int (0 : Int32)), (.ref x)])) rfl (by rw [hml]; rfl) (argsL := [(.ref x), (.int (0 : Int32))]) (rest := []) (lenOf pd_pe2 rfl) rfl (by show 2 * 0 + _ ≤ _; exact Nat.le_of_eq rfl) (hb hby d6_9) (fun _ _ => ⟨rfl, q1, (by decide : 0 + 0 ≤ _), (by decide : 0 + 0 ≤ _)⟩)
  dsimp only [Pt.U, Pt.locs, Pt.cells, Pt.slots] at X2 l2 y2 z2 st2 hQ2
  subst l2 y2 z2
  obtain ⟨r2, rfl, N2q, q2, hr2⟩ := hQ2
  have N2 := Fr.app N1 N2q
  obtain ⟨cq3, kq3, qa3, qb3, qc3⟩ := isOf hZ q2 Ex
  obtain ⟨_, _, ⟨T3, L3, k3, n3⟩, -, X3, ⟨Lc3, hQ3, l3, y3, z3⟩, st3⟩ := X2.virtualBack hx (y := (⟨"java/lang/String", "length", "()I"⟩ : MethodName)) (z := (⟨"java/lang/String", "length", "()I"⟩ : MethodName)) hown (mvT hZ (wd75 hw)) (mvT hZ (wd76 hw)) (notFace_of_selects (args := #[]) (mvT hZ (wd78 hw))) (mvT hZ (wd78 hw)) (mvT hZ (wd77 hw)) (by decide) (StrChars.Road.lenW (W := 1) hZ hln (kI := 4) (wd9 hw) Ex Vv Cc Kk hcd hbd Sz hz (Nat.le_of_ble_eq_true rfl) (by decide) (by decide)) qa3 qc3 (g := (mkF m 13 #[.val (.ref x), .unset] [(.ref x), (.int r2)])) rfl (by rw [hml]; rfl) (Steps.refl _) (argsL := []) (rest := [(.int r2)]) (lenOf pd_len rfl) rfl (by show 2 * 0 + _ ≤ _; exact Nat.le_of_eq rfl) (hb hby d6_13) (fun _ _ => ⟨rfl, q2, (by decide : 0 + 0 ≤ _), (by decide : 0 + 0 ≤ _)⟩)
  dsimp only [Pt.U, Pt.locs, Pt.cells, Pt.slots] at X3 l3 y3 z3 st3 hQ3
  subst l3 y3 z3
  obtain ⟨rfl, rfl, q3⟩ := hQ3
  have N3 := Fr.app N2 (Fr.nil n0)
  have pre4 : ∀ t, Steps p.tables e below (T3.setTop (mkF m 46 #[.val (.ref x), .val (.int (0 : Int32))] [.null])) t → Steps p.tables e below (s₁.setTop (entryFrame m #[(.ref x)] 2)) t := fun t k => pre0 t (by
    show Steps p.tables e below (s₁.setTop (mkF m 0 #[.val (.ref x), .unset] [])) _
    refine XS.aloadN X0.here hx rfl (hb hby d6_0) rfl rfl ?_
    refine st1.trans ?_
    refine XS.ifNo X1.here hx rfl (hb hby d6_4) rfl ((if0 _ _).trans (teq (by decide : (0 : Int32) = (0 : Int32))).2) ?_
    refine XS.aloadN X1.here hx rfl (hb hby d6_7) rfl rfl ?_
    refine XS.iconst X1.here hx rfl (hb hby d6_8) ?_
    refine st2 _ ?_
    refine XS.aloadN X2.here hx rfl (hb hby d6_12) rfl rfl ?_
    refine st3.trans ?_
    refine XS.iconst X3.here hx rfl (hb hby d6_16) ?_
    refine XS.isub X3.here hx rfl (hb hby d6_17) rfl ?_
    show Steps p.tables e below (T3.setTop (mkF m 18 #[.val (.ref x), .unset] [(.int ((2 : Int32) - (1 : Int32))), (.int r2)])) _
    rw [show ((2 : Int32) - (1 : Int32)) = (1 : Int32) from by decide]
    refine XS.icmpYes X3.here hx rfl (pc0 := 18) (pc' := 25) rfl (hb hby d6_18) rfl (feq (fun q => hs (hr2.mp q))).2 (by decide) (by decide) ?_
    refine XS.iconst X3.here hx rfl (hb hby d6_25) ?_
    refine XS.istoreN X3.here hx rfl (hb hby d6_26) rfl (l' := #[.val (.ref x), .val (.int (0 : Int32))]) rfl ?_
    refine XS.iloadN X3.here hx rfl (hb hby d6_27) rfl ?_
    refine XS.ifYes X3.here hx rfl (pc0 := 28) (pc' := 45) rfl (hb hby d6_28) rfl ((if0 _ _).trans (teq (by decide : (0 : Int32) = (0 : Int32))).1) (by decide) (by decide) ?_
    refine XS.aconstNull X3.here hx rfl (hb hby d6_45) ?_
    exact k)
  obtain ⟨fs5, hr5, hrun5, hended5, hW5, hsame5⟩ := X3.leave (v := some .null) (fun h => by rw [Bd.returns] at h; cases h)
  refine ⟨_, _, pre4 _ ?_, hrun5, hended5, _, _, rfl, ?_, ⟨_, rfl⟩, hW5, hsame5.mono (by decide) (by decide)⟩
  · show Steps p.tables e below (T3.setTop (mkF m 46 #[.val (.ref x), .val (.int (0 : Int32))] [.null])) _
    exact retOut X3 hx (t := (.object "java/lang/String")) Bd.returns rfl (Or.inr (Or.inr (Or.inr (Or.inr ⟨rfl, rfl, rfl⟩)))) (hb hby d6_46) hr5
  · show QspN2 Z x c0 c1 h0 n0 _ T3.heap _
    rw [q3]
    exact ⟨rfl, N3, rfl⟩

theorem pd_spN3 : parseMethodDescriptor "(Ljava/lang/String;)Ljava/lang/String;" = some ⟨[(.object "java/lang/String")], some (.object "java/lang/String")⟩ := by decide +kernel

theorem ef_spN3 (m : MethodId) (x0 : Addr)  : entryFrame m #[(.ref x0)] 2 = mkF m 0 #[.val (.ref x0), .unset] [] := by first | (simp [entryFrame, mkF, argsToLocals, Value.category]; done) | rfl
def QspN3 (Z : State) (x : Addr) (c0 c1 c2 : Int32) (h0 : Heap) (n0 : Nat) (v : Option Value) (h : Heap) (L : List Loc) : Prop := v = some .null ∧ Fr n0 L ∧ h = h0
set_option maxRecDepth 65536 in
set_option maxHeartbeats 40000000 in
theorem rmspN3 (l : Launch) (Z : State) (a0 : Array Value) (hw : ∀ d ∈ tables_1, d.before a0 Z = true) (ws : List Jvm.Cond) (x : Addr) (c0 c1 c2 : Int32) (h0 : Heap) (n0 : Nat) (Z0 : n0 ≤ h0.size) (SX : own_str Z h0 x [c0, c1, c2]) (EN : own_env Z h0) (hpr : own_pr [c0, c1, c2]) (hs : ¬ own_sole3 c0 c1 c2) :
    MetFree l (⟨"com/example/oxpecker/oxpecker/MessageTemplate", "soleParameter", "(Ljava/lang/String;)Ljava/lang/String;"⟩ : MethodName) (head1 (Jvm.Cond.code (⟨"com/example/oxpecker/oxpecker/MessageTemplate", "soleParameter", "(Ljava/lang/String;)Ljava/lang/String;"⟩ : MethodName) prog_5_method_4_code 2 (some (.object "java/lang/String")) :: ws) ({ frames := 5, cells := 0, slots := 0, locals := 70 } : Room)) (fun a U => a = #[(.ref x)] ∧ Z.Warmed39 U.vm ∧ U.heap = h0) (fun _ _ _ _ _ => True) (fun _ U o U' => ∃ v L, o = .returned v ∧ QspN3 Z x c0 c1 c2 h0 n0 v U'.heap L ∧ FrameEnd U o U' L ({ frames := 5, cells := 0, slots := 0, locals := 70 } : Room).cells ({ frames := 5, cells := 0, slots := 0, locals := 70 } : Room).slots) := by
  refine MetFree.of_bodySF (plainFor_of_name pn_k1) hisR ?_
  intro p e s m args below meth c s₁ Bd hml0 hP hK
  obtain ⟨rfl, hZ, hh⟩ := hP
  have hx := Bd.exec
  have hby := Bd.bytes
  have hml : c.maxLocals = 2 := hml0
  have hown : s.vm.findClass "com/example/oxpecker/oxpecker/MessageTemplate" = some m.cls := findClass_of_methodNamed Bd.named
  have hnm := (name_of_methodNamed Bd.named Bd.method).1
  have X0 : Stand p l e ({ frames := 5, cells := 0, slots := 0, locals := 70 } : Room) s m #[(.ref x)] below meth c s₁ [] 0 0 := Stand.of_body Bd
  have e0 : s₁.heap = h0 := by rw [← hh, Bd.state]; rfl
  have N0 := Fr.nil n0
  have pre0 : ∀ t, Steps p.tables e below (s₁.setTop (mkF m 0 #[.val (.ref x), .unset] [])) t → Steps p.tables e below (s₁.setTop (entryFrame m #[(.ref x)] 2)) t := fun t k => castTop (ef_spN3 m x) k
  have SX0 := SX
  have EN0 := EN
  obtain ⟨tv, kb, Ex, Vv, Cc, Kk⟩ := SX
  obtain ⟨z, fm, Sz, hz, Sf, hfm⟩ := EN
  have hcd := own_cod hpr
  have hbd := own_up hpr
  have hln : ∀ d ∈ StrChars.Road.wordsLen, d.before a0 Z = true := fun d hd => hw d ((by decide +kernel : ∀ d ∈ StrChars.Road.wordsLen, d ∈ tables_1) d hd)
  have hch : ∀ d ∈ StrChars.Road.wordsChN, d.before a0 Z = true := fun d hd => hw d ((by decide +kernel : ∀ d ∈ StrChars.Road.wordsChN, d ∈ tables_1) d hd)
  have hep : ∀ d ∈ StrChars.Road.wordsEmp, d.before a0 Z = true := fun d hd => hw d ((by decide +kernel : ∀ d ∈ StrChars.Road.wordsEmp, d ∈ tables_1) d hd)
  obtain ⟨cq1, kq1, qa1, qb1, qc1⟩ := isOf hZ e0 Ex
  obtain ⟨_, _, ⟨T1, L1, k1, n1⟩, -, X1, ⟨Lc1, hQ1, l1, y1, z1⟩, st1⟩ := X0.virtualBack hx (y := (⟨"java/lang/String", "isEmpty", "()Z"⟩ : MethodName)) (z := (⟨"java/lang/String", "isEmpty", "()Z"⟩ : MethodName)) hown (mvT hZ (wd34 hw)) (mvT hZ (wd35 hw)) (notFace_of_selects (args := #[]) (mvT hZ (wd37 hw))) (mvT hZ (wd37 hw)) (mvT hZ (wd36 hw)) (by decide) (StrChars.Road.empW (W := 0) hZ hep (kI := 4) (wd9 hw) Ex Vv Cc Kk hcd hbd (Nat.le_of_ble_eq_true rfl) (by decide) (by decide)) qa1 qc1 (g := (mkF m 1 #[.val (.ref x), .unset] [(.ref x)])) rfl (by rw [hml]; rfl) (Steps.refl _) (argsL := []) (rest := []) (lenOf pd_emp rfl) rfl (by show 2 * 0 + _ ≤ _; exact Nat.le_of_eq rfl) (hb hby d6_1) (fun _ _ => ⟨rfl, e0, (by decide : 0 + 0 ≤ _), (by decide : 0 + 0 ≤ _)⟩)
  dsimp only [Pt.U, Pt.locs, Pt.cells, Pt.slots] at X1 l1 y1 z1 st1 hQ1
  subst l1 y1 z1
  obtain ⟨rfl, rfl, q1⟩ := hQ1
  have N1 := Fr.app N0 (Fr.nil n0)
  obtain ⟨_, _, ⟨T2, L2, k2, n2⟩, -, X2, ⟨Lc2, hQ2, l2, y2, z2⟩, st2⟩ := Jvm.LawKit.callS X1 hx (y := (⟨"com/example/oxpecker/oxpecker/MessageTemplate", "parameterEnd", "(Ljava/lang/String;I)I"⟩ : MethodName)) hown (mvT hZ (wd50 hw)) (mvT hZ (wd51 hw)) (mvT hZ (wd32 hw)) (mvT hZ (wd52 hw)) (by decide) (backOf (W := 0) (rmpe3 l Z a0 hw [] x c0 c1 c2 h0 n0 Z0 SX0 EN0 hpr) hZ (wd52 hw) (wd32 hw) (by decide) (by decide)) (g := (mkF m 9 #[.val (.ref x), .unset] [(.int (0 : Int32)), (.ref x)])) rfl (by rw [hml]; rfl) (argsL := [(.ref x), (.int (0 : Int32))]) (rest := []) (lenOf pd_pe3 rfl) rfl (by show 2 * 0 + _ ≤ _; exact Nat.le_of_eq rfl) (hb hby d6_9) (fun _ _ => ⟨rfl, q1, (by decide : 0 + 0 ≤ _), (by decide : 0 + 0 ≤ _)⟩)
  dsimp only [Pt.U, Pt.locs, Pt.cells, Pt.slots] at X2 l2 y2 z2 st2 hQ2
  subst l2 y2 z2
  obtain ⟨r2, rfl, N2q, q2, hr2⟩ := hQ2
  have N2 := Fr.app N1 N2q
  obtain ⟨cq3, kq3, qa3, qb3, qc3⟩ := isOf hZ q2 Ex
  obtain ⟨_, _, ⟨T3, L3, k3, n3⟩, -, X3, ⟨Lc3, hQ3, l3, y3, z3⟩, st3⟩ := X2.virtualBack hx (y := (⟨"java/lang/String", "length", "()I"⟩ : MethodName)) (z := (⟨"java/lang/String", "length", "()I"⟩ : MethodName)) hown (mvT hZ (wd75 hw)) (mvT hZ (wd76 hw)) (notFace_of_selects (args := #[]) (mvT hZ (wd78 hw))) (mvT hZ (wd78 hw)) (mvT hZ (wd77 hw)) (by decide) (StrChars.Road.lenW (W := 1) hZ hln (kI := 4) (wd9 hw) Ex Vv Cc Kk hcd hbd Sz hz (Nat.le_of_ble_eq_true rfl) (by decide) (by decide)) qa3 qc3 (g := (mkF m 13 #[.val (.ref x), .unset] [(.ref x), (.int r2)])) rfl (by rw [hml]; rfl) (Steps.refl _) (argsL := []) (rest := [(.int r2)]) (lenOf pd_len rfl) rfl (by show 2 * 0 + _ ≤ _; exact Nat.le_of_eq rfl) (hb hby d6_13) (fun _ _ => ⟨rfl, q2, (by decide : 0 + 0 ≤ _), (by decide : 0 + 0 ≤ _)⟩)
  dsimp only [Pt.U, Pt.locs, Pt.cells, Pt.slots] at X3 l3 y3 z3 st3 hQ3
  subst l3 y3 z3
  obtain ⟨rfl, rfl, q3⟩ := hQ3
  have N3 := Fr.app N2 (Fr.nil n0)
  have pre4 : ∀ t, Steps p.tables e below (T3.setTop (mkF m 46 #[.val (.ref x), .val (.int (0 : Int32))] [.null])) t → Steps p.tables e below (s₁.setTop (entryFrame m #[(.ref x)] 2)) t := fun t k => pre0 t (by
    show Steps p.tables e below (s₁.setTop (mkF m 0 #[.val (.ref x), .unset] [])) _
    refine XS.aloadN X0.here hx rfl (hb hby d6_0) rfl rfl ?_
    refine st1.trans ?_
    refine XS.ifNo X1.here hx rfl (hb hby d6_4) rfl ((if0 _ _).trans (teq (by decide : (0 : Int32) = (0 : Int32))).2) ?_
    refine XS.aloadN X1.here hx rfl (hb hby d6_7) rfl rfl ?_
    refine XS.iconst X1.here hx rfl (hb hby d6_8) ?_
    refine st2 _ ?_
    refine XS.aloadN X2.here hx rfl (hb hby d6_12) rfl rfl ?_
    refine st3.trans ?_
    refine XS.iconst X3.here hx rfl (hb hby d6_16) ?_
    refine XS.isub X3.here hx rfl (hb hby d6_17) rfl ?_
    show Steps p.tables e below (T3.setTop (mkF m 18 #[.val (.ref x), .unset] [(.int ((3 : Int32) - (1 : Int32))), (.int r2)])) _
    rw [show ((3 : Int32) - (1 : Int32)) = (2 : Int32) from by decide]
    refine XS.icmpYes X3.here hx rfl (pc0 := 18) (pc' := 25) rfl (hb hby d6_18) rfl (feq (fun q => hs (hr2.mp q))).2 (by decide) (by decide) ?_
    refine XS.iconst X3.here hx rfl (hb hby d6_25) ?_
    refine XS.istoreN X3.here hx rfl (hb hby d6_26) rfl (l' := #[.val (.ref x), .val (.int (0 : Int32))]) rfl ?_
    refine XS.iloadN X3.here hx rfl (hb hby d6_27) rfl ?_
    refine XS.ifYes X3.here hx rfl (pc0 := 28) (pc' := 45) rfl (hb hby d6_28) rfl ((if0 _ _).trans (teq (by decide : (0 : Int32) = (0 : Int32))).1) (by decide) (by decide) ?_
    refine XS.aconstNull X3.here hx rfl (hb hby d6_45) ?_
    exact k)
  obtain ⟨fs5, hr5, hrun5, hended5, hW5, hsame5⟩ := X3.leave (v := some .null) (fun h => by rw [Bd.returns] at h; cases h)
  refine ⟨_, _, pre4 _ ?_, hrun5, hended5, _, _, rfl, ?_, ⟨_, rfl⟩, hW5, hsame5.mono (by decide) (by decide)⟩
  · show Steps p.tables e below (T3.setTop (mkF m 46 #[.val (.ref x), .val (.int (0 : Int32))] [.null])) _
    exact retOut X3 hx (t := (.object "java/lang/String")) Bd.returns rfl (Or.inr (Or.inr (Or.inr (Or.inr ⟨rfl, rfl, rfl⟩)))) (hb hby d6_46) hr5
  · show QspN3 Z x c0 c1 c2 h0 n0 _ T3.heap _
    rw [q3]
    exact ⟨rfl, N3, rfl⟩

theorem pd_spY3 : parseMethodDescriptor "(Ljava/lang/String;)Ljava/lang/String;" = some ⟨[(.object "java/lang/String")], some (.object "java/lang/String")⟩ := by decide +kernel

theorem ef_spY3 (m : MethodId) (x0 : Addr)  : entryFrame m #[(.ref x0)] 2 = mkF m 0 #[.val (.ref x0), .unset] [] := by first | (simp [entryFrame, mkF, argsToLocals, Value.category]; done) | rfl
def QspY3 (Z : State) (x : Addr) (c0 c1 c2 : Int32) (h0 : Heap) (n0 : Nat) (v : Option Value) (h : Heap) (L : List Loc) : Prop := ∃ y, v = some (.ref y) ∧ Fr n0 L ∧ Ext h0 h ∧ own_str Z h y [c1]
set_option maxRecDepth 65536 in
set_option maxHeartbeats 40000000 in
theorem rmspY3 (l : Launch) (Z : State) (a0 : Array Value) (hw : ∀ d ∈ tables_1, d.before a0 Z = true) (ws : List Jvm.Cond) (x : Addr) (c0 c1 c2 : Int32) (h0 : Heap) (n0 : Nat) (Z0 : n0 ≤ h0.size) (SX : own_str Z h0 x [c0, c1, c2]) (EN : own_env Z h0) (hpr : own_pr [c0, c1, c2]) (hs : own_sole3 c0 c1 c2) :
    MetFree l (⟨"com/example/oxpecker/oxpecker/MessageTemplate", "soleParameter", "(Ljava/lang/String;)Ljava/lang/String;"⟩ : MethodName) (head1 (Jvm.Cond.code (⟨"com/example/oxpecker/oxpecker/MessageTemplate", "soleParameter", "(Ljava/lang/String;)Ljava/lang/String;"⟩ : MethodName) prog_5_method_4_code 2 (some (.object "java/lang/String")) :: ws) ({ frames := 5, cells := 2, slots := 9, locals := 112 } : Room)) (fun a U => a = #[(.ref x)] ∧ Z.Warmed39 U.vm ∧ U.heap = h0) (fun _ _ _ _ _ => True) (fun _ U o U' => ∃ v L, o = .returned v ∧ QspY3 Z x c0 c1 c2 h0 n0 v U'.heap L ∧ FrameEnd U o U' L ({ frames := 5, cells := 2, slots := 9, locals := 112 } : Room).cells ({ frames := 5, cells := 2, slots := 9, locals := 112 } : Room).slots) := by
  refine MetFree.of_bodySF (plainFor_of_name pn_k1) hisR ?_
  intro p e s m args below meth c s₁ Bd hml0 hP hK
  obtain ⟨rfl, hZ, hh⟩ := hP
  have hx := Bd.exec
  have hby := Bd.bytes
  have hml : c.maxLocals = 2 := hml0
  have hown : s.vm.findClass "com/example/oxpecker/oxpecker/MessageTemplate" = some m.cls := findClass_of_methodNamed Bd.named
  have hnm := (name_of_methodNamed Bd.named Bd.method).1
  have X0 : Stand p l e ({ frames := 5, cells := 2, slots := 9, locals := 112 } : Room) s m #[(.ref x)] below meth c s₁ [] 0 0 := Stand.of_body Bd
  have e0 : s₁.heap = h0 := by rw [← hh, Bd.state]; rfl
  have N0 := Fr.nil n0
  have pre0 : ∀ t, Steps p.tables e below (s₁.setTop (mkF m 0 #[.val (.ref x), .unset] [])) t → Steps p.tables e below (s₁.setTop (entryFrame m #[(.ref x)] 2)) t := fun t k => castTop (ef_spY3 m x) k
  have SX0 := SX
  have EN0 := EN
  obtain ⟨tv, kb, Ex, Vv, Cc, Kk⟩ := SX
  obtain ⟨z, fm, Sz, hz, Sf, hfm⟩ := EN
  have hcd := own_cod hpr
  have hbd := own_up hpr
  have hln : ∀ d ∈ StrChars.Road.wordsLen, d.before a0 Z = true := fun d hd => hw d ((by decide +kernel : ∀ d ∈ StrChars.Road.wordsLen, d ∈ tables_1) d hd)
  have hch : ∀ d ∈ StrChars.Road.wordsChN, d.before a0 Z = true := fun d hd => hw d ((by decide +kernel : ∀ d ∈ StrChars.Road.wordsChN, d ∈ tables_1) d hd)
  have hep : ∀ d ∈ StrChars.Road.wordsEmp, d.before a0 Z = true := fun d hd => hw d ((by decide +kernel : ∀ d ∈ StrChars.Road.wordsEmp, d ∈ tables_1) d hd)
  obtain ⟨cq1, kq1, qa1, qb1, qc1⟩ := isOf hZ e0 Ex
  obtain ⟨_, _, ⟨T1, L1, k1, n1⟩, -, X1, ⟨Lc1, hQ1, l1, y1, z1⟩, st1⟩ := X0.virtualBack hx (y := (⟨"java/lang/String", "isEmpty", "()Z"⟩ : MethodName)) (z := (⟨"java/lang/String", "isEmpty", "()Z"⟩ : MethodName)) hown (mvT hZ (wd34 hw)) (mvT hZ (wd35 hw)) (notFace_of_selects (args := #[]) (mvT hZ (wd37 hw))) (mvT hZ (wd37 hw)) (mvT hZ (wd36 hw)) (by decide) (StrChars.Road.empW (W := 0) hZ hep (kI := 4) (wd9 hw) Ex Vv Cc Kk hcd hbd (Nat.le_of_ble_eq_true rfl) (by decide) (by decide)) qa1 qc1 (g := (mkF m 1 #[.val (.ref x), .unset] [(.ref x)])) rfl (by rw [hml]; rfl) (Steps.refl _) (argsL := []) (rest := []) (lenOf pd_emp rfl) rfl (by show 2 * 0 + _ ≤ _; exact Nat.le_of_eq rfl) (hb hby d6_1) (fun _ _ => ⟨rfl, e0, (by decide : 0 + 0 ≤ _), (by decide : 0 + 0 ≤ _)⟩)
  dsimp only [Pt.U, Pt.locs, Pt.cells, Pt.slots] at X1 l1 y1 z1 st1 hQ1
  subst l1 y1 z1
  obtain ⟨rfl, rfl, q1⟩ := hQ1
  have N1 := Fr.app N0 (Fr.nil n0)
  obtain ⟨_, _, ⟨T2, L2, k2, n2⟩, -, X2, ⟨Lc2, hQ2, l2, y2, z2⟩, st2⟩ := Jvm.LawKit.callS X1 hx (y := (⟨"com/example/oxpecker/oxpecker/MessageTemplate", "parameterEnd", "(Ljava/lang/String;I)I"⟩ : MethodName)) hown (mvT hZ (wd50 hw)) (mvT hZ (wd51 hw)) (mvT hZ (wd32 hw)) (mvT hZ (wd52 hw)) (by decide) (backOf (W := 0) (rmpe3 l Z a0 hw [] x c0 c1 c2 h0 n0 Z0 SX0 EN0 hpr) hZ (wd52 hw) (wd32 hw) (by decide) (by decide)) (g := (mkF m 9 #[.val (.ref x), .unset] [(.int (0 : Int32)), (.ref x)])) rfl (by rw [hml]; rfl) (argsL := [(.ref x), (.int (0 : Int32))]) (rest := []) (lenOf pd_pe3 rfl) rfl (by show 2 * 0 + _ ≤ _; exact Nat.le_of_eq rfl) (hb hby d6_9) (fun _ _ => ⟨rfl, q1, (by decide : 0 + 0 ≤ _), (by decide : 0 + 0 ≤ _)⟩)
  dsimp only [Pt.U, Pt.locs, Pt.cells, Pt.slots] at X2 l2 y2 z2 st2 hQ2
  subst l2 y2 z2
  obtain ⟨r2, rfl, N2q, q2, hr2⟩ := hQ2
  have N2 := Fr.app N1 N2q
  obtain ⟨cq3, kq3, qa3, qb3, qc3⟩ := isOf hZ q2 Ex
  obtain ⟨_, _, ⟨T3, L3, k3, n3⟩, -, X3, ⟨Lc3, hQ3, l3, y3, z3⟩, st3⟩ := X2.virtualBack hx (y := (⟨"java/lang/String", "length", "()I"⟩ : MethodName)) (z := (⟨"java/lang/String", "length", "()I"⟩ : MethodName)) hown (mvT hZ (wd75 hw)) (mvT hZ (wd76 hw)) (notFace_of_selects (args := #[]) (mvT hZ (wd78 hw))) (mvT hZ (wd78 hw)) (mvT hZ (wd77 hw)) (by decide) (StrChars.Road.lenW (W := 1) hZ hln (kI := 4) (wd9 hw) Ex Vv Cc Kk hcd hbd Sz hz (Nat.le_of_ble_eq_true rfl) (by decide) (by decide)) qa3 qc3 (g := (mkF m 13 #[.val (.ref x), .unset] [(.ref x), (.int r2)])) rfl (by rw [hml]; rfl) (Steps.refl _) (argsL := []) (rest := [(.int r2)]) (lenOf pd_len rfl) rfl (by show 2 * 0 + _ ≤ _; exact Nat.le_of_eq rfl) (hb hby d6_13) (fun _ _ => ⟨rfl, q2, (by decide : 0 + 0 ≤ _), (by decide : 0 + 0 ≤ _)⟩)
  dsimp only [Pt.U, Pt.locs, Pt.cells, Pt.slots] at X3 l3 y3 z3 st3 hQ3
  subst l3 y3 z3
  obtain ⟨rfl, rfl, q3⟩ := hQ3
  have N3 := Fr.app N2 (Fr.nil n0)
  obtain ⟨cq4, kq4, qa4, qb4, qc4⟩ := isOf hZ q3 Ex
  obtain ⟨_, _, ⟨T4, L4, k4, n4⟩, -, X4, ⟨Lc4, hQ4, l4, y4, z4⟩, st4⟩ := X3.virtualBack hx (y := (⟨"java/lang/String", "length", "()I"⟩ : MethodName)) (z := (⟨"java/lang/String", "length", "()I"⟩ : MethodName)) hown (mvT hZ (wd75 hw)) (mvT hZ (wd76 hw)) (notFace_of_selects (args := #[]) (mvT hZ (wd78 hw))) (mvT hZ (wd78 hw)) (mvT hZ (wd77 hw)) (by decide) (StrChars.Road.lenW (W := 2) hZ hln (kI := 4) (wd9 hw) Ex Vv Cc Kk hcd hbd Sz hz (Nat.le_of_ble_eq_true rfl) (by decide) (by decide)) qa4 qc4 (g := (mkF m 34 #[.val (.ref x), .val (.int (1 : Int32))] [(.ref x), (.int (1 : Int32)), (.ref x)])) rfl (by rw [hml]; rfl) (Steps.refl _) (argsL := []) (rest := [(.int (1 : Int32)), (.ref x)]) (lenOf pd_len rfl) rfl (by show 2 * 0 + _ ≤ _; exact Nat.le_of_eq rfl) (hb hby d6_34) (fun _ _ => ⟨rfl, q3, (by decide : 0 + 0 ≤ _), (by decide : 0 + 0 ≤ _)⟩)
  dsimp only [Pt.U, Pt.locs, Pt.cells, Pt.slots] at X4 l4 y4 z4 st4 hQ4
  subst l4 y4 z4
  obtain ⟨rfl, rfl, q4⟩ := hQ4
  have N4 := Fr.app N3 (Fr.nil n0)
  obtain ⟨cq5, kq5, qa5, qb5, qc5⟩ := isOf hZ q4 Ex
  obtain ⟨_, _, ⟨T5, L5, k5, n5⟩, -, X5, ⟨Lc5, hQ5, l5, y5, z5⟩, st5⟩ := X4.virtualBack hx (y := (⟨"java/lang/String", "substring", "(II)Ljava/lang/String;"⟩ : MethodName)) (z := (⟨"java/lang/String", "substring", "(II)Ljava/lang/String;"⟩ : MethodName)) hown (mvT hZ (wd91 hw)) (mvT hZ (wd92 hw)) (notFace_of_selects (args := #[]) (mvT hZ (wd94 hw))) (mvT hZ (wd94 hw)) (mvT hZ (wd93 hw)) (by decide) (backOf (W := 0) (rmss3 l Z a0 hw [] x c0 c1 c2 h0 n0 Z0 SX0 EN0 hpr) hZ (wd95 hw) (wd10 hw) (by decide) (by decide)) qa5 qc5 (g := (mkF m 39 #[.val (.ref x), .val (.int (1 : Int32))] [(.int (2 : Int32)), (.int (1 : Int32)), (.ref x)])) rfl (by rw [hml]; rfl) (Steps.refl _) (argsL := [(.int (1 : Int32)), (.int (2 : Int32))]) (rest := []) (lenOf pd_ss3 rfl) rfl (by show 2 * 0 + _ ≤ _; exact Nat.le_of_eq rfl) (hb hby d6_39) (fun _ _ => ⟨rfl, q4, (by decide : 0 + 2 ≤ _), (by decide : 0 + 9 ≤ _)⟩)
  dsimp only [Pt.U, Pt.locs, Pt.cells, Pt.slots] at X5 l5 y5 z5 st5 hQ5
  subst l5 y5 z5
  obtain ⟨y5, rfl, N5q, E5, S5⟩ := hQ5
  have N5 := Fr.app N4 N5q
  have pre6 : ∀ t, Steps p.tables e below (T5.setTop (mkF m 46 #[.val (.ref x), .val (.int (1 : Int32))] [(.ref y5)])) t → Steps p.tables e below (s₁.setTop (entryFrame m #[(.ref x)] 2)) t := fun t k => pre0 t (by
    show Steps p.tables e below (s₁.setTop (mkF m 0 #[.val (.ref x), .unset] [])) _
    refine XS.aloadN X0.here hx rfl (hb hby d6_0) rfl rfl ?_
    refine st1.trans ?_
    refine XS.ifNo X1.here hx rfl (hb hby d6_4) rfl ((if0 _ _).trans (teq (by decide : (0 : Int32) = (0 : Int32))).2) ?_
    refine XS.aloadN X1.here hx rfl (hb hby d6_7) rfl rfl ?_
    refine XS.iconst X1.here hx rfl (hb hby d6_8) ?_
    refine st2 _ ?_
    refine XS.aloadN X2.here hx rfl (hb hby d6_12) rfl rfl ?_
    refine st3.trans ?_
    refine XS.iconst X3.here hx rfl (hb hby d6_16) ?_
    refine XS.isub X3.here hx rfl (hb hby d6_17) rfl ?_
    show Steps p.tables e below (T3.setTop (mkF m 18 #[.val (.ref x), .unset] [(.int ((3 : Int32) - (1 : Int32))), (.int r2)])) _
    rw [show ((3 : Int32) - (1 : Int32)) = (2 : Int32) from by decide]
    refine XS.icmpNo X3.here hx rfl (hb hby d6_18) rfl (teq (hr2.mpr hs)).2 ?_
    refine XS.iconst X3.here hx rfl (hb hby d6_21) ?_
    refine XS.goto X3.here hx rfl (pc0 := 22) (pc' := 26) rfl (hb hby d6_22) (by decide) (by decide) ?_
    refine XS.istoreN X3.here hx rfl (hb hby d6_26) rfl (l' := #[.val (.ref x), .val (.int (1 : Int32))]) rfl ?_
    refine XS.iloadN X3.here hx rfl (hb hby d6_27) rfl ?_
    refine XS.ifNo X3.here hx rfl (hb hby d6_28) rfl ((if0 _ _).trans (feq (by decide : ¬ ((1 : Int32) = (0 : Int32)))).1) ?_
    refine XS.aloadN X3.here hx rfl (hb hby d6_31) rfl rfl ?_
    refine XS.iconst X3.here hx rfl (hb hby d6_32) ?_
    refine XS.aloadN X3.here hx rfl (hb hby d6_33) rfl rfl ?_
    refine st4.trans ?_
    refine XS.iconst X4.here hx rfl (hb hby d6_37) ?_
    refine XS.isub X4.here hx rfl (hb hby d6_38) rfl ?_
    show Steps p.tables e below (T4.setTop (mkF m 39 #[.val (.ref x), .val (.int (1 : Int32))] [(.int ((3 : Int32) - (1 : Int32))), (.int (1 : Int32)), (.ref x)])) _
    rw [show ((3 : Int32) - (1 : Int32)) = (2 : Int32) from by decide]
    refine st5.trans ?_
    refine XS.goto X5.here hx rfl (pc0 := 42) (pc' := 46) rfl (hb hby d6_42) (by decide) (by decide) ?_
    exact k)
  obtain ⟨fs7, hr7, hrun7, hended7, hW7, hsame7⟩ := X5.leave (v := some (.ref y5)) (fun h => by rw [Bd.returns] at h; cases h)
  refine ⟨_, _, pre6 _ ?_, hrun7, hended7, _, _, rfl, ?_, ⟨_, rfl⟩, hW7, hsame7.mono (by decide) (by decide)⟩
  · show Steps p.tables e below (T5.setTop (mkF m 46 #[.val (.ref x), .val (.int (1 : Int32))] [(.ref y5)])) _
    exact retOut X5 hx (t := (.object "java/lang/String")) Bd.returns rfl (Or.inr (Or.inr (Or.inr (Or.inr ⟨rfl, rfl, rfl⟩)))) (hb hby d6_46) hr7
  · show QspY3 Z x c0 c1 c2 h0 n0 _ T5.heap _
    exact ⟨_, rfl, N5, E5, S5⟩

theorem pd_spN4 : parseMethodDescriptor "(Ljava/lang/String;)Ljava/lang/String;" = some ⟨[(.object "java/lang/String")], some (.object "java/lang/String")⟩ := by decide +kernel

theorem ef_spN4 (m : MethodId) (x0 : Addr)  : entryFrame m #[(.ref x0)] 2 = mkF m 0 #[.val (.ref x0), .unset] [] := by first | (simp [entryFrame, mkF, argsToLocals, Value.category]; done) | rfl
def QspN4 (Z : State) (x : Addr) (c0 c1 c2 c3 : Int32) (h0 : Heap) (n0 : Nat) (v : Option Value) (h : Heap) (L : List Loc) : Prop := v = some .null ∧ Fr n0 L ∧ h = h0
set_option maxRecDepth 65536 in
set_option maxHeartbeats 40000000 in
theorem rmspN4 (l : Launch) (Z : State) (a0 : Array Value) (hw : ∀ d ∈ tables_1, d.before a0 Z = true) (ws : List Jvm.Cond) (x : Addr) (c0 c1 c2 c3 : Int32) (h0 : Heap) (n0 : Nat) (Z0 : n0 ≤ h0.size) (SX : own_str Z h0 x [c0, c1, c2, c3]) (EN : own_env Z h0) (hpr : own_pr [c0, c1, c2, c3]) (hs : ¬ own_sole4 c0 c1 c2 c3) :
    MetFree l (⟨"com/example/oxpecker/oxpecker/MessageTemplate", "soleParameter", "(Ljava/lang/String;)Ljava/lang/String;"⟩ : MethodName) (head1 (Jvm.Cond.code (⟨"com/example/oxpecker/oxpecker/MessageTemplate", "soleParameter", "(Ljava/lang/String;)Ljava/lang/String;"⟩ : MethodName) prog_5_method_4_code 2 (some (.object "java/lang/String")) :: ws) ({ frames := 5, cells := 0, slots := 0, locals := 70 } : Room)) (fun a U => a = #[(.ref x)] ∧ Z.Warmed39 U.vm ∧ U.heap = h0) (fun _ _ _ _ _ => True) (fun _ U o U' => ∃ v L, o = .returned v ∧ QspN4 Z x c0 c1 c2 c3 h0 n0 v U'.heap L ∧ FrameEnd U o U' L ({ frames := 5, cells := 0, slots := 0, locals := 70 } : Room).cells ({ frames := 5, cells := 0, slots := 0, locals := 70 } : Room).slots) := by
  refine MetFree.of_bodySF (plainFor_of_name pn_k1) hisR ?_
  intro p e s m args below meth c s₁ Bd hml0 hP hK
  obtain ⟨rfl, hZ, hh⟩ := hP
  have hx := Bd.exec
  have hby := Bd.bytes
  have hml : c.maxLocals = 2 := hml0
  have hown : s.vm.findClass "com/example/oxpecker/oxpecker/MessageTemplate" = some m.cls := findClass_of_methodNamed Bd.named
  have hnm := (name_of_methodNamed Bd.named Bd.method).1
  have X0 : Stand p l e ({ frames := 5, cells := 0, slots := 0, locals := 70 } : Room) s m #[(.ref x)] below meth c s₁ [] 0 0 := Stand.of_body Bd
  have e0 : s₁.heap = h0 := by rw [← hh, Bd.state]; rfl
  have N0 := Fr.nil n0
  have pre0 : ∀ t, Steps p.tables e below (s₁.setTop (mkF m 0 #[.val (.ref x), .unset] [])) t → Steps p.tables e below (s₁.setTop (entryFrame m #[(.ref x)] 2)) t := fun t k => castTop (ef_spN4 m x) k
  have SX0 := SX
  have EN0 := EN
  obtain ⟨tv, kb, Ex, Vv, Cc, Kk⟩ := SX
  obtain ⟨z, fm, Sz, hz, Sf, hfm⟩ := EN
  have hcd := own_cod hpr
  have hbd := own_up hpr
  have hln : ∀ d ∈ StrChars.Road.wordsLen, d.before a0 Z = true := fun d hd => hw d ((by decide +kernel : ∀ d ∈ StrChars.Road.wordsLen, d ∈ tables_1) d hd)
  have hch : ∀ d ∈ StrChars.Road.wordsChN, d.before a0 Z = true := fun d hd => hw d ((by decide +kernel : ∀ d ∈ StrChars.Road.wordsChN, d ∈ tables_1) d hd)
  have hep : ∀ d ∈ StrChars.Road.wordsEmp, d.before a0 Z = true := fun d hd => hw d ((by decide +kernel : ∀ d ∈ StrChars.Road.wordsEmp, d ∈ tables_1) d hd)
  obtain ⟨cq1, kq1, qa1, qb1, qc1⟩ := isOf hZ e0 Ex
  obtain ⟨_, _, ⟨T1, L1, k1, n1⟩, -, X1, ⟨Lc1, hQ1, l1, y1, z1⟩, st1⟩ := X0.virtualBack hx (y := (⟨"java/lang/String", "isEmpty", "()Z"⟩ : MethodName)) (z := (⟨"java/lang/String", "isEmpty", "()Z"⟩ : MethodName)) hown (mvT hZ (wd34 hw)) (mvT hZ (wd35 hw)) (notFace_of_selects (args := #[]) (mvT hZ (wd37 hw))) (mvT hZ (wd37 hw)) (mvT hZ (wd36 hw)) (by decide) (StrChars.Road.empW (W := 0) hZ hep (kI := 4) (wd9 hw) Ex Vv Cc Kk hcd hbd (Nat.le_of_ble_eq_true rfl) (by decide) (by decide)) qa1 qc1 (g := (mkF m 1 #[.val (.ref x), .unset] [(.ref x)])) rfl (by rw [hml]; rfl) (Steps.refl _) (argsL := []) (rest := []) (lenOf pd_emp rfl) rfl (by show 2 * 0 + _ ≤ _; exact Nat.le_of_eq rfl) (hb hby d6_1) (fun _ _ => ⟨rfl, e0, (by decide : 0 + 0 ≤ _), (by decide : 0 + 0 ≤ _)⟩)
  dsimp only [Pt.U, Pt.locs, Pt.cells, Pt.slots] at X1 l1 y1 z1 st1 hQ1
  subst l1 y1 z1
  obtain ⟨rfl, rfl, q1⟩ := hQ1
  have N1 := Fr.app N0 (Fr.nil n0)
  obtain ⟨_, _, ⟨T2, L2, k2, n2⟩, -, X2, ⟨Lc2, hQ2, l2, y2, z2⟩, st2⟩ := Jvm.LawKit.callS X1 hx (y := (⟨"com/example/oxpecker/oxpecker/MessageTemplate", "parameterEnd", "(Ljava/lang/String;I)I"⟩ : MethodName)) hown (mvT hZ (wd50 hw)) (mvT hZ (wd51 hw)) (mvT hZ (wd32 hw)) (mvT hZ (wd52 hw)) (by decide) (backOf (W := 0) (rmpe4 l Z a0 hw [] x c0 c1 c2 c3 h0 n0 Z0 SX0 EN0 hpr) hZ (wd52 hw) (wd32 hw) (by decide) (by decide)) (g := (mkF m 9 #[.val (.ref x), .unset] [(.int (0 : Int32)), (.ref x)])) rfl (by rw [hml]; rfl) (argsL := [(.ref x), (.int (0 : Int32))]) (rest := []) (lenOf pd_pe4 rfl) rfl (by show 2 * 0 + _ ≤ _; exact Nat.le_of_eq rfl) (hb hby d6_9) (fun _ _ => ⟨rfl, q1, (by decide : 0 + 0 ≤ _), (by decide : 0 + 0 ≤ _)⟩)
  dsimp only [Pt.U, Pt.locs, Pt.cells, Pt.slots] at X2 l2 y2 z2 st2 hQ2
  subst l2 y2 z2
  obtain ⟨r2, rfl, N2q, q2, hr2⟩ := hQ2
  have N2 := Fr.app N1 N2q
  obtain ⟨cq3, kq3, qa3, qb3, qc3⟩ := isOf hZ q2 Ex
  obtain ⟨_, _, ⟨T3, L3, k3, n3⟩, -, X3, ⟨Lc3, hQ3, l3, y3, z3⟩, st3⟩ := X2.virtualBack hx (y := (⟨"java/lang/String", "length", "()I"⟩ : MethodName)) (z := (⟨"java/lang/String", "length", "()I"⟩ : MethodName)) hown (mvT hZ (wd75 hw)) (mvT hZ (wd76 hw)) (notFace_of_selects (args := #[]) (mvT hZ (wd78 hw))) (mvT hZ (wd78 hw)) (mvT hZ (wd77 hw)) (by decide) (StrChars.Road.lenW (W := 1) hZ hln (kI := 4) (wd9 hw) Ex Vv Cc Kk hcd hbd Sz hz (Nat.le_of_ble_eq_true rfl) (by decide) (by decide)) qa3 qc3 (g := (mkF m 13 #[.val (.ref x), .unset] [(.ref x), (.int r2)])) rfl (by rw [hml]; rfl) (Steps.refl _) (argsL := []) (rest := [(.int r2)]) (lenOf pd_len rfl) rfl (by show 2 * 0 + _ ≤ _; exact Nat.le_of_eq rfl) (hb hby d6_13) (fun _ _ => ⟨rfl, q2, (by decide : 0 + 0 ≤ _), (by decide : 0 + 0 ≤ _)⟩)
  dsimp only [Pt.U, Pt.locs, Pt.cells, Pt.slots] at X3 l3 y3 z3 st3 hQ3
  subst l3 y3 z3
  obtain ⟨rfl, rfl, q3⟩ := hQ3
  have N3 := Fr.app N2 (Fr.nil n0)
  have pre4 : ∀ t, Steps p.tables e below (T3.setTop (mkF m 46 #[.val (.ref x), .val (.int (0 : Int32))] [.null])) t → Steps p.tables e below (s₁.setTop (entryFrame m #[(.ref x)] 2)) t := fun t k => pre0 t (by
    show Steps p.tables e below (s₁.setTop (mkF m 0 #[.val (.ref x), .unset] [])) _
    refine XS.aloadN X0.here hx rfl (hb hby d6_0) rfl rfl ?_
    refine st1.trans ?_
    refine XS.ifNo X1.here hx rfl (hb hby d6_4) rfl ((if0 _ _).trans (teq (by decide : (0 : Int32) = (0 : Int32))).2) ?_
    refine XS.aloadN X1.here hx rfl (hb hby d6_7) rfl rfl ?_
    refine XS.iconst X1.here hx rfl (hb hby d6_8) ?_
    refine st2 _ ?_
    refine XS.aloadN X2.here hx rfl (hb hby d6_12) rfl rfl ?_
    refine st3.trans ?_
    refine XS.iconst X3.here hx rfl (hb hby d6_16) ?_
    refine XS.isub X3.here hx rfl (hb hby d6_17) rfl ?_
    show Steps p.tables e below (T3.setTop (mkF m 18 #[.val (.ref x), .unset] [(.int ((4 : Int32) - (1 : Int32))), (.int r2)])) _
    rw [show ((4 : Int32) - (1 : Int32)) = (3 : Int32) from by decide]
    refine XS.icmpYes X3.here hx rfl (pc0 := 18) (pc' := 25) rfl (hb hby d6_18) rfl (feq (fun q => hs (hr2.mp q))).2 (by decide) (by decide) ?_
    refine XS.iconst X3.here hx rfl (hb hby d6_25) ?_
    refine XS.istoreN X3.here hx rfl (hb hby d6_26) rfl (l' := #[.val (.ref x), .val (.int (0 : Int32))]) rfl ?_
    refine XS.iloadN X3.here hx rfl (hb hby d6_27) rfl ?_
    refine XS.ifYes X3.here hx rfl (pc0 := 28) (pc' := 45) rfl (hb hby d6_28) rfl ((if0 _ _).trans (teq (by decide : (0 : Int32) = (0 : Int32))).1) (by decide) (by decide) ?_
    refine XS.aconstNull X3.here hx rfl (hb hby d6_45) ?_
    exact k)
  obtain ⟨fs5, hr5, hrun5, hended5, hW5, hsame5⟩ := X3.leave (v := some .null) (fun h => by rw [Bd.returns] at h; cases h)
  refine ⟨_, _, pre4 _ ?_, hrun5, hended5, _, _, rfl, ?_, ⟨_, rfl⟩, hW5, hsame5.mono (by decide) (by decide)⟩
  · show Steps p.tables e below (T3.setTop (mkF m 46 #[.val (.ref x), .val (.int (0 : Int32))] [.null])) _
    exact retOut X3 hx (t := (.object "java/lang/String")) Bd.returns rfl (Or.inr (Or.inr (Or.inr (Or.inr ⟨rfl, rfl, rfl⟩)))) (hb hby d6_46) hr5
  · show QspN4 Z x c0 c1 c2 c3 h0 n0 _ T3.heap _
    rw [q3]
    exact ⟨rfl, N3, rfl⟩

theorem pd_spY4 : parseMethodDescriptor "(Ljava/lang/String;)Ljava/lang/String;" = some ⟨[(.object "java/lang/String")], some (.object "java/lang/String")⟩ := by decide +kernel

theorem ef_spY4 (m : MethodId) (x0 : Addr)  : entryFrame m #[(.ref x0)] 2 = mkF m 0 #[.val (.ref x0), .unset] [] := by first | (simp [entryFrame, mkF, argsToLocals, Value.category]; done) | rfl
def QspY4 (Z : State) (x : Addr) (c0 c1 c2 c3 : Int32) (h0 : Heap) (n0 : Nat) (v : Option Value) (h : Heap) (L : List Loc) : Prop := ∃ y, v = some (.ref y) ∧ Fr n0 L ∧ Ext h0 h ∧ own_str Z h y [c1, c2]
set_option maxRecDepth 65536 in
set_option maxHeartbeats 40000000 in
theorem rmspY4 (l : Launch) (Z : State) (a0 : Array Value) (hw : ∀ d ∈ tables_1, d.before a0 Z = true) (ws : List Jvm.Cond) (x : Addr) (c0 c1 c2 c3 : Int32) (h0 : Heap) (n0 : Nat) (Z0 : n0 ≤ h0.size) (SX : own_str Z h0 x [c0, c1, c2, c3]) (EN : own_env Z h0) (hpr : own_pr [c0, c1, c2, c3]) (hs : own_sole4 c0 c1 c2 c3) :
    MetFree l (⟨"com/example/oxpecker/oxpecker/MessageTemplate", "soleParameter", "(Ljava/lang/String;)Ljava/lang/String;"⟩ : MethodName) (head1 (Jvm.Cond.code (⟨"com/example/oxpecker/oxpecker/MessageTemplate", "soleParameter", "(Ljava/lang/String;)Ljava/lang/String;"⟩ : MethodName) prog_5_method_4_code 2 (some (.object "java/lang/String")) :: ws) ({ frames := 5, cells := 2, slots := 9, locals := 112 } : Room)) (fun a U => a = #[(.ref x)] ∧ Z.Warmed39 U.vm ∧ U.heap = h0) (fun _ _ _ _ _ => True) (fun _ U o U' => ∃ v L, o = .returned v ∧ QspY4 Z x c0 c1 c2 c3 h0 n0 v U'.heap L ∧ FrameEnd U o U' L ({ frames := 5, cells := 2, slots := 9, locals := 112 } : Room).cells ({ frames := 5, cells := 2, slots := 9, locals := 112 } : Room).slots) := by
  refine MetFree.of_bodySF (plainFor_of_name pn_k1) hisR ?_
  intro p e s m args below meth c s₁ Bd hml0 hP hK
  obtain ⟨rfl, hZ, hh⟩ := hP
  have hx := Bd.exec
  have hby := Bd.bytes
  have hml : c.maxLocals = 2 := hml0
  have hown : s.vm.findClass "com/example/oxpecker/oxpecker/MessageTemplate" = some m.cls := findClass_of_methodNamed Bd.named
  have hnm := (name_of_methodNamed Bd.named Bd.method).1
  have X0 : Stand p l e ({ frames := 5, cells := 2, slots := 9, locals := 112 } : Room) s m #[(.ref x)] below meth c s₁ [] 0 0 := Stand.of_body Bd
  have e0 : s₁.heap = h0 := by rw [← hh, Bd.state]; rfl
  have N0 := Fr.nil n0
  have pre0 : ∀ t, Steps p.tables e below (s₁.setTop (mkF m 0 #[.val (.ref x), .unset] [])) t → Steps p.tables e below (s₁.setTop (entryFrame m #[(.ref x)] 2)) t := fun t k => castTop (ef_spY4 m x) k
  have SX0 := SX
  have EN0 := EN
  obtain ⟨tv, kb, Ex, Vv, Cc, Kk⟩ := SX
  obtain ⟨z, fm, Sz, hz, Sf, hfm⟩ := EN
  have hcd := own_cod hpr
  have hbd := own_up hpr
  have hln : ∀ d ∈ StrChars.Road.wordsLen, d.before a0 Z = true := fun d hd => hw d ((by decide +kernel : ∀ d ∈ StrChars.Road.wordsLen, d ∈ tables_1) d hd)
  have hch : ∀ d ∈ StrChars.Road.wordsChN, d.before a0 Z = true := fun d hd => hw d ((by decide +kernel : ∀ d ∈ StrChars.Road.wordsChN, d ∈ tables_1) d hd)
  have hep : ∀ d ∈ StrChars.Road.wordsEmp, d.before a0 Z = true := fun d hd => hw d ((by decide +kernel : ∀ d ∈ StrChars.Road.wordsEmp, d ∈ tables_1) d hd)
  obtain ⟨cq1, kq1, qa1, qb1, qc1⟩ := isOf hZ e0 Ex
  obtain ⟨_, _, ⟨T1, L1, k1, n1⟩, -, X1, ⟨Lc1, hQ1, l1, y1, z1⟩, st1⟩ := X0.virtualBack hx (y := (⟨"java/lang/String", "isEmpty", "()Z"⟩ : MethodName)) (z := (⟨"java/lang/String", "isEmpty", "()Z"⟩ : MethodName)) hown (mvT hZ (wd34 hw)) (mvT hZ (wd35 hw)) (notFace_of_selects (args := #[]) (mvT hZ (wd37 hw))) (mvT hZ (wd37 hw)) (mvT hZ (wd36 hw)) (by decide) (StrChars.Road.empW (W := 0) hZ hep (kI := 4) (wd9 hw) Ex Vv Cc Kk hcd hbd (Nat.le_of_ble_eq_true rfl) (by decide) (by decide)) qa1 qc1 (g := (mkF m 1 #[.val (.ref x), .unset] [(.ref x)])) rfl (by rw [hml]; rfl) (Steps.refl _) (argsL := []) (rest := []) (lenOf pd_emp rfl) rfl (by show 2 * 0 + _ ≤ _; exact Nat.le_of_eq rfl) (hb hby d6_1) (fun _ _ => ⟨rfl, e0, (by decide : 0 + 0 ≤ _), (by decide : 0 + 0 ≤ _)⟩)
  dsimp only [Pt.U, Pt.locs, Pt.cells, Pt.slots] at X1 l1 y1 z1 st1 hQ1
  subst l1 y1 z1
  obtain ⟨rfl, rfl, q1⟩ := hQ1
  have N1 := Fr.app N0 (Fr.nil n0)
  obtain ⟨_, _, ⟨T2, L2, k2, n2⟩, -, X2, ⟨Lc2, hQ2, l2, y2, z2⟩, st2⟩ := Jvm.LawKit.callS X1 hx (y := (⟨"com/example/oxpecker/oxpecker/MessageTemplate", "parameterEnd", "(Ljava/lang/String;I)I"⟩ : MethodName)) hown (mvT hZ (wd50 hw)) (mvT hZ (wd51 hw)) (mvT hZ (wd32 hw)) (mvT hZ (wd52 hw)) (by decide) (backOf (W := 0) (rmpe4 l Z a0 hw [] x c0 c1 c2 c3 h0 n0 Z0 SX0 EN0 hpr) hZ (wd52 hw) (wd32 hw) (by decide) (by decide)) (g := (mkF m 9 #[.val (.ref x), .unset] [(.int (0 : Int32)), (.ref x)])) rfl (by rw [hml]; rfl) (argsL := [(.ref x), (.int (0 : Int32))]) (rest := []) (lenOf pd_pe4 rfl) rfl (by show 2 * 0 + _ ≤ _; exact Nat.le_of_eq rfl) (hb hby d6_9) (fun _ _ => ⟨rfl, q1, (by decide : 0 + 0 ≤ _), (by decide : 0 + 0 ≤ _)⟩)
  dsimp only [Pt.U, Pt.locs, Pt.cells, Pt.slots] at X2 l2 y2 z2 st2 hQ2
  subst l2 y2 z2
  obtain ⟨r2, rfl, N2q, q2, hr2⟩ := hQ2
  have N2 := Fr.app N1 N2q
  obtain ⟨cq3, kq3, qa3, qb3, qc3⟩ := isOf hZ q2 Ex
  obtain ⟨_, _, ⟨T3, L3, k3, n3⟩, -, X3, ⟨Lc3, hQ3, l3, y3, z3⟩, st3⟩ := X2.virtualBack hx (y := (⟨"java/lang/String", "length", "()I"⟩ : MethodName)) (z := (⟨"java/lang/String", "length", "()I"⟩ : MethodName)) hown (mvT hZ (wd75 hw)) (mvT hZ (wd76 hw)) (notFace_of_selects (args := #[]) (mvT hZ (wd78 hw))) (mvT hZ (wd78 hw)) (mvT hZ (wd77 hw)) (by decide) (StrChars.Road.lenW (W := 1) hZ hln (kI := 4) (wd9 hw) Ex Vv Cc Kk hcd hbd Sz hz (Nat.le_of_ble_eq_true rfl) (by decide) (by decide)) qa3 qc3 (g := (mkF m 13 #[.val (.ref x), .unset] [(.ref x), (.int r2)])) rfl (by rw [hml]; rfl) (Steps.refl _) (argsL := []) (rest := [(.int r2)]) (lenOf pd_len rfl) rfl (by show 2 * 0 + _ ≤ _; exact Nat.le_of_eq rfl) (hb hby d6_13) (fun _ _ => ⟨rfl, q2, (by decide : 0 + 0 ≤ _), (by decide : 0 + 0 ≤ _)⟩)
  dsimp only [Pt.U, Pt.locs, Pt.cells, Pt.slots] at X3 l3 y3 z3 st3 hQ3
  subst l3 y3 z3
  obtain ⟨rfl, rfl, q3⟩ := hQ3
  have N3 := Fr.app N2 (Fr.nil n0)
  obtain ⟨cq4, kq4, qa4, qb4, qc4⟩ := isOf hZ q3 Ex
  obtain ⟨_, _, ⟨T4, L4, k4, n4⟩, -, X4, ⟨Lc4, hQ4, l4, y4, z4⟩, st4⟩ := X3.virtualBack hx (y := (⟨"java/lang/String", "length", "()I"⟩ : MethodName)) (z := (⟨"java/lang/String", "length", "()I"⟩ : MethodName)) hown (mvT hZ (wd75 hw)) (mvT hZ (wd76 hw)) (notFace_of_selects (args := #[]) (mvT hZ (wd78 hw))) (mvT hZ (wd78 hw)) (mvT hZ (wd77 hw)) (by decide) (StrChars.Road.lenW (W := 2) hZ hln (kI := 4) (wd9 hw) Ex Vv Cc Kk hcd hbd Sz hz (Nat.le_of_ble_eq_true rfl) (by decide) (by decide)) qa4 qc4 (g := (mkF m 34 #[.val (.ref x), .val (.int (1 : Int32))] [(.ref x), (.int (1 : Int32)), (.ref x)])) rfl (by rw [hml]; rfl) (Steps.refl _) (argsL := []) (rest := [(.int (1 : Int32)), (.ref x)]) (lenOf pd_len rfl) rfl (by show 2 * 0 + _ ≤ _; exact Nat.le_of_eq rfl) (hb hby d6_34) (fun _ _ => ⟨rfl, q3, (by decide : 0 + 0 ≤ _), (by decide : 0 + 0 ≤ _)⟩)
  dsimp only [Pt.U, Pt.locs, Pt.cells, Pt.slots] at X4 l4 y4 z4 st4 hQ4
  subst l4 y4 z4
  obtain ⟨rfl, rfl, q4⟩ := hQ4
  have N4 := Fr.app N3 (Fr.nil n0)
  obtain ⟨cq5, kq5, qa5, qb5, qc5⟩ := isOf hZ q4 Ex
  obtain ⟨_, _, ⟨T5, L5, k5, n5⟩, -, X5, ⟨Lc5, hQ5, l5, y5, z5⟩, st5⟩ := X4.virtualBack hx (y := (⟨"java/lang/String", "substring", "(II)Ljava/lang/String;"⟩ : MethodName)) (z := (⟨"java/lang/String", "substring", "(II)Ljava/lang/String;"⟩ : MethodName)) hown (mvT hZ (wd91 hw)) (mvT hZ (wd92 hw)) (notFace_of_selects (args := #[]) (mvT hZ (wd94 hw))) (mvT hZ (wd94 hw)) (mvT hZ (wd93 hw)) (by decide) (backOf (W := 0) (rmss4 l Z a0 hw [] x c0 c1 c2 c3 h0 n0 Z0 SX0 EN0 hpr) hZ (wd95 hw) (wd10 hw) (by decide) (by decide)) qa5 qc5 (g := (mkF m 39 #[.val (.ref x), .val (.int (1 : Int32))] [(.int (3 : Int32)), (.int (1 : Int32)), (.ref x)])) rfl (by rw [hml]; rfl) (Steps.refl _) (argsL := [(.int (1 : Int32)), (.int (3 : Int32))]) (rest := []) (lenOf pd_ss4 rfl) rfl (by show 2 * 0 + _ ≤ _; exact Nat.le_of_eq rfl) (hb hby d6_39) (fun _ _ => ⟨rfl, q4, (by decide : 0 + 2 ≤ _), (by decide : 0 + 9 ≤ _)⟩)
  dsimp only [Pt.U, Pt.locs, Pt.cells, Pt.slots] at X5 l5 y5 z5 st5 hQ5
  subst l5 y5 z5
  obtain ⟨y5, rfl, N5q, E5, S5⟩ := hQ5
  have N5 := Fr.app N4 N5q
  have pre6 : ∀ t, Steps p.tables e below (T5.setTop (mkF m 46 #[.val (.ref x), .val (.int (1 : Int32))] [(.ref y5)])) t → Steps p.tables e below (s₁.setTop (entryFrame m #[(.ref x)] 2)) t := fun t k => pre0 t (by
    show Steps p.tables e below (s₁.setTop (mkF m 0 #[.val (.ref x), .unset] [])) _
    refine XS.aloadN X0.here hx rfl (hb hby d6_0) rfl rfl ?_
    refine st1.trans ?_
    refine XS.ifNo X1.here hx rfl (hb hby d6_4) rfl ((if0 _ _).trans (teq (by decide : (0 : Int32) = (0 : Int32))).2) ?_
    refine XS.aloadN X1.here hx rfl (hb hby d6_7) rfl rfl ?_
    refine XS.iconst X1.here hx rfl (hb hby d6_8) ?_
    refine st2 _ ?_
    refine XS.aloadN X2.here hx rfl (hb hby d6_12) rfl rfl ?_
    refine st3.trans ?_
    refine XS.iconst X3.here hx rfl (hb hby d6_16) ?_
    refine XS.isub X3.here hx rfl (hb hby d6_17) rfl ?_
    show Steps p.tables e below (T3.setTop (mkF m 18 #[.val (.ref x), .unset] [(.int ((4 : Int32) - (1 : Int32))), (.int r2)])) _
    rw [show ((4 : Int32) - (1 : Int32)) = (3 : Int32) from by decide]
    refine XS.icmpNo X3.here hx rfl (hb hby d6_18) rfl (teq (hr2.mpr hs)).2 ?_
    refine XS.iconst X3.here hx rfl (hb hby d6_21) ?_
    refine XS.goto X3.here hx rfl (pc0 := 22) (pc' := 26) rfl (hb hby d6_22) (by decide) (by decide) ?_
    refine XS.istoreN X3.here hx rfl (hb hby d6_26) rfl (l' := #[.val (.ref x), .val (.int (1 : Int32))]) rfl ?_
    refine XS.iloadN X3.here hx rfl (hb hby d6_27) rfl ?_
    refine XS.ifNo X3.here hx rfl (hb hby d6_28) rfl ((if0 _ _).trans (feq (by decide : ¬ ((1 : Int32) = (0 : Int32)))).1) ?_
    refine XS.aloadN X3.here hx rfl (hb hby d6_31) rfl rfl ?_
    refine XS.iconst X3.here hx rfl (hb hby d6_32) ?_
    refine XS.aloadN X3.here hx rfl (hb hby d6_33) rfl rfl ?_
    refine st4.trans ?_
    refine XS.iconst X4.here hx rfl (hb hby d6_37) ?_
    refine XS.isub X4.here hx rfl (hb hby d6_38) rfl ?_
    show Steps p.tables e below (T4.setTop (mkF m 39 #[.val (.ref x), .val (.int (1 : Int32))] [(.int ((4 : Int32) - (1 : Int32))), (.int (1 : Int32)), (.ref x)])) _
    rw [show ((4 : Int32) - (1 : Int32)) = (3 : Int32) from by decide]
    refine st5.trans ?_
    refine XS.goto X5.here hx rfl (pc0 := 42) (pc' := 46) rfl (hb hby d6_42) (by decide) (by decide) ?_
    exact k)
  obtain ⟨fs7, hr7, hrun7, hended7, hW7, hsame7⟩ := X5.leave (v := some (.ref y5)) (fun h => by rw [Bd.returns] at h; cases h)
  refine ⟨_, _, pre6 _ ?_, hrun7, hended7, _, _, rfl, ?_, ⟨_, rfl⟩, hW7, hsame7.mono (by decide) (by decide)⟩
  · show Steps p.tables e below (T5.setTop (mkF m 46 #[.val (.ref x), .val (.int (1 : Int32))] [(.ref y5)])) _
    exact retOut X5 hx (t := (.object "java/lang/String")) Bd.returns rfl (Or.inr (Or.inr (Or.inr (Or.inr ⟨rfl, rfl, rfl⟩)))) (hb hby d6_46) hr7
  · show QspY4 Z x c0 c1 c2 c3 h0 n0 _ T5.heap _
    exact ⟨_, rfl, N5, E5, S5⟩

theorem pd_spN5 : parseMethodDescriptor "(Ljava/lang/String;)Ljava/lang/String;" = some ⟨[(.object "java/lang/String")], some (.object "java/lang/String")⟩ := by decide +kernel

theorem ef_spN5 (m : MethodId) (x0 : Addr)  : entryFrame m #[(.ref x0)] 2 = mkF m 0 #[.val (.ref x0), .unset] [] := by first | (simp [entryFrame, mkF, argsToLocals, Value.category]; done) | rfl
def QspN5 (Z : State) (x : Addr) (c0 c1 c2 c3 c4 : Int32) (h0 : Heap) (n0 : Nat) (v : Option Value) (h : Heap) (L : List Loc) : Prop := v = some .null ∧ Fr n0 L ∧ h = h0
set_option maxRecDepth 65536 in
set_option maxHeartbeats 40000000 in
theorem rmspN5 (l : Launch) (Z : State) (a0 : Array Value) (hw : ∀ d ∈ tables_1, d.before a0 Z = true) (ws : List Jvm.Cond) (x : Addr) (c0 c1 c2 c3 c4 : Int32) (h0 : Heap) (n0 : Nat) (Z0 : n0 ≤ h0.size) (SX : own_str Z h0 x [c0, c1, c2, c3, c4]) (EN : own_env Z h0) (hpr : own_pr [c0, c1, c2, c3, c4]) (hs : ¬ own_sole5 c0 c1 c2 c3 c4) :
    MetFree l (⟨"com/example/oxpecker/oxpecker/MessageTemplate", "soleParameter", "(Ljava/lang/String;)Ljava/lang/String;"⟩ : MethodName) (head1 (Jvm.Cond.code (⟨"com/example/oxpecker/oxpecker/MessageTemplate", "soleParameter", "(Ljava/lang/String;)Ljava/lang/String;"⟩ : MethodName) prog_5_method_4_code 2 (some (.object "java/lang/String")) :: ws) ({ frames := 5, cells := 0, slots := 0, locals := 70 } : Room)) (fun a U => a = #[(.ref x)] ∧ Z.Warmed39 U.vm ∧ U.heap = h0) (fun _ _ _ _ _ => True) (fun _ U o U' => ∃ v L, o = .returned v ∧ QspN5 Z x c0 c1 c2 c3 c4 h0 n0 v U'.heap L ∧ FrameEnd U o U' L ({ frames := 5, cells := 0, slots := 0, locals := 70 } : Room).cells ({ frames := 5, cells := 0, slots := 0, locals := 70 } : Room).slots) := by
  refine MetFree.of_bodySF (plainFor_of_name pn_k1) hisR ?_
  intro p e s m args below meth c s₁ Bd hml0 hP hK
  obtain ⟨rfl, hZ, hh⟩ := hP
  have hx := Bd.exec
  have hby := Bd.bytes
  have hml : c.maxLocals = 2 := hml0
  have hown : s.vm.findClass "com/example/oxpecker/oxpecker/MessageTemplate" = some m.cls := findClass_of_methodNamed Bd.named
  have hnm := (name_of_methodNamed Bd.named Bd.method).1
  have X0 : Stand p l e ({ frames := 5, cells := 0, slots := 0, locals := 70 } : Room) s m #[(.ref x)] below meth c s₁ [] 0 0 := Stand.of_body Bd
  have e0 : s₁.heap = h0 := by rw [← hh, Bd.state]; rfl
  have N0 := Fr.nil n0
  have pre0 : ∀ t, Steps p.tables e below (s₁.setTop (mkF m 0 #[.val (.ref x), .unset] [])) t → Steps p.tables e below (s₁.setTop (entryFrame m #[(.ref x)] 2)) t := fun t k => castTop (ef_spN5 m x) k
  have SX0 := SX
  have EN0 := EN
  obtain ⟨tv, kb, Ex, Vv, Cc, Kk⟩ := SX
  obtain ⟨z, fm, Sz, hz, Sf, hfm⟩ := EN
  have hcd := own_cod hpr
  have hbd := own_up hpr
  have hln : ∀ d ∈ StrChars.Road.wordsLen, d.before a0 Z = true := fun d hd => hw d ((by decide +kernel : ∀ d ∈ StrChars.Road.wordsLen, d ∈ tables_1) d hd)
  have hch : ∀ d ∈ StrChars.Road.wordsChN, d.before a0 Z = true := fun d hd => hw d ((by decide +kernel : ∀ d ∈ StrChars.Road.wordsChN, d ∈ tables_1) d hd)
  have hep : ∀ d ∈ StrChars.Road.wordsEmp, d.before a0 Z = true := fun d hd => hw d ((by decide +kernel : ∀ d ∈ StrChars.Road.wordsEmp, d ∈ tables_1) d hd)
  obtain ⟨cq1, kq1, qa1, qb1, qc1⟩ := isOf hZ e0 Ex
  obtain ⟨_, _, ⟨T1, L1, k1, n1⟩, -, X1, ⟨Lc1, hQ1, l1, y1, z1⟩, st1⟩ := X0.virtualBack hx (y := (⟨"java/lang/String", "isEmpty", "()Z"⟩ : MethodName)) (z := (⟨"java/lang/String", "isEmpty", "()Z"⟩ : MethodName)) hown (mvT hZ (wd34 hw)) (mvT hZ (wd35 hw)) (notFace_of_selects (args := #[]) (mvT hZ (wd37 hw))) (mvT hZ (wd37 hw)) (mvT hZ (wd36 hw)) (by decide) (StrChars.Road.empW (W := 0) hZ hep (kI := 4) (wd9 hw) Ex Vv Cc Kk hcd hbd (Nat.le_of_ble_eq_true rfl) (by decide) (by decide)) qa1 qc1 (g := (mkF m 1 #[.val (.ref x), .unset] [(.ref x)])) rfl (by rw [hml]; rfl) (Steps.refl _) (argsL := []) (rest := []) (lenOf pd_emp rfl) rfl (by show 2 * 0 + _ ≤ _; exact Nat.le_of_eq rfl) (hb hby d6_1) (fun _ _ => ⟨rfl, e0, (by decide : 0 + 0 ≤ _), (by decide : 0 + 0 ≤ _)⟩)
  dsimp only [Pt.U, Pt.locs, Pt.cells, Pt.slots] at X1 l1 y1 z1 st1 hQ1
  subst l1 y1 z1
  obtain ⟨rfl, rfl, q1⟩ := hQ1
  have N1 := Fr.app N0 (Fr.nil n0)
  obtain ⟨_, _, ⟨T2, L2, k2, n2⟩, -, X2, ⟨Lc2, hQ2, l2, y2, z2⟩, st2⟩ := Jvm.LawKit.callS X1 hx (y := (⟨"com/example/oxpecker/oxpecker/MessageTemplate", "parameterEnd", "(Ljava/lang/String;I)I"⟩ : MethodName)) hown (mvT hZ (wd50 hw)) (mvT hZ (wd51 hw)) (mvT hZ (wd32 hw)) (mvT hZ (wd52 hw)) (by decide) (backOf (W := 0) (rmpe5 l Z a0 hw [] x c0 c1 c2 c3 c4 h0 n0 Z0 SX0 EN0 hpr) hZ (wd52 hw) (wd32 hw) (by decide) (by decide)) (g := (mkF m 9 #[.val (.ref x), .unset] [(.int (0 : Int32)), (.ref x)])) rfl (by rw [hml]; rfl) (argsL := [(.ref x), (.int (0 : Int32))]) (rest := []) (lenOf pd_pe5 rfl) rfl (by show 2 * 0 + _ ≤ _; exact Nat.le_of_eq rfl) (hb hby d6_9) (fun _ _ => ⟨rfl, q1, (by decide : 0 + 0 ≤ _), (by decide : 0 + 0 ≤ _)⟩)
  dsimp only [Pt.U, Pt.locs, Pt.cells, Pt.slots] at X2 l2 y2 z2 st2 hQ2
  subst l2 y2 z2
  obtain ⟨r2, rfl, N2q, q2, hr2⟩ := hQ2
  have N2 := Fr.app N1 N2q
  obtain ⟨cq3, kq3, qa3, qb3, qc3⟩ := isOf hZ q2 Ex
  obtain ⟨_, _, ⟨T3, L3, k3, n3⟩, -, X3, ⟨Lc3, hQ3, l3, y3, z3⟩, st3⟩ := X2.virtualBack hx (y := (⟨"java/lang/String", "length", "()I"⟩ : MethodName)) (z := (⟨"java/lang/String", "length", "()I"⟩ : MethodName)) hown (mvT hZ (wd75 hw)) (mvT hZ (wd76 hw)) (notFace_of_selects (args := #[]) (mvT hZ (wd78 hw))) (mvT hZ (wd78 hw)) (mvT hZ (wd77 hw)) (by decide) (StrChars.Road.lenW (W := 1) hZ hln (kI := 4) (wd9 hw) Ex Vv Cc Kk hcd hbd Sz hz (Nat.le_of_ble_eq_true rfl) (by decide) (by decide)) qa3 qc3 (g := (mkF m 13 #[.val (.ref x), .unset] [(.ref x), (.int r2)])) rfl (by rw [hml]; rfl) (Steps.refl _) (argsL := []) (rest := [(.int r2)]) (lenOf pd_len rfl) rfl (by show 2 * 0 + _ ≤ _; exact Nat.le_of_eq rfl) (hb hby d6_13) (fun _ _ => ⟨rfl, q2, (by decide : 0 + 0 ≤ _), (by decide : 0 + 0 ≤ _)⟩)
  dsimp only [Pt.U, Pt.locs, Pt.cells, Pt.slots] at X3 l3 y3 z3 st3 hQ3
  subst l3 y3 z3
  obtain ⟨rfl, rfl, q3⟩ := hQ3
  have N3 := Fr.app N2 (Fr.nil n0)
  have pre4 : ∀ t, Steps p.tables e below (T3.setTop (mkF m 46 #[.val (.ref x), .val (.int (0 : Int32))] [.null])) t → Steps p.tables e below (s₁.setTop (entryFrame m #[(.ref x)] 2)) t := fun t k => pre0 t (by
    show Steps p.tables e below (s₁.setTop (mkF m 0 #[.val (.ref x), .unset] [])) _
    refine XS.aloadN X0.here hx rfl (hb hby d6_0) rfl rfl ?_
    refine st1.trans ?_
    refine XS.ifNo X1.here hx rfl (hb hby d6_4) rfl ((if0 _ _).trans (teq (by decide : (0 : Int32) = (0 : Int32))).2) ?_
    refine XS.aloadN X1.here hx rfl (hb hby d6_7) rfl rfl ?_
    refine XS.iconst X1.here hx rfl (hb hby d6_8) ?_
    refine st2 _ ?_
    refine XS.aloadN X2.here hx rfl (hb hby d6_12) rfl rfl ?_
    refine st3.trans ?_
    refine XS.iconst X3.here hx rfl (hb hby d6_16) ?_
    refine XS.isub X3.here hx rfl (hb hby d6_17) rfl ?_
    show Steps p.tables e below (T3.setTop (mkF m 18 #[.val (.ref x), .unset] [(.int ((5 : Int32) - (1 : Int32))), (.int r2)])) _
    rw [show ((5 : Int32) - (1 : Int32)) = (4 : Int32) from by decide]
    refine XS.icmpYes X3.here hx rfl (pc0 := 18) (pc' := 25) rfl (hb hby d6_18) rfl (feq (fun q => hs (hr2.mp q))).2 (by decide) (by decide) ?_
    refine XS.iconst X3.here hx rfl (hb hby d6_25) ?_
    refine XS.istoreN X3.here hx rfl (hb hby d6_26) rfl (l' := #[.val (.ref x), .val (.int (0 : Int32))]) rfl ?_
    refine XS.iloadN X3.here hx rfl (hb hby d6_27) rfl ?_
    refine XS.ifYes X3.here hx rfl (pc0 := 28) (pc' := 45) rfl (hb hby d6_28) rfl ((if0 _ _).trans (teq (by decide : (0 : Int32) = (0 : Int32))).1) (by decide) (by decide) ?_
    refine XS.aconstNull X3.here hx rfl (hb hby d6_45) ?_
    exact k)
  obtain ⟨fs5, hr5, hrun5, hended5, hW5, hsame5⟩ := X3.leave (v := some .null) (fun h => by rw [Bd.returns] at h; cases h)
  refine ⟨_, _, pre4 _ ?_, hrun5, hended5, _, _, rfl, ?_, ⟨_, rfl⟩, hW5, hsame5.mono (by decide) (by decide)⟩
  · show Steps p.tables e below (T3.setTop (mkF m 46 #[.val (.ref x), .val (.int (0 : Int32))] [.null])) _
    exact retOut X3 hx (t := (.object "java/lang/String")) Bd.returns rfl (Or.inr (Or.inr (Or.inr (Or.inr ⟨rfl, rfl, rfl⟩)))) (hb hby d6_46) hr5
  · show QspN5 Z x c0 c1 c2 c3 c4 h0 n0 _ T3.heap _
    rw [q3]
    exact ⟨rfl, N3, rfl⟩

theorem pd_spY5 : parseMethodDescriptor "(Ljava/lang/String;)Ljava/lang/String;" = some ⟨[(.object "java/lang/String")], some (.object "java/lang/String")⟩ := by decide +kernel

theorem ef_spY5 (m : MethodId) (x0 : Addr)  : entryFrame m #[(.ref x0)] 2 = mkF m 0 #[.val (.ref x0), .unset] [] := by first | (simp [entryFrame, mkF, argsToLocals, Value.category]; done) | rfl
def QspY5 (Z : State) (x : Addr) (c0 c1 c2 c3 c4 : Int32) (h0 : Heap) (n0 : Nat) (v : Option Value) (h : Heap) (L : List Loc) : Prop := ∃ y, v = some (.ref y) ∧ Fr n0 L ∧ Ext h0 h ∧ own_str Z h y [c1, c2, c3]
set_option maxRecDepth 65536 in
set_option maxHeartbeats 40000000 in
theorem rmspY5 (l : Launch) (Z : State) (a0 : Array Value) (hw : ∀ d ∈ tables_1, d.before a0 Z = true) (ws : List Jvm.Cond) (x : Addr) (c0 c1 c2 c3 c4 : Int32) (h0 : Heap) (n0 : Nat) (Z0 : n0 ≤ h0.size) (SX : own_str Z h0 x [c0, c1, c2, c3, c4]) (EN : own_env Z h0) (hpr : own_pr [c0, c1, c2, c3, c4]) (hs : own_sole5 c0 c1 c2 c3 c4) :
    MetFree l (⟨"com/example/oxpecker/oxpecker/MessageTemplate", "soleParameter", "(Ljava/lang/String;)Ljava/lang/String;"⟩ : MethodName) (head1 (Jvm.Cond.code (⟨"com/example/oxpecker/oxpecker/MessageTemplate", "soleParameter", "(Ljava/lang/String;)Ljava/lang/String;"⟩ : MethodName) prog_5_method_4_code 2 (some (.object "java/lang/String")) :: ws) ({ frames := 5, cells := 2, slots := 9, locals := 112 } : Room)) (fun a U => a = #[(.ref x)] ∧ Z.Warmed39 U.vm ∧ U.heap = h0) (fun _ _ _ _ _ => True) (fun _ U o U' => ∃ v L, o = .returned v ∧ QspY5 Z x c0 c1 c2 c3 c4 h0 n0 v U'.heap L ∧ FrameEnd U o U' L ({ frames := 5, cells := 2, slots := 9, locals := 112 } : Room).cells ({ frames := 5, cells := 2, slots := 9, locals := 112 } : Room).slots) := by
  refine MetFree.of_bodySF (plainFor_of_name pn_k1) hisR ?_
  intro p e s m args below meth c s₁ Bd hml0 hP hK
  obtain ⟨rfl, hZ, hh⟩ := hP
  have hx := Bd.exec
  have hby := Bd.bytes
  have hml : c.maxLocals = 2 := hml0
  have hown : s.vm.findClass "com/example/oxpecker/oxpecker/MessageTemplate" = some m.cls := findClass_of_methodNamed Bd.named
  have hnm := (name_of_methodNamed Bd.named Bd.method).1
  have X0 : Stand p l e ({ frames := 5, cells := 2, slots := 9, locals := 112 } : Room) s m #[(.ref x)] below meth c s₁ [] 0 0 := Stand.of_body Bd
  have e0 : s₁.heap = h0 := by rw [← hh, Bd.state]; rfl
  have N0 := Fr.nil n0
  have pre0 : ∀ t, Steps p.tables e below (s₁.setTop (mkF m 0 #[.val (.ref x), .unset] [])) t → Steps p.tables e below (s₁.setTop (entryFrame m #[(.ref x)] 2)) t := fun t k => castTop (ef_spY5 m x) k
  have SX0 := SX
  have EN0 := EN
  obtain ⟨tv, kb, Ex, Vv, Cc, Kk⟩ := SX
  obtain ⟨z, fm, Sz, hz, Sf, hfm⟩ := EN
  have hcd := own_cod hpr
  have hbd := own_up hpr
  have hln : ∀ d ∈ StrChars.Road.wordsLen, d.before a0 Z = true := fun d hd => hw d ((by decide +kernel : ∀ d ∈ StrChars.Road.wordsLen, d ∈ tables_1) d hd)
  have hch : ∀ d ∈ StrChars.Road.wordsChN, d.before a0 Z = true := fun d hd => hw d ((by decide +kernel : ∀ d ∈ StrChars.Road.wordsChN, d ∈ tables_1) d hd)
  have hep : ∀ d ∈ StrChars.Road.wordsEmp, d.before a0 Z = true := fun d hd => hw d ((by decide +kernel : ∀ d ∈ StrChars.Road.wordsEmp, d ∈ tables_1) d hd)
  obtain ⟨cq1, kq1, qa1, qb1, qc1⟩ := isOf hZ e0 Ex
  obtain ⟨_, _, ⟨T1, L1, k1, n1⟩, -, X1, ⟨Lc1, hQ1, l1, y1, z1⟩, st1⟩ := X0.virtualBack hx (y := (⟨"java/lang/String", "isEmpty", "()Z"⟩ : MethodName)) (z := (⟨"java/lang/String", "isEmpty", "()Z"⟩ : MethodName)) hown (mvT hZ (wd34 hw)) (mvT hZ (wd35 hw)) (notFace_of_selects (args := #[]) (mvT hZ (wd37 hw))) (mvT hZ (wd37 hw)) (mvT hZ (wd36 hw)) (by decide) (StrChars.Road.empW (W := 0) hZ hep (kI := 4) (wd9 hw) Ex Vv Cc Kk hcd hbd (Nat.le_of_ble_eq_true rfl) (by decide) (by decide)) qa1 qc1 (g := (mkF m 1 #[.val (.ref x), .unset] [(.ref x)])) rfl (by rw [hml]; rfl) (Steps.refl _) (argsL := []) (rest := []) (lenOf pd_emp rfl) rfl (by show 2 * 0 + _ ≤ _; exact Nat.le_of_eq rfl) (hb hby d6_1) (fun _ _ => ⟨rfl, e0, (by decide : 0 + 0 ≤ _), (by decide : 0 + 0 ≤ _)⟩)
  dsimp only [Pt.U, Pt.locs, Pt.cells, Pt.slots] at X1 l1 y1 z1 st1 hQ1
  subst l1 y1 z1
  obtain ⟨rfl, rfl, q1⟩ := hQ1
  have N1 := Fr.app N0 (Fr.nil n0)
  obtain ⟨_, _, ⟨T2, L2, k2, n2⟩, -, X2, ⟨Lc2, hQ2, l2, y2, z2⟩, st2⟩ := Jvm.LawKit.callS X1 hx (y := (⟨"com/example/oxpecker/oxpecker/MessageTemplate", "parameterEnd", "(Ljava/lang/String;I)I"⟩ : MethodName)) hown (mvT hZ (wd50 hw)) (mvT hZ (wd51 hw)) (mvT hZ (wd32 hw)) (mvT hZ (wd52 hw)) (by decide) (backOf (W := 0) (rmpe5 l Z a0 hw [] x c0 c1 c2 c3 c4 h0 n0 Z0 SX0 EN0 hpr) hZ (wd52 hw) (wd32 hw) (by decide) (by decide)) (g := (mkF m 9 #[.val (.ref x), .unset] [(.int (0 : Int32)), (.ref x)])) rfl (by rw [hml]; rfl) (argsL := [(.ref x), (.int (0 : Int32))]) (rest := []) (lenOf pd_pe5 rfl) rfl (by show 2 * 0 + _ ≤ _; exact Nat.le_of_eq rfl) (hb hby d6_9) (fun _ _ => ⟨rfl, q1, (by decide : 0 + 0 ≤ _), (by decide : 0 + 0 ≤ _)⟩)
  dsimp only [Pt.U, Pt.locs, Pt.cells, Pt.slots] at X2 l2 y2 z2 st2 hQ2
  subst l2 y2 z2
  obtain ⟨r2, rfl, N2q, q2, hr2⟩ := hQ2
  have N2 := Fr.app N1 N2q
  obtain ⟨cq3, kq3, qa3, qb3, qc3⟩ := isOf hZ q2 Ex
  obtain ⟨_, _, ⟨T3, L3, k3, n3⟩, -, X3, ⟨Lc3, hQ3, l3, y3, z3⟩, st3⟩ := X2.virtualBack hx (y := (⟨"java/lang/String", "length", "()I"⟩ : MethodName)) (z := (⟨"java/lang/String", "length", "()I"⟩ : MethodName)) hown (mvT hZ (wd75 hw)) (mvT hZ (wd76 hw)) (notFace_of_selects (args := #[]) (mvT hZ (wd78 hw))) (mvT hZ (wd78 hw)) (mvT hZ (wd77 hw)) (by decide) (StrChars.Road.lenW (W := 1) hZ hln (kI := 4) (wd9 hw) Ex Vv Cc Kk hcd hbd Sz hz (Nat.le_of_ble_eq_true rfl) (by decide) (by decide)) qa3 qc3 (g := (mkF m 13 #[.val (.ref x), .unset] [(.ref x), (.int r2)])) rfl (by rw [hml]; rfl) (Steps.refl _) (argsL := []) (rest := [(.int r2)]) (lenOf pd_len rfl) rfl (by show 2 * 0 + _ ≤ _; exact Nat.le_of_eq rfl) (hb hby d6_13) (fun _ _ => ⟨rfl, q2, (by decide : 0 + 0 ≤ _), (by decide : 0 + 0 ≤ _)⟩)
  dsimp only [Pt.U, Pt.locs, Pt.cells, Pt.slots] at X3 l3 y3 z3 st3 hQ3
  subst l3 y3 z3
  obtain ⟨rfl, rfl, q3⟩ := hQ3
  have N3 := Fr.app N2 (Fr.nil n0)
  obtain ⟨cq4, kq4, qa4, qb4, qc4⟩ := isOf hZ q3 Ex
  obtain ⟨_, _, ⟨T4, L4, k4, n4⟩, -, X4, ⟨Lc4, hQ4, l4, y4, z4⟩, st4⟩ := X3.virtualBack hx (y := (⟨"java/lang/String", "length", "()I"⟩ : MethodName)) (z := (⟨"java/lang/String", "length", "()I"⟩ : MethodName)) hown (mvT hZ (wd75 hw)) (mvT hZ (wd76 hw)) (notFace_of_selects (args := #[]) (mvT hZ (wd78 hw))) (mvT hZ (wd78 hw)) (mvT hZ (wd77 hw)) (by decide) (StrChars.Road.lenW (W := 2) hZ hln (kI := 4) (wd9 hw) Ex Vv Cc Kk hcd hbd Sz hz (Nat.le_of_ble_eq_true rfl) (by decide) (by decide)) qa4 qc4 (g := (mkF m 34 #[.val (.ref x), .val (.int (1 : Int32))] [(.ref x), (.int (1 : Int32)), (.ref x)])) rfl (by rw [hml]; rfl) (Steps.refl _) (argsL := []) (rest := [(.int (1 : Int32)), (.ref x)]) (lenOf pd_len rfl) rfl (by show 2 * 0 + _ ≤ _; exact Nat.le_of_eq rfl) (hb hby d6_34) (fun _ _ => ⟨rfl, q3, (by decide : 0 + 0 ≤ _), (by decide : 0 + 0 ≤ _)⟩)
  dsimp only [Pt.U, Pt.locs, Pt.cells, Pt.slots] at X4 l4 y4 z4 st4 hQ4
  subst l4 y4 z4
  obtain ⟨rfl, rfl, q4⟩ := hQ4
  have N4 := Fr.app N3 (Fr.nil n0)
  obtain ⟨cq5, kq5, qa5, qb5, qc5⟩ := isOf hZ q4 Ex
  obtain ⟨_, _, ⟨T5, L5, k5, n5⟩, -, X5, ⟨Lc5, hQ5, l5, y5, z5⟩, st5⟩ := X4.virtualBack hx (y := (⟨"java/lang/String", "substring", "(II)Ljava/lang/String;"⟩ : MethodName)) (z := (⟨"java/lang/String", "substring", "(II)Ljava/lang/String;"⟩ : MethodName)) hown (mvT hZ (wd91 hw)) (mvT hZ (wd92 hw)) (notFace_of_selects (args := #[]) (mvT hZ (wd94 hw))) (mvT hZ (wd94 hw)) (mvT hZ (wd93 hw)) (by decide) (backOf (W := 0) (rmss5 l Z a0 hw [] x c0 c1 c2 c3 c4 h0 n0 Z0 SX0 EN0 hpr) hZ (wd95 hw) (wd10 hw) (by decide) (by decide)) qa5 qc5 (g := (mkF m 39 #[.val (.ref x), .val (.int (1 : Int32))] [(.int (4 : Int32)), (.int (1 : Int32)), (.ref x)])) rfl (by rw [hml]; rfl) (Steps.refl _) (argsL := [(.int (1 : Int32)), (.int (4 : Int32))]) (rest := []) (lenOf pd_ss5 rfl) rfl (by show 2 * 0 + _ ≤ _; exact Nat.le_of_eq rfl) (hb hby d6_39) (fun _ _ => ⟨rfl, q4, (by decide : 0 + 2 ≤ _), (by decide : 0 + 9 ≤ _)⟩)
  dsimp only [Pt.U, Pt.locs, Pt.cells, Pt.slots] at X5 l5 y5 z5 st5 hQ5
  subst l5 y5 z5
  obtain ⟨y5, rfl, N5q, E5, S5⟩ := hQ5
  have N5 := Fr.app N4 N5q
  have pre6 : ∀ t, Steps p.tables e below (T5.setTop (mkF m 46 #[.val (.ref x), .val (.int (1 : Int32))] [(.ref y5)])) t → Steps p.tables e below (s₁.setTop (entryFrame m #[(.ref x)] 2)) t := fun t k => pre0 t (by
    show Steps p.tables e below (s₁.setTop (mkF m 0 #[.val (.ref x), .unset] [])) _
    refine XS.aloadN X0.here hx rfl (hb hby d6_0) rfl rfl ?_
    refine st1.trans ?_
    refine XS.ifNo X1.here hx rfl (hb hby d6_4) rfl ((if0 _ _).trans (teq (by decide : (0 : Int32) = (0 : Int32))).2) ?_
    refine XS.aloadN X1.here hx rfl (hb hby d6_7) rfl rfl ?_
    refine XS.iconst X1.here hx rfl (hb hby d6_8) ?_
    refine st2 _ ?_
    refine XS.aloadN X2.here hx rfl (hb hby d6_12) rfl rfl ?_
    refine st3.trans ?_
    refine XS.iconst X3.here hx rfl (hb hby d6_16) ?_
    refine XS.isub X3.here hx rfl (hb hby d6_17) rfl ?_
    show Steps p.tables e below (T3.setTop (mkF m 18 #[.val (.ref x), .unset] [(.int ((5 : Int32) - (1 : Int32))), (.int r2)])) _
    rw [show ((5 : Int32) - (1 : Int32)) = (4 : Int32) from by decide]
    refine XS.icmpNo X3.here hx rfl (hb hby d6_18) rfl (teq (hr2.mpr hs)).2 ?_
    refine XS.iconst X3.here hx rfl (hb hby d6_21) ?_
    refine XS.goto X3.here hx rfl (pc0 := 22) (pc' := 26) rfl (hb hby d6_22) (by decide) (by decide) ?_
    refine XS.istoreN X3.here hx rfl (hb hby d6_26) rfl (l' := #[.val (.ref x), .val (.int (1 : Int32))]) rfl ?_
    refine XS.iloadN X3.here hx rfl (hb hby d6_27) rfl ?_
    refine XS.ifNo X3.here hx rfl (hb hby d6_28) rfl ((if0 _ _).trans (feq (by decide : ¬ ((1 : Int32) = (0 : Int32)))).1) ?_
    refine XS.aloadN X3.here hx rfl (hb hby d6_31) rfl rfl ?_
    refine XS.iconst X3.here hx rfl (hb hby d6_32) ?_
    refine XS.aloadN X3.here hx rfl (hb hby d6_33) rfl rfl ?_
    refine st4.trans ?_
    refine XS.iconst X4.here hx rfl (hb hby d6_37) ?_
    refine XS.isub X4.here hx rfl (hb hby d6_38) rfl ?_
    show Steps p.tables e below (T4.setTop (mkF m 39 #[.val (.ref x), .val (.int (1 : Int32))] [(.int ((5 : Int32) - (1 : Int32))), (.int (1 : Int32)), (.ref x)])) _
    rw [show ((5 : Int32) - (1 : Int32)) = (4 : Int32) from by decide]
    refine st5.trans ?_
    refine XS.goto X5.here hx rfl (pc0 := 42) (pc' := 46) rfl (hb hby d6_42) (by decide) (by decide) ?_
    exact k)
  obtain ⟨fs7, hr7, hrun7, hended7, hW7, hsame7⟩ := X5.leave (v := some (.ref y5)) (fun h => by rw [Bd.returns] at h; cases h)
  refine ⟨_, _, pre6 _ ?_, hrun7, hended7, _, _, rfl, ?_, ⟨_, rfl⟩, hW7, hsame7.mono (by decide) (by decide)⟩
  · show Steps p.tables e below (T5.setTop (mkF m 46 #[.val (.ref x), .val (.int (1 : Int32))] [(.ref y5)])) _
    exact retOut X5 hx (t := (.object "java/lang/String")) Bd.returns rfl (Or.inr (Or.inr (Or.inr (Or.inr ⟨rfl, rfl, rfl⟩)))) (hb hby d6_46) hr7
  · show QspY5 Z x c0 c1 c2 c3 c4 h0 n0 _ T5.heap _
    exact ⟨_, rfl, N5, E5, S5⟩

theorem pd_sp0 : parseMethodDescriptor "(Ljava/lang/String;)Ljava/lang/String;" = some ⟨[(.object "java/lang/String")], some (.object "java/lang/String")⟩ := by decide +kernel

theorem ef_sp0 (m : MethodId) (x0 : Addr)  : entryFrame m #[(.ref x0)] 2 = mkF m 0 #[.val (.ref x0), .unset] [] := by first | (simp [entryFrame, mkF, argsToLocals, Value.category]; done) | rfl
def Qsp0 (Z : State) (x : Addr) (h0 : Heap) (n0 : Nat) (v : Option Value) (h : Heap) (L : List Loc) : Prop := v = some .null ∧ Fr n0 L ∧ h = h0
set_option maxRecDepth 65536 in
set_option maxHeartbeats 40000000 in
theorem rmsp0 (l : Launch) (Z : State) (a0 : Array Value) (hw : ∀ d ∈ tables_1, d.before a0 Z = true) (ws : List Jvm.Cond) (x : Addr) (h0 : Heap) (n0 : Nat) (Z0 : n0 ≤ h0.size) (SX : own_str Z h0 x []) (EN : own_env Z h0) (hpr : own_pr []) :
    MetFree l (⟨"com/example/oxpecker/oxpecker/MessageTemplate", "soleParameter", "(Ljava/lang/String;)Ljava/lang/String;"⟩ : MethodName) (head1 (Jvm.Cond.code (⟨"com/example/oxpecker/oxpecker/MessageTemplate", "soleParameter", "(Ljava/lang/String;)Ljava/lang/String;"⟩ : MethodName) prog_5_method_4_code 2 (some (.object "java/lang/String")) :: ws) ({ frames := 5, cells := 0, slots := 0, locals := 70 } : Room)) (fun a U => a = #[(.ref x)] ∧ Z.Warmed39 U.vm ∧ U.heap = h0) (fun _ _ _ _ _ => True) (fun _ U o U' => ∃ v L, o = .returned v ∧ Qsp0 Z x h0 n0 v U'.heap L ∧ FrameEnd U o U' L ({ frames := 5, cells := 0, slots := 0, locals := 70 } : Room).cells ({ frames := 5, cells := 0, slots := 0, locals := 70 } : Room).slots) := by
  refine MetFree.of_bodySF (plainFor_of_name pn_k1) hisR ?_
  intro p e s m args below meth c s₁ Bd hml0 hP hK
  obtain ⟨rfl, hZ, hh⟩ := hP
  have hx := Bd.exec
  have hby := Bd.bytes
  have hml : c.maxLocals = 2 := hml0
  have hown : s.vm.findClass "com/example/oxpecker/oxpecker/MessageTemplate" = some m.cls := findClass_of_methodNamed Bd.named
  have hnm := (name_of_methodNamed Bd.named Bd.method).1
  have X0 : Stand p l e ({ frames := 5, cells := 0, slots := 0, locals := 70 } : Room) s m #[(.ref x)] below meth c s₁ [] 0 0 := Stand.of_body Bd
  have e0 : s₁.heap = h0 := by rw [← hh, Bd.state]; rfl
  have N0 := Fr.nil n0
  have pre0 : ∀ t, Steps p.tables e below (s₁.setTop (mkF m 0 #[.val (.ref x), .unset] [])) t → Steps p.tables e below (s₁.setTop (entryFrame m #[(.ref x)] 2)) t := fun t k => castTop (ef_sp0 m x) k
  have SX0 := SX
  have EN0 := EN
  obtain ⟨tv, kb, Ex, Vv, Cc, Kk⟩ := SX
  obtain ⟨z, fm, Sz, hz, Sf, hfm⟩ := EN
  have hcd := own_cod hpr
  have hbd := own_up hpr
  have hln : ∀ d ∈ StrChars.Road.wordsLen, d.before a0 Z = true := fun d hd => hw d ((by decide +kernel : ∀ d ∈ StrChars.Road.wordsLen, d ∈ tables_1) d hd)
  have hch : ∀ d ∈ StrChars.Road.wordsChN, d.before a0 Z = true := fun d hd => hw d ((by decide +kernel : ∀ d ∈ StrChars.Road.wordsChN, d ∈ tables_1) d hd)
  have hep : ∀ d ∈ StrChars.Road.wordsEmp, d.before a0 Z = true := fun d hd => hw d ((by decide +kernel : ∀ d ∈ StrChars.Road.wordsEmp, d ∈ tables_1) d hd)
  obtain ⟨cq1, kq1, qa1, qb1, qc1⟩ := isOf hZ e0 Ex
  obtain ⟨_, _, ⟨T1, L1, k1, n1⟩, -, X1, ⟨Lc1, hQ1, l1, y1, z1⟩, st1⟩ := X0.virtualBack hx (y := (⟨"java/lang/String", "isEmpty", "()Z"⟩ : MethodName)) (z := (⟨"java/lang/String", "isEmpty", "()Z"⟩ : MethodName)) hown (mvT hZ (wd34 hw)) (mvT hZ (wd35 hw)) (notFace_of_selects (args := #[]) (mvT hZ (wd37 hw))) (mvT hZ (wd37 hw)) (mvT hZ (wd36 hw)) (by decide) (StrChars.Road.empW (W := 0) hZ hep (kI := 4) (wd9 hw) Ex Vv Cc Kk hcd hbd (Nat.le_of_ble_eq_true rfl) (by decide) (by decide)) qa1 qc1 (g := (mkF m 1 #[.val (.ref x), .unset] [(.ref x)])) rfl (by rw [hml]; rfl) (Steps.refl _) (argsL := []) (rest := []) (lenOf pd_emp rfl) rfl (by show 2 * 0 + _ ≤ _; exact Nat.le_of_eq rfl) (hb hby d6_1) (fun _ _ => ⟨rfl, e0, (by decide : 0 + 0 ≤ _), (by decide : 0 + 0 ≤ _)⟩)
  dsimp only [Pt.U, Pt.locs, Pt.cells, Pt.slots] at X1 l1 y1 z1 st1 hQ1
  subst l1 y1 z1
  obtain ⟨rfl, rfl, q1⟩ := hQ1
  have N1 := Fr.app N0 (Fr.nil n0)
  have pre2 : ∀ t, Steps p.tables e below (T1.setTop (mkF m 46 #[.val (.ref x), .val (.int (0 : Int32))] [.null])) t → Steps p.tables e below (s₁.setTop (entryFrame m #[(.ref x)] 2)) t := fun t k => pre0 t (by
    show Steps p.tables e below (s₁.setTop (mkF m 0 #[.val (.ref x), .unset] [])) _
    refine XS.aloadN X0.here hx rfl (hb hby d6_0) rfl rfl ?_
    refine st1.trans ?_
    refine XS.ifYes X1.here hx rfl (pc0 := 4) (pc' := 25) rfl (hb hby d6_4) rfl ((if0 _ _).trans (feq (by decide : ¬ ((1 : Int32) = (0 : Int32)))).2) (by decide) (by decide) ?_
    refine XS.iconst X1.here hx rfl (hb hby d6_25) ?_
    refine XS.istoreN X1.here hx rfl (hb hby d6_26) rfl (l' := #[.val (.ref x), .val (.int (0 : Int32))]) rfl ?_
    refine XS.iloadN X1.here hx rfl (hb hby d6_27) rfl ?_
    refine XS.ifYes X1.here hx rfl (pc0 := 28) (pc' := 45) rfl (hb hby d6_28) rfl ((if0 _ _).trans (teq (by decide : (0 : Int32) = (0 : Int32))).1) (by decide) (by decide) ?_
    refine XS.aconstNull X1.here hx rfl (hb hby d6_45) ?_
    exact k)
  obtain ⟨fs3, hr3, hrun3, hended3, hW3, hsame3⟩ := X1.leave (v := some .null) (fun h => by rw [Bd.returns] at h; cases h)
  refine ⟨_, _, pre2 _ ?_, hrun3, hended3, _, _, rfl, ?_, ⟨_, rfl⟩, hW3, hsame3.mono (by decide) (by decide)⟩
  · show Steps p.tables e below (T1.setTop (mkF m 46 #[.val (.ref x), .val (.int (0 : Int32))] [.null])) _
    exact retOut X1 hx (t := (.object "java/lang/String")) Bd.returns rfl (Or.inr (Or.inr (Or.inr (Or.inr ⟨rfl, rfl, rfl⟩)))) (hb hby d6_46) hr3
  · show Qsp0 Z x h0 n0 _ T1.heap _
    rw [q1]
    exact ⟨rfl, N1, rfl⟩

theorem pd_mk1 : parseMethodDescriptor "(ICCCCC)Ljava/lang/String;" = some ⟨[.int, .char, .char, .char, .char, .char], some (.object "java/lang/String")⟩ := by decide +kernel

theorem ef_mk1 (m : MethodId) (x0 : Int32) (x1 : Int32) (x2 : Int32) (x3 : Int32) (x4 : Int32) (x5 : Int32)  : entryFrame m #[(.int x0), (.int x1), (.int x2), (.int x3), (.int x4), (.int x5)] 6 = mkF m 0 #[.val (.int x0), .val (.int x1), .val (.int x2), .val (.int x3), .val (.int x4), .val (.int x5)] [] := by first | (simp [entryFrame, mkF, argsToLocals, Value.category]; done) | rfl
def Qmk1 (Z : State) (p0 d1 d2 d3 d4 d5 : Int32) (h0 : Heap) (n0 : Nat) (v : Option Value) (h : Heap) (L : List Loc) : Prop := ∃ y, v = some (.ref y) ∧ Fr n0 L ∧ Ext h0 h ∧ own_str Z h y [d1]
set_option maxRecDepth 65536 in
set_option maxHeartbeats 40000000 in
theorem rmmk1 (l : Launch) (Z : State) (a0 : Array Value) (hw : ∀ d ∈ tables_1, d.before a0 Z = true) (ws : List Jvm.Cond) (p0 d1 d2 d3 d4 d5 : Int32) (h0 : Heap) (n0 : Nat) (Z0 : n0 ≤ h0.size) (EN : own_env Z h0) (hn : p0 = (1 : Int32)) (hd1 : ¬ d1 < 0 ∧ ¬ (255 : Int32) < d1) :
    MetFree l (⟨"com/example/oxpecker/oxpecker/MessageTemplateSoleParameterPinLaw", "make", "(ICCCCC)Ljava/lang/String;"⟩ : MethodName) (head1 (Jvm.Cond.code (⟨"com/example/oxpecker/oxpecker/MessageTemplateSoleParameterPinLaw", "make", "(ICCCCC)Ljava/lang/String;"⟩ : MethodName) method_4_code 6 (some (.object "java/lang/String")) :: ws) ({ frames := 4, cells := 3, slots := 14, locals := 66 } : Room)) (fun a U => a = #[(.int p0), (.int d1), (.int d2), (.int d3), (.int d4), (.int d5)] ∧ Z.Warmed39 U.vm ∧ U.heap = h0) (fun _ _ _ _ _ => True) (fun _ U o U' => ∃ v L, o = .returned v ∧ Qmk1 Z p0 d1 d2 d3 d4 d5 h0 n0 v U'.heap L ∧ FrameEnd U o U' L ({ frames := 4, cells := 3, slots := 14, locals := 66 } : Room).cells ({ frames := 4, cells := 3, slots := 14, locals := 66 } : Room).slots) := by
  refine MetFree.of_bodySF (plainFor_of_name pn_k0) hisR ?_
  intro p e s m args below meth c s₁ Bd hml0 hP hK
  obtain ⟨rfl, hZ, hh⟩ := hP
  have hx := Bd.exec
  have hby := Bd.bytes
  have hml : c.maxLocals = 6 := hml0
  have hown : s.vm.findClass "com/example/oxpecker/oxpecker/MessageTemplateSoleParameterPinLaw" = some m.cls := findClass_of_methodNamed Bd.named
  have hnm := (name_of_methodNamed Bd.named Bd.method).1
  have X0 : Stand p l e ({ frames := 4, cells := 3, slots := 14, locals := 66 } : Room) s m #[(.int p0), (.int d1), (.int d2), (.int d3), (.int d4), (.int d5)] below meth c s₁ [] 0 0 := Stand.of_body Bd
  have e0 : s₁.heap = h0 := by rw [← hh, Bd.state]; rfl
  have N0 := Fr.nil n0
  have pre0 : ∀ t, Steps p.tables e below (s₁.setTop (mkF m 0 #[.val (.int p0), .val (.int d1), .val (.int d2), .val (.int d3), .val (.int d4), .val (.int d5)] [])) t → Steps p.tables e below (s₁.setTop (entryFrame m #[(.int p0), (.int d1), (.int d2), (.int d3), (.int d4), (.int d5)] 6)) t := fun t k => castTop (ef_mk1 m p0 d1 d2 d3 d4 d5) k
  have hws : ∀ d ∈ StrChars.Road.words, d.before a0 Z = true := fun d hd => hw d ((by decide +kernel : ∀ d ∈ StrChars.Road.words, d ∈ tables_1) d hd)
  obtain ⟨T1, h1, X1, e1, E1, A1, D1, -, st1⟩ := newO X0 hx hZ hown (wd8 hw) (wd9 hw) (wd10 hw) e0 (g := (mkF m 20 #[.val (.int p0), .val (.int d1), .val (.int d2), .val (.int d3), .val (.int d4), .val (.int d5)] [])) rfl (hb hby d2_20) (by decide) (by decide)
  obtain ⟨b1, gb1⟩ : ∃ z, z = h0.size := ⟨_, rfl⟩
  rw [← gb1] at A1 D1 st1
  have gn1 : n0 ≤ b1 := Nat.le_trans Z0 (Nat.le_of_eq gb1.symm)
  have sz1_b : h0.size ≤ b1 := Nat.le_trans (Keep.refl h0 []).1 (Nat.le_of_eq gb1.symm)
  have EN_1 := EN.ext E1
  have K1 := (Keep.refl h0 []).ext E1
  have F_value_b1 : Fld Z h1 b1 "java/lang/String" "value" "[B" .null := D1 (Or.inr (wd24 hw)) (ty := (.array .byte)) (by decide)
  have F_coder_b1 : Fld Z h1 b1 "java/lang/String" "coder" "B" (.int (0 : Int32)) := D1 (Or.inr (wd25 hw)) (ty := .byte) (by decide)
  obtain ⟨T2, h2, k2, X2, e2, E2, A2, st2⟩ := newP (aty := .char) X1 hx hZ (wd11 hw) e1 (g := (mkF m 25 #[.val (.int p0), .val (.int d1), .val (.int d2), .val (.int d3), .val (.int d4), .val (.int d5)] [(.int (1 : Int32)), (.ref b1), (.ref b1)])) rfl (hb hby d2_25) rfl (by decide) (cap := 1) (by decide) (by decide) (by decide) (by decide)
  obtain ⟨b2, gb2⟩ : ∃ z, z = h1.size := ⟨_, rfl⟩
  rw [← gb2] at A2 st2
  have gn2 : n0 ≤ b2 := Nat.le_trans (Nat.le_trans Z0 E1.1) (Nat.le_of_eq gb2.symm)
  have sz2_b : h0.size ≤ b2 := Nat.le_trans K1.1 (Nat.le_of_eq gb2.symm)
  have ne_b1_b2 : b1 ≠ b2 := Nat.ne_of_lt (Nat.lt_of_lt_of_le A1.lt (Nat.le_of_eq gb2.symm))
  have EN_2 := EN_1.ext E2
  have A1_2 := A1.ext E2
  have F_value_b1_2 := F_value_b1.ext E2
  have F_coder_b1_2 := F_coder_b1.ext E2
  have K2 := K1.ext E2
  have V2 : Arv Z h2 b2 k2 .char (1 : Int32) [(.int (0 : Int32))] (.int (0 : Int32)) := (Arv.new A2 (by decide)).pad (pad_rep [] (.int (0 : Int32)) 1)
  have Vc3 := V2
  obtain ⟨cl3, Ar3, qq3, sz3, nn3, Ha3, Gf3⟩ := Vc3
  have hin3 : ¬ ((0 : Int32) < 0 ∨ cl3.slots.size ≤ ((0 : Int32)).toNatClampNeg) := inb_of sz3 ⟨by decide, by decide⟩
  obtain ⟨T4, h4, X4, e4, W4, st4⟩ := stC X2 hx hZ e2 Ar3 (j := (0 : Int32)) hin3 (g := (mkF m 30 #[.val (.int p0), .val (.int d1), .val (.int d2), .val (.int d3), .val (.int d4), .val (.int d5)] [(.int d1), (.int (0 : Int32)), (.ref b2), (.ref b2), (.ref b1), (.ref b1)])) rfl rfl (hb hby d2_30)
  have N4 := Fr.snoc X4 N0 gn2
  have EN_4 := EN_2.wr W4 trivial
  have A1_4 := A1_2.wr W4
  have F_value_b1_4 := F_value_b1_2.other W4 (Or.inl ne_b1_b2)
  have F_coder_b1_4 := F_coder_b1_2.other W4 (Or.inl ne_b1_b2)
  have V2_4 := Arv.set Ar3 qq3 sz3 nn3 Ha3 Gf3 (fits_nar_char _) W4 0 rfl (Nat.le_of_ble_eq_true rfl)
  have K4 := K2.wr W4 (Or.inr sz2_b)
  have Kc : Arv Z h4 b2 k2 .char (1 : Int32) ([nar .char d1].map Value.int) (.int 0) := V2_4
  rw [own_nar hd1] at Kc
  have EN9 := EN_4
  obtain ⟨z, fm, Sz, hz, Sf, hfm⟩ := EN9
  have hpr : own_pr [d1] := own_p1 hd1 (own_p0)
  obtain ⟨_, _, ⟨T5, L5, k5, n5⟩, -, X5, ⟨Lc5, hQ5, l5, y5, z5⟩, st5⟩ := X4.specialBack hx (y := (⟨"java/lang/String", "<init>", "([C)V"⟩ : MethodName)) rfl hown (mvT hZ (wd12 hw)) (mvT hZ (wd13 hw)) (mvT hZ (wd14 hw)) (by decide) (StrChars.Road.backV (W := 1) hZ hws (kI := 4) (wd9 hw) (cs := [d1]) (bs := [d1].map (fun c => c.toInt8.toInt32)) (n := 1) gn1 (Nat.le_trans (Nat.le_trans (Nat.le_trans Z0 E1.1) E2.1) (Nat.le_of_eq W4.size.symm)) A1_4 F_value_b1_4 F_coder_b1_4 Kc Sz hz rfl rfl (by decide) (by decide) hpr rfl (by decide) (by decide)) (g := (mkF m 31 #[.val (.int p0), .val (.int d1), .val (.int d2), .val (.int d3), .val (.int d4), .val (.int d5)] [(.ref b2), (.ref b1), (.ref b1)])) rfl (by rw [hml]; rfl) (Steps.refl _) (a := b1) (argsL := [(.ref b2)]) (rest := [(.ref b1)]) (lenOf pd_bv rfl) rfl (by show 2 * 0 + _ ≤ _; exact Nat.le_of_eq rfl) (hb hby d2_31) (fun _ _ => ⟨rfl, e4, (by decide : 2 + 1 ≤ _), (by decide : 5 + 1 ≤ _)⟩)
  dsimp only [Pt.U, Pt.locs, Pt.cells, Pt.slots] at X5 l5 y5 z5 st5 hQ5
  subst l5 y5 z5
  obtain ⟨rfl, N5q, Kp5, Ex5, Fc5, t5, kb5, g15, g25, g35, Fv5, Va5⟩ := hQ5
  have N5 := Fr.app N4 N5q
  have Kz := K4.trans Kp5 (fun x hx => by cases List.mem_singleton.mp hx; exact Or.inr sz1_b)
  have pre6 : ∀ t, Steps p.tables e below (T5.setTop (mkF m 34 #[.val (.int p0), .val (.int d1), .val (.int d2), .val (.int d3), .val (.int d4), .val (.int d5)] [(.ref b1)])) t → Steps p.tables e below (s₁.setTop (entryFrame m #[(.int p0), (.int d1), (.int d2), (.int d3), (.int d4), (.int d5)] 6)) t := fun t k => pre0 t (by
    show Steps p.tables e below (s₁.setTop (mkF m 0 #[.val (.int p0), .val (.int d1), .val (.int d2), .val (.int d3), .val (.int d4), .val (.int d5)] [])) _
    refine XS.iloadN X0.here hx rfl (hb hby d2_0) rfl ?_
    refine XS.ifYes X0.here hx rfl (pc0 := 1) (pc' := 15) rfl (hb hby d2_1) rfl ((if0 _ _).trans (feq (by rw [hn]; decide)).2) (by decide) (by decide) ?_
    refine XS.iloadN X0.here hx rfl (hb hby d2_15) rfl ?_
    refine XS.iconst X0.here hx rfl (hb hby d2_16) ?_
    refine XS.icmpNo X0.here hx rfl (hb hby d2_17) rfl (teq hn).2 ?_
    refine st1 _ ?_
    refine XS.dup X1.here hx rfl (hb hby d2_23) rfl rfl ?_
    refine XS.iconst X1.here hx rfl (hb hby d2_24) ?_
    refine st2 _ ?_
    refine XS.dup X2.here hx rfl (hb hby d2_27) rfl rfl ?_
    refine XS.iconst X2.here hx rfl (hb hby d2_28) ?_
    refine XS.iloadN X2.here hx rfl (hb hby d2_29) rfl ?_
    refine st4 _ ?_
    refine st5.trans ?_
    exact k)
  obtain ⟨fs7, hr7, hrun7, hended7, hW7, hsame7⟩ := X5.leave (v := some (.ref b1)) (fun h => by rw [Bd.returns] at h; cases h)
  refine ⟨_, _, pre6 _ ?_, hrun7, hended7, _, _, rfl, ?_, ⟨_, rfl⟩, hW7, hsame7.mono (by decide) (by decide)⟩
  · show Steps p.tables e below (T5.setTop (mkF m 34 #[.val (.int p0), .val (.int d1), .val (.int d2), .val (.int d3), .val (.int d4), .val (.int d5)] [(.ref b1)])) _
    exact retOut X5 hx (t := (.object "java/lang/String")) Bd.returns rfl (Or.inr (Or.inr (Or.inr (Or.inr ⟨rfl, rfl, rfl⟩)))) (hb hby d2_34) hr7
  · show Qmk1 Z p0 d1 d2 d3 d4 d5 h0 n0 _ T5.heap _
    exact ⟨_, rfl, N5, own_ext Kz, t5, kb5, Ex5, Fv5, Fc5, Va5⟩

theorem pd_mk2 : parseMethodDescriptor "(ICCCCC)Ljava/lang/String;" = some ⟨[.int, .char, .char, .char, .char, .char], some (.object "java/lang/String")⟩ := by decide +kernel

theorem ef_mk2 (m : MethodId) (x0 : Int32) (x1 : Int32) (x2 : Int32) (x3 : Int32) (x4 : Int32) (x5 : Int32)  : entryFrame m #[(.int x0), (.int x1), (.int x2), (.int x3), (.int x4), (.int x5)] 6 = mkF m 0 #[.val (.int x0), .val (.int x1), .val (.int x2), .val (.int x3), .val (.int x4), .val (.int x5)] [] := by first | (simp [entryFrame, mkF, argsToLocals, Value.category]; done) | rfl
def Qmk2 (Z : State) (p0 d1 d2 d3 d4 d5 : Int32) (h0 : Heap) (n0 : Nat) (v : Option Value) (h : Heap) (L : List Loc) : Prop := ∃ y, v = some (.ref y) ∧ Fr n0 L ∧ Ext h0 h ∧ own_str Z h y [d1, d2]
set_option maxRecDepth 65536 in
set_option maxHeartbeats 40000000 in
theorem rmmk2 (l : Launch) (Z : State) (a0 : Array Value) (hw : ∀ d ∈ tables_1, d.before a0 Z = true) (ws : List Jvm.Cond) (p0 d1 d2 d3 d4 d5 : Int32) (h0 : Heap) (n0 : Nat) (Z0 : n0 ≤ h0.size) (EN : own_env Z h0) (hn : p0 = (2 : Int32)) (hd1 : ¬ d1 < 0 ∧ ¬ (255 : Int32) < d1) (hd2 : ¬ d2 < 0 ∧ ¬ (255 : Int32) < d2) :
    MetFree l (⟨"com/example/oxpecker/oxpecker/MessageTemplateSoleParameterPinLaw", "make", "(ICCCCC)Ljava/lang/String;"⟩ : MethodName) (head1 (Jvm.Cond.code (⟨"com/example/oxpecker/oxpecker/MessageTemplateSoleParameterPinLaw", "make", "(ICCCCC)Ljava/lang/String;"⟩ : MethodName) method_4_code 6 (some (.object "java/lang/String")) :: ws) ({ frames := 4, cells := 3, slots := 14, locals := 66 } : Room)) (fun a U => a = #[(.int p0), (.int d1), (.int d2), (.int d3), (.int d4), (.int d5)] ∧ Z.Warmed39 U.vm ∧ U.heap = h0) (fun _ _ _ _ _ => True) (fun _ U o U' => ∃ v L, o = .returned v ∧ Qmk2 Z p0 d1 d2 d3 d4 d5 h0 n0 v U'.heap L ∧ FrameEnd U o U' L ({ frames := 4, cells := 3, slots := 14, locals := 66 } : Room).cells ({ frames := 4, cells := 3, slots := 14, locals := 66 } : Room).slots) := by
  refine MetFree.of_bodySF (plainFor_of_name pn_k0) hisR ?_
  intro p e s m args below meth c s₁ Bd hml0 hP hK
  obtain ⟨rfl, hZ, hh⟩ := hP
  have hx := Bd.exec
  have hby := Bd.bytes
  have hml : c.maxLocals = 6 := hml0
  have hown : s.vm.findClass "com/example/oxpecker/oxpecker/MessageTemplateSoleParameterPinLaw" = some m.cls := findClass_of_methodNamed Bd.named
  have hnm := (name_of_methodNamed Bd.named Bd.method).1
  have X0 : Stand p l e ({ frames := 4, cells := 3, slots := 14, locals := 66 } : Room) s m #[(.int p0), (.int d1), (.int d2), (.int d3), (.int d4), (.int d5)] below meth c s₁ [] 0 0 := Stand.of_body Bd
  have e0 : s₁.heap = h0 := by rw [← hh, Bd.state]; rfl
  have N0 := Fr.nil n0
  have pre0 : ∀ t, Steps p.tables e below (s₁.setTop (mkF m 0 #[.val (.int p0), .val (.int d1), .val (.int d2), .val (.int d3), .val (.int d4), .val (.int d5)] [])) t → Steps p.tables e below (s₁.setTop (entryFrame m #[(.int p0), (.int d1), (.int d2), (.int d3), (.int d4), (.int d5)] 6)) t := fun t k => castTop (ef_mk2 m p0 d1 d2 d3 d4 d5) k
  have hws : ∀ d ∈ StrChars.Road.words, d.before a0 Z = true := fun d hd => hw d ((by decide +kernel : ∀ d ∈ StrChars.Road.words, d ∈ tables_1) d hd)
  obtain ⟨T1, h1, X1, e1, E1, A1, D1, -, st1⟩ := newO X0 hx hZ hown (wd8 hw) (wd9 hw) (wd10 hw) e0 (g := (mkF m 40 #[.val (.int p0), .val (.int d1), .val (.int d2), .val (.int d3), .val (.int d4), .val (.int d5)] [])) rfl (hb hby d2_40) (by decide) (by decide)
  obtain ⟨b1, gb1⟩ : ∃ z, z = h0.size := ⟨_, rfl⟩
  rw [← gb1] at A1 D1 st1
  have gn1 : n0 ≤ b1 := Nat.le_trans Z0 (Nat.le_of_eq gb1.symm)
  have sz1_b : h0.size ≤ b1 := Nat.le_trans (Keep.refl h0 []).1 (Nat.le_of_eq gb1.symm)
  have EN_1 := EN.ext E1
  have K1 := (Keep.refl h0 []).ext E1
  have F_value_b1 : Fld Z h1 b1 "java/lang/String" "value" "[B" .null := D1 (Or.inr (wd24 hw)) (ty := (.array .byte)) (by decide)
  have F_coder_b1 : Fld Z h1 b1 "java/lang/String" "coder" "B" (.int (0 : Int32)) := D1 (Or.inr (wd25 hw)) (ty := .byte) (by decide)
  obtain ⟨T2, h2, k2, X2, e2, E2, A2, st2⟩ := newP (aty := .char) X1 hx hZ (wd11 hw) e1 (g := (mkF m 45 #[.val (.int p0), .val (.int d1), .val (.int d2), .val (.int d3), .val (.int d4), .val (.int d5)] [(.int (2 : Int32)), (.ref b1), (.ref b1)])) rfl (hb hby d2_45) rfl (by decide) (cap := 2) (by decide) (by decide) (by decide) (by decide)
  obtain ⟨b2, gb2⟩ : ∃ z, z = h1.size := ⟨_, rfl⟩
  rw [← gb2] at A2 st2
  have gn2 : n0 ≤ b2 := Nat.le_trans (Nat.le_trans Z0 E1.1) (Nat.le_of_eq gb2.symm)
  have sz2_b : h0.size ≤ b2 := Nat.le_trans K1.1 (Nat.le_of_eq gb2.symm)
  have ne_b1_b2 : b1 ≠ b2 := Nat.ne_of_lt (Nat.lt_of_lt_of_le A1.lt (Nat.le_of_eq gb2.symm))
  have EN_2 := EN_1.ext E2
  have A1_2 := A1.ext E2
  have F_value_b1_2 := F_value_b1.ext E2
  have F_coder_b1_2 := F_coder_b1.ext E2
  have K2 := K1.ext E2
  have V2 : Arv Z h2 b2 k2 .char (2 : Int32) [(.int (0 : Int32)), (.int (0 : Int32))] (.int (0 : Int32)) := (Arv.new A2 (by decide)).pad (pad_rep [] (.int (0 : Int32)) 2)
  have Vc3 := V2
  obtain ⟨cl3, Ar3, qq3, sz3, nn3, Ha3, Gf3⟩ := Vc3
  have hin3 : ¬ ((0 : Int32) < 0 ∨ cl3.slots.size ≤ ((0 : Int32)).toNatClampNeg) := inb_of sz3 ⟨by decide, by decide⟩
  obtain ⟨T4, h4, X4, e4, W4, st4⟩ := stC X2 hx hZ e2 Ar3 (j := (0 : Int32)) hin3 (g := (mkF m 50 #[.val (.int p0), .val (.int d1), .val (.int d2), .val (.int d3), .val (.int d4), .val (.int d5)] [(.int d1), (.int (0 : Int32)), (.ref b2), (.ref b2), (.ref b1), (.ref b1)])) rfl rfl (hb hby d2_50)
  have N4 := Fr.snoc X4 N0 gn2
  have EN_4 := EN_2.wr W4 trivial
  have A1_4 := A1_2.wr W4
  have F_value_b1_4 := F_value_b1_2.other W4 (Or.inl ne_b1_b2)
  have F_coder_b1_4 := F_coder_b1_2.other W4 (Or.inl ne_b1_b2)
  have V2_4 := Arv.set Ar3 qq3 sz3 nn3 Ha3 Gf3 (fits_nar_char _) W4 0 rfl (Nat.le_of_ble_eq_true rfl)
  have K4 := K2.wr W4 (Or.inr sz2_b)
  have Vc5 := V2_4
  obtain ⟨cl5, Ar5, qq5, sz5, nn5, Ha5, Gf5⟩ := Vc5
  have hin5 : ¬ ((1 : Int32) < 0 ∨ cl5.slots.size ≤ ((1 : Int32)).toNatClampNeg) := inb_of sz5 ⟨by decide, by decide⟩
  obtain ⟨T6, h6, X6, e6, W6, st6⟩ := stC X4 hx hZ e4 Ar5 (j := (1 : Int32)) hin5 (g := (mkF m 54 #[.val (.int p0), .val (.int d1), .val (.int d2), .val (.int d3), .val (.int d4), .val (.int d5)] [(.int d2), (.int (1 : Int32)), (.ref b2), (.ref b2), (.ref b1), (.ref b1)])) rfl rfl (hb hby d2_54)
  have N6 := Fr.snoc X6 N4 gn2
  have EN_6 := EN_4.wr W6 trivial
  have A1_6 := A1_4.wr W6
  have F_value_b1_6 := F_value_b1_4.other W6 (Or.inl ne_b1_b2)
  have F_coder_b1_6 := F_coder_b1_4.other W6 (Or.inl ne_b1_b2)
  have V2_6 := Arv.set Ar5 qq5 sz5 nn5 Ha5 Gf5 (fits_nar_char _) W6 1 rfl (Nat.le_of_ble_eq_true rfl)
  have K6 := K4.wr W6 (Or.inr sz2_b)
  have Kc : Arv Z h6 b2 k2 .char (2 : Int32) ([nar .char d1, nar .char d2].map Value.int) (.int 0) := V2_6
  rw [own_nar hd1, own_nar hd2] at Kc
  have EN9 := EN_6
  obtain ⟨z, fm, Sz, hz, Sf, hfm⟩ := EN9
  have hpr : own_pr [d1, d2] := own_p1 hd1 (own_p1 hd2 (own_p0))
  obtain ⟨_, _, ⟨T7, L7, k7, n7⟩, -, X7, ⟨Lc7, hQ7, l7, y7, z7⟩, st7⟩ := X6.specialBack hx (y := (⟨"java/lang/String", "<init>", "([C)V"⟩ : MethodName)) rfl hown (mvT hZ (wd12 hw)) (mvT hZ (wd13 hw)) (mvT hZ (wd14 hw)) (by decide) (StrChars.Road.backV (W := 1) hZ hws (kI := 4) (wd9 hw) (cs := [d1, d2]) (bs := [d1, d2].map (fun c => c.toInt8.toInt32)) (n := 2) gn1 (Nat.le_trans (Nat.le_trans (Nat.le_trans (Nat.le_trans Z0 E1.1) E2.1) (Nat.le_of_eq W4.size.symm)) (Nat.le_of_eq W6.size.symm)) A1_6 F_value_b1_6 F_coder_b1_6 Kc Sz hz rfl rfl (by decide) (by decide) hpr rfl (by decide) (by decide)) (g := (mkF m 55 #[.val (.int p0), .val (.int d1), .val (.int d2), .val (.int d3), .val (.int d4), .val (.int d5)] [(.ref b2), (.ref b1), (.ref b1)])) rfl (by rw [hml]; rfl) (Steps.refl _) (a := b1) (argsL := [(.ref b2)]) (rest := [(.ref b1)]) (lenOf pd_bv rfl) rfl (by show 2 * 0 + _ ≤ _; exact Nat.le_of_eq rfl) (hb hby d2_55) (fun _ _ => ⟨rfl, e6, (by decide : 2 + 1 ≤ _), (by decide : 6 + 2 ≤ _)⟩)
  dsimp only [Pt.U, Pt.locs, Pt.cells, Pt.slots] at X7 l7 y7 z7 st7 hQ7
  subst l7 y7 z7
  obtain ⟨rfl, N7q, Kp7, Ex7, Fc7, t7, kb7, g17, g27, g37, Fv7, Va7⟩ := hQ7
  have N7 := Fr.app N6 N7q
  have Kz := K6.trans Kp7 (fun x hx => by cases List.mem_singleton.mp hx; exact Or.inr sz1_b)
  have pre8 : ∀ t, Steps p.tables e below (T7.setTop (mkF m 58 #[.val (.int p0), .val (.int d1), .val (.int d2), .val (.int d3), .val (.int d4), .val (.int d5)] [(.ref b1)])) t → Steps p.tables e below (s₁.setTop (entryFrame m #[(.int p0), (.int d1), (.int d2), (.int d3), (.int d4), (.int d5)] 6)) t := fun t k => pre0 t (by
    show Steps p.tables e below (s₁.setTop (mkF m 0 #[.val (.int p0), .val (.int d1), .val (.int d2), .val (.int d3), .val (.int d4), .val (.int d5)] [])) _
    refine XS.iloadN X0.here hx rfl (hb hby d2_0) rfl ?_
    refine XS.ifYes X0.here hx rfl (pc0 := 1) (pc' := 15) rfl (hb hby d2_1) rfl ((if0 _ _).trans (feq (by rw [hn]; decide)).2) (by decide) (by decide) ?_
    refine XS.iloadN X0.here hx rfl (hb hby d2_15) rfl ?_
    refine XS.iconst X0.here hx rfl (hb hby d2_16) ?_
    refine XS.icmpYes X0.here hx rfl (pc0 := 17) (pc' := 35) rfl (hb hby d2_17) rfl (feq (by rw [hn]; decide)).2 (by decide) (by decide) ?_
    refine XS.iloadN X0.here hx rfl (hb hby d2_35) rfl ?_
    refine XS.iconst X0.here hx rfl (hb hby d2_36) ?_
    refine XS.icmpNo X0.here hx rfl (hb hby d2_37) rfl (teq hn).2 ?_
    refine st1 _ ?_
    refine XS.dup X1.here hx rfl (hb hby d2_43) rfl rfl ?_
    refine XS.iconst X1.here hx rfl (hb hby d2_44) ?_
    refine st2 _ ?_
    refine XS.dup X2.here hx rfl (hb hby d2_47) rfl rfl ?_
    refine XS.iconst X2.here hx rfl (hb hby d2_48) ?_
    refine XS.iloadN X2.here hx rfl (hb hby d2_49) rfl ?_
    refine st4 _ ?_
    refine XS.dup X4.here hx rfl (hb hby d2_51) rfl rfl ?_
    refine XS.iconst X4.here hx rfl (hb hby d2_52) ?_
    refine XS.iloadN X4.here hx rfl (hb hby d2_53) rfl ?_
    refine st6 _ ?_
    refine st7.trans ?_
    exact k)
  obtain ⟨fs9, hr9, hrun9, hended9, hW9, hsame9⟩ := X7.leave (v := some (.ref b1)) (fun h => by rw [Bd.returns] at h; cases h)
  refine ⟨_, _, pre8 _ ?_, hrun9, hended9, _, _, rfl, ?_, ⟨_, rfl⟩, hW9, hsame9.mono (by decide) (by decide)⟩
  · show Steps p.tables e below (T7.setTop (mkF m 58 #[.val (.int p0), .val (.int d1), .val (.int d2), .val (.int d3), .val (.int d4), .val (.int d5)] [(.ref b1)])) _
    exact retOut X7 hx (t := (.object "java/lang/String")) Bd.returns rfl (Or.inr (Or.inr (Or.inr (Or.inr ⟨rfl, rfl, rfl⟩)))) (hb hby d2_58) hr9
  · show Qmk2 Z p0 d1 d2 d3 d4 d5 h0 n0 _ T7.heap _
    exact ⟨_, rfl, N7, own_ext Kz, t7, kb7, Ex7, Fv7, Fc7, Va7⟩

theorem pd_mk3 : parseMethodDescriptor "(ICCCCC)Ljava/lang/String;" = some ⟨[.int, .char, .char, .char, .char, .char], some (.object "java/lang/String")⟩ := by decide +kernel

theorem ef_mk3 (m : MethodId) (x0 : Int32) (x1 : Int32) (x2 : Int32) (x3 : Int32) (x4 : Int32) (x5 : Int32)  : entryFrame m #[(.int x0), (.int x1), (.int x2), (.int x3), (.int x4), (.int x5)] 6 = mkF m 0 #[.val (.int x0), .val (.int x1), .val (.int x2), .val (.int x3), .val (.int x4), .val (.int x5)] [] := by first | (simp [entryFrame, mkF, argsToLocals, Value.category]; done) | rfl
def Qmk3 (Z : State) (p0 d1 d2 d3 d4 d5 : Int32) (h0 : Heap) (n0 : Nat) (v : Option Value) (h : Heap) (L : List Loc) : Prop := ∃ y, v = some (.ref y) ∧ Fr n0 L ∧ Ext h0 h ∧ own_str Z h y [d1, d2, d3]
set_option maxRecDepth 65536 in
set_option maxHeartbeats 40000000 in
theorem rmmk3 (l : Launch) (Z : State) (a0 : Array Value) (hw : ∀ d ∈ tables_1, d.before a0 Z = true) (ws : List Jvm.Cond) (p0 d1 d2 d3 d4 d5 : Int32) (h0 : Heap) (n0 : Nat) (Z0 : n0 ≤ h0.size) (EN : own_env Z h0) (hn : p0 = (3 : Int32)) (hd1 : ¬ d1 < 0 ∧ ¬ (255 : Int32) < d1) (hd2 : ¬ d2 < 0 ∧ ¬ (255 : Int32) < d2) (hd3 : ¬ d3 < 0 ∧ ¬ (255 : Int32) < d3) :
    MetFree l (⟨"com/example/oxpecker/oxpecker/MessageTemplateSoleParameterPinLaw", "make", "(ICCCCC)Ljava/lang/String;"⟩ : MethodName) (head1 (Jvm.Cond.code (⟨"com/example/oxpecker/oxpecker/MessageTemplateSoleParameterPinLaw", "make", "(ICCCCC)Ljava/lang/String;"⟩ : MethodName) method_4_code 6 (some (.object "java/lang/String")) :: ws) ({ frames := 4, cells := 3, slots := 14, locals := 66 } : Room)) (fun a U => a = #[(.int p0), (.int d1), (.int d2), (.int d3), (.int d4), (.int d5)] ∧ Z.Warmed39 U.vm ∧ U.heap = h0) (fun _ _ _ _ _ => True) (fun _ U o U' => ∃ v L, o = .returned v ∧ Qmk3 Z p0 d1 d2 d3 d4 d5 h0 n0 v U'.heap L ∧ FrameEnd U o U' L ({ frames := 4, cells := 3, slots := 14, locals := 66 } : Room).cells ({ frames := 4, cells := 3, slots := 14, locals := 66 } : Room).slots) := by
  refine MetFree.of_bodySF (plainFor_of_name pn_k0) hisR ?_
  intro p e s m args below meth c s₁ Bd hml0 hP hK
  obtain ⟨rfl, hZ, hh⟩ := hP
  have hx := Bd.exec
  have hby := Bd.bytes
  have hml : c.maxLocals = 6 := hml0
  have hown : s.vm.findClass "com/example/oxpecker/oxpecker/MessageTemplateSoleParameterPinLaw" = some m.cls := findClass_of_methodNamed Bd.named
  have hnm := (name_of_methodNamed Bd.named Bd.method).1
  have X0 : Stand p l e ({ frames := 4, cells := 3, slots := 14, locals := 66 } : Room) s m #[(.int p0), (.int d1), (.int d2), (.int d3), (.int d4), (.int d5)] below meth c s₁ [] 0 0 := Stand.of_body Bd
  have e0 : s₁.heap = h0 := by rw [← hh, Bd.state]; rfl
  have N0 := Fr.nil n0
  have pre0 : ∀ t, Steps p.tables e below (s₁.setTop (mkF m 0 #[.val (.int p0), .val (.int d1), .val (.int d2), .val (.int d3), .val (.int d4), .val (.int d5)] [])) t → Steps p.tables e below (s₁.setTop (entryFrame m #[(.int p0), (.int d1), (.int d2), (.int d3), (.int d4), (.int d5)] 6)) t := fun t k => castTop (ef_mk3 m p0 d1 d2 d3 d4 d5) k
  have hws : ∀ d ∈ StrChars.Road.words, d.before a0 Z = true := fun d hd => hw d ((by decide +kernel : ∀ d ∈ StrChars.Road.words, d ∈ tables_1) d hd)
  obtain ⟨T1, h1, X1, e1, E1, A1, D1, -, st1⟩ := newO X0 hx hZ hown (wd8 hw) (wd9 hw) (wd10 hw) e0 (g := (mkF m 64 #[.val (.int p0), .val (.int d1), .val (.int d2), .val (.int d3), .val (.int d4), .val (.int d5)] [])) rfl (hb hby d2_64) (by decide) (by decide)
  obtain ⟨b1, gb1⟩ : ∃ z, z = h0.size := ⟨_, rfl⟩
  rw [← gb1] at A1 D1 st1
  have gn1 : n0 ≤ b1 := Nat.le_trans Z0 (Nat.le_of_eq gb1.symm)
  have sz1_b : h0.size ≤ b1 := Nat.le_trans (Keep.refl h0 []).1 (Nat.le_of_eq gb1.symm)
  have EN_1 := EN.ext E1
  have K1 := (Keep.refl h0 []).ext E1
  have F_value_b1 : Fld Z h1 b1 "java/lang/String" "value" "[B" .null := D1 (Or.inr (wd24 hw)) (ty := (.array .byte)) (by decide)
  have F_coder_b1 : Fld Z h1 b1 "java/lang/String" "coder" "B" (.int (0 : Int32)) := D1 (Or.inr (wd25 hw)) (ty := .byte) (by decide)
  obtain ⟨T2, h2, k2, X2, e2, E2, A2, st2⟩ := newP (aty := .char) X1 hx hZ (wd11 hw) e1 (g := (mkF m 69 #[.val (.int p0), .val (.int d1), .val (.int d2), .val (.int d3), .val (.int d4), .val (.int d5)] [(.int (3 : Int32)), (.ref b1), (.ref b1)])) rfl (hb hby d2_69) rfl (by decide) (cap := 3) (by decide) (by decide) (by decide) (by decide)
  obtain ⟨b2, gb2⟩ : ∃ z, z = h1.size := ⟨_, rfl⟩
  rw [← gb2] at A2 st2
  have gn2 : n0 ≤ b2 := Nat.le_trans (Nat.le_trans Z0 E1.1) (Nat.le_of_eq gb2.symm)
  have sz2_b : h0.size ≤ b2 := Nat.le_trans K1.1 (Nat.le_of_eq gb2.symm)
  have ne_b1_b2 : b1 ≠ b2 := Nat.ne_of_lt (Nat.lt_of_lt_of_le A1.lt (Nat.le_of_eq gb2.symm))
  have EN_2 := EN_1.ext E2
  have A1_2 := A1.ext E2
  have F_value_b1_2 := F_value_b1.ext E2
  have F_coder_b1_2 := F_coder_b1.ext E2
  have K2 := K1.ext E2
  have V2 : Arv Z h2 b2 k2 .char (3 : Int32) [(.int (0 : Int32)), (.int (0 : Int32)), (.int (0 : Int32))] (.int (0 : Int32)) := (Arv.new A2 (by decide)).pad (pad_rep [] (.int (0 : Int32)) 3)
  have Vc3 := V2
  obtain ⟨cl3, Ar3, qq3, sz3, nn3, Ha3, Gf3⟩ := Vc3
  have hin3 : ¬ ((0 : Int32) < 0 ∨ cl3.slots.size ≤ ((0 : Int32)).toNatClampNeg) := inb_of sz3 ⟨by decide, by decide⟩
  obtain ⟨T4, h4, X4, e4, W4, st4⟩ := stC X2 hx hZ e2 Ar3 (j := (0 : Int32)) hin3 (g := (mkF m 74 #[.val (.int p0), .val (.int d1), .val (.int d2), .val (.int d3), .val (.int d4), .val (.int d5)] [(.int d1), (.int (0 : Int32)), (.ref b2), (.ref b2), (.ref b1), (.ref b1)])) rfl rfl (hb hby d2_74)
  have N4 := Fr.snoc X4 N0 gn2
  have EN_4 := EN_2.wr W4 trivial
  have A1_4 := A1_2.wr W4
  have F_value_b1_4 := F_value_b1_2.other W4 (Or.inl ne_b1_b2)
  have F_coder_b1_4 := F_coder_b1_2.other W4 (Or.inl ne_b1_b2)
  have V2_4 := Arv.set Ar3 qq3 sz3 nn3 Ha3 Gf3 (fits_nar_char _) W4 0 rfl (Nat.le_of_ble_eq_true rfl)
  have K4 := K2.wr W4 (Or.inr sz2_b)
  have Vc5 := V2_4
  obtain ⟨cl5, Ar5, qq5, sz5, nn5, Ha5, Gf5⟩ := Vc5
  have hin5 : ¬ ((1 : Int32) < 0 ∨ cl5.slots.size ≤ ((1 : Int32)).toNatClampNeg) := inb_of sz5 ⟨by decide, by decide⟩
  obtain ⟨T6, h6, X6, e6, W6, st6⟩ := stC X4 hx hZ e4 Ar5 (j := (1 : Int32)) hin5 (g := (mkF m 78 #[.val (.int p0), .val (.int d1), .val (.int d2), .val (.int d3), .val (.int d4), .val (.int d5)] [(.int d2), (.int (1 : Int32)), (.ref b2), (.ref b2), (.ref b1), (.ref b1)])) rfl rfl (hb hby d2_78)
  have N6 := Fr.snoc X6 N4 gn2
  have EN_6 := EN_4.wr W6 trivial
  have A1_6 := A1_4.wr W6
  have F_value_b1_6 := F_value_b1_4.other W6 (Or.inl ne_b1_b2)
  have F_coder_b1_6 := F_coder_b1_4.other W6 (Or.inl ne_b1_b2)
  have V2_6 := Arv.set Ar5 qq5 sz5 nn5 Ha5 Gf5 (fits_nar_char _) W6 1 rfl (Nat.le_of_ble_eq_true rfl)
  have K6 := K4.wr W6 (Or.inr sz2_b)
  have Vc7 := V2_6
  obtain ⟨cl7, Ar7, qq7, sz7, nn7, Ha7, Gf7⟩ := Vc7
  have hin7 : ¬ ((2 : Int32) < 0 ∨ cl7.slots.size ≤ ((2 : Int32)).toNatClampNeg) := inb_of sz7 ⟨by decide, by decide⟩
  obtain ⟨T8, h8, X8, e8, W8, st8⟩ := stC X6 hx hZ e6 Ar7 (j := (2 : Int32)) hin7 (g := (mkF m 82 #[.val (.int p0), .val (.int d1), .val (.int d2), .val (.int d3), .val (.int d4), .val (.int d5)] [(.int d3), (.int (2 : Int32)), (.ref b2), (.ref b2), (.ref b1), (.ref b1)])) rfl rfl (hb hby d2_82)
  have N8 := Fr.snoc X8 N6 gn2
  have EN_8 := EN_6.wr W8 trivial
  have A1_8 := A1_6.wr W8
  have F_value_b1_8 := F_value_b1_6.other W8 (Or.inl ne_b1_b2)
  have F_coder_b1_8 := F_coder_b1_6.other W8 (Or.inl ne_b1_b2)
  have V2_8 := Arv.set Ar7 qq7 sz7 nn7 Ha7 Gf7 (fits_nar_char _) W8 2 rfl (Nat.le_of_ble_eq_true rfl)
  have K8 := K6.wr W8 (Or.inr sz2_b)
  have Kc : Arv Z h8 b2 k2 .char (3 : Int32) ([nar .char d1, nar .char d2, nar .char d3].map Value.int) (.int 0) := V2_8
  rw [own_nar hd1, own_nar hd2, own_nar hd3] at Kc
  have EN9 := EN_8
  obtain ⟨z, fm, Sz, hz, Sf, hfm⟩ := EN9
  have hpr : own_pr [d1, d2, d3] := own_p1 hd1 (own_p1 hd2 (own_p1 hd3 (own_p0)))
  obtain ⟨_, _, ⟨T9, L9, k9, n9⟩, -, X9, ⟨Lc9, hQ9, l9, y9, z9⟩, st9⟩ := X8.specialBack hx (y := (⟨"java/lang/String", "<init>", "([C)V"⟩ : MethodName)) rfl hown (mvT hZ (wd12 hw)) (mvT hZ (wd13 hw)) (mvT hZ (wd14 hw)) (by decide) (StrChars.Road.backV (W := 1) hZ hws (kI := 4) (wd9 hw) (cs := [d1, d2, d3]) (bs := [d1, d2, d3].map (fun c => c.toInt8.toInt32)) (n := 3) gn1 (Nat.le_trans (Nat.le_trans (Nat.le_trans (Nat.le_trans (Nat.le_trans Z0 E1.1) E2.1) (Nat.le_of_eq W4.size.symm)) (Nat.le_of_eq W6.size.symm)) (Nat.le_of_eq W8.size.symm)) A1_8 F_value_b1_8 F_coder_b1_8 Kc Sz hz rfl rfl (by decide) (by decide) hpr rfl (by decide) (by decide)) (g := (mkF m 83 #[.val (.int p0), .val (.int d1), .val (.int d2), .val (.int d3), .val (.int d4), .val (.int d5)] [(.ref b2), (.ref b1), (.ref b1)])) rfl (by rw [hml]; rfl) (Steps.refl _) (a := b1) (argsL := [(.ref b2)]) (rest := [(.ref b1)]) (lenOf pd_bv rfl) rfl (by show 2 * 0 + _ ≤ _; exact Nat.le_of_eq rfl) (hb hby d2_83) (fun _ _ => ⟨rfl, e8, (by decide : 2 + 1 ≤ _), (by decide : 7 + 3 ≤ _)⟩)
  dsimp only [Pt.U, Pt.locs, Pt.cells, Pt.slots] at X9 l9 y9 z9 st9 hQ9
  subst l9 y9 z9
  obtain ⟨rfl, N9q, Kp9, Ex9, Fc9, t9, kb9, g19, g29, g39, Fv9, Va9⟩ := hQ9
  have N9 := Fr.app N8 N9q
  have Kz := K8.trans Kp9 (fun x hx => by cases List.mem_singleton.mp hx; exact Or.inr sz1_b)
  have pre10 : ∀ t, Steps p.tables e below (T9.setTop (mkF m 86 #[.val (.int p0), .val (.int d1), .val (.int d2), .val (.int d3), .val (.int d4), .val (.int d5)] [(.ref b1)])) t → Steps p.tables e below (s₁.setTop (entryFrame m #[(.int p0), (.int d1), (.int d2), (.int d3), (.int d4), (.int d5)] 6)) t := fun t k => pre0 t (by
    show Steps p.tables e below (s₁.setTop (mkF m 0 #[.val (.int p0), .val (.int d1), .val (.int d2), .val (.int d3), .val (.int d4), .val (.int d5)] [])) _
    refine XS.iloadN X0.here hx rfl (hb hby d2_0) rfl ?_
    refine XS.ifYes X0.here hx rfl (pc0 := 1) (pc' := 15) rfl (hb hby d2_1) rfl ((if0 _ _).trans (feq (by rw [hn]; decide)).2) (by decide) (by decide) ?_
    refine XS.iloadN X0.here hx rfl (hb hby d2_15) rfl ?_
    refine XS.iconst X0.here hx rfl (hb hby d2_16) ?_
    refine XS.icmpYes X0.here hx rfl (pc0 := 17) (pc' := 35) rfl (hb hby d2_17) rfl (feq (by rw [hn]; decide)).2 (by decide) (by decide) ?_
    refine XS.iloadN X0.here hx rfl (hb hby d2_35) rfl ?_
    refine XS.iconst X0.here hx rfl (hb hby d2_36) ?_
    refine XS.icmpYes X0.here hx rfl (pc0 := 37) (pc' := 59) rfl (hb hby d2_37) rfl (feq (by rw [hn]; decide)).2 (by decide) (by decide) ?_
    refine XS.iloadN X0.here hx rfl (hb hby d2_59) rfl ?_
    refine XS.iconst X0.here hx rfl (hb hby d2_60) ?_
    refine XS.icmpNo X0.here hx rfl (hb hby d2_61) rfl (teq hn).2 ?_
    refine st1 _ ?_
    refine XS.dup X1.here hx rfl (hb hby d2_67) rfl rfl ?_
    refine XS.iconst X1.here hx rfl (hb hby d2_68) ?_
    refine st2 _ ?_
    refine XS.dup X2.here hx rfl (hb hby d2_71) rfl rfl ?_
    refine XS.iconst X2.here hx rfl (hb hby d2_72) ?_
    refine XS.iloadN X2.here hx rfl (hb hby d2_73) rfl ?_
    refine st4 _ ?_
    refine XS.dup X4.here hx rfl (hb hby d2_75) rfl rfl ?_
    refine XS.iconst X4.here hx rfl (hb hby d2_76) ?_
    refine XS.iloadN X4.here hx rfl (hb hby d2_77) rfl ?_
    refine st6 _ ?_
    refine XS.dup X6.here hx rfl (hb hby d2_79) rfl rfl ?_
    refine XS.iconst X6.here hx rfl (hb hby d2_80) ?_
    refine XS.iloadN X6.here hx rfl (hb hby d2_81) rfl ?_
    refine st8 _ ?_
    refine st9.trans ?_
    exact k)
  obtain ⟨fs11, hr11, hrun11, hended11, hW11, hsame11⟩ := X9.leave (v := some (.ref b1)) (fun h => by rw [Bd.returns] at h; cases h)
  refine ⟨_, _, pre10 _ ?_, hrun11, hended11, _, _, rfl, ?_, ⟨_, rfl⟩, hW11, hsame11.mono (by decide) (by decide)⟩
  · show Steps p.tables e below (T9.setTop (mkF m 86 #[.val (.int p0), .val (.int d1), .val (.int d2), .val (.int d3), .val (.int d4), .val (.int d5)] [(.ref b1)])) _
    exact retOut X9 hx (t := (.object "java/lang/String")) Bd.returns rfl (Or.inr (Or.inr (Or.inr (Or.inr ⟨rfl, rfl, rfl⟩)))) (hb hby d2_86) hr11
  · show Qmk3 Z p0 d1 d2 d3 d4 d5 h0 n0 _ T9.heap _
    exact ⟨_, rfl, N9, own_ext Kz, t9, kb9, Ex9, Fv9, Fc9, Va9⟩

theorem pd_mk4 : parseMethodDescriptor "(ICCCCC)Ljava/lang/String;" = some ⟨[.int, .char, .char, .char, .char, .char], some (.object "java/lang/String")⟩ := by decide +kernel

theorem ef_mk4 (m : MethodId) (x0 : Int32) (x1 : Int32) (x2 : Int32) (x3 : Int32) (x4 : Int32) (x5 : Int32)  : entryFrame m #[(.int x0), (.int x1), (.int x2), (.int x3), (.int x4), (.int x5)] 6 = mkF m 0 #[.val (.int x0), .val (.int x1), .val (.int x2), .val (.int x3), .val (.int x4), .val (.int x5)] [] := by first | (simp [entryFrame, mkF, argsToLocals, Value.category]; done) | rfl
def Qmk4 (Z : State) (p0 d1 d2 d3 d4 d5 : Int32) (h0 : Heap) (n0 : Nat) (v : Option Value) (h : Heap) (L : List Loc) : Prop := ∃ y, v = some (.ref y) ∧ Fr n0 L ∧ Ext h0 h ∧ own_str Z h y [d1, d2, d3, d4]
set_option maxRecDepth 65536 in
set_option maxHeartbeats 40000000 in
theorem rmmk4 (l : Launch) (Z : State) (a0 : Array Value) (hw : ∀ d ∈ tables_1, d.before a0 Z = true) (ws : List Jvm.Cond) (p0 d1 d2 d3 d4 d5 : Int32) (h0 : Heap) (n0 : Nat) (Z0 : n0 ≤ h0.size) (EN : own_env Z h0) (hn : p0 = (4 : Int32)) (hd1 : ¬ d1 < 0 ∧ ¬ (255 : Int32) < d1) (hd2 : ¬ d2 < 0 ∧ ¬ (255 : Int32) < d2) (hd3 : ¬ d3 < 0 ∧ ¬ (255 : Int32) < d3) (hd4 : ¬ d4 < 0 ∧ ¬ (255 : Int32) < d4) :
    MetFree l (⟨"com/example/oxpecker/oxpecker/MessageTemplateSoleParameterPinLaw", "make", "(ICCCCC)Ljava/lang/String;"⟩ : MethodName) (head1 (Jvm.Cond.code (⟨"com/example/oxpecker/oxpecker/MessageTemplateSoleParameterPinLaw", "make", "(ICCCCC)Ljava/lang/String;"⟩ : MethodName) method_4_code 6 (some (.object "java/lang/String")) :: ws) ({ frames := 4, cells := 3, slots := 14, locals := 66 } : Room)) (fun a U => a = #[(.int p0), (.int d1), (.int d2), (.int d3), (.int d4), (.int d5)] ∧ Z.Warmed39 U.vm ∧ U.heap = h0) (fun _ _ _ _ _ => True) (fun _ U o U' => ∃ v L, o = .returned v ∧ Qmk4 Z p0 d1 d2 d3 d4 d5 h0 n0 v U'.heap L ∧ FrameEnd U o U' L ({ frames := 4, cells := 3, slots := 14, locals := 66 } : Room).cells ({ frames := 4, cells := 3, slots := 14, locals := 66 } : Room).slots) := by
  refine MetFree.of_bodySF (plainFor_of_name pn_k0) hisR ?_
  intro p e s m args below meth c s₁ Bd hml0 hP hK
  obtain ⟨rfl, hZ, hh⟩ := hP
  have hx := Bd.exec
  have hby := Bd.bytes
  have hml : c.maxLocals = 6 := hml0
  have hown : s.vm.findClass "com/example/oxpecker/oxpecker/MessageTemplateSoleParameterPinLaw" = some m.cls := findClass_of_methodNamed Bd.named
  have hnm := (name_of_methodNamed Bd.named Bd.method).1
  have X0 : Stand p l e ({ frames := 4, cells := 3, slots := 14, locals := 66 } : Room) s m #[(.int p0), (.int d1), (.int d2), (.int d3), (.int d4), (.int d5)] below meth c s₁ [] 0 0 := Stand.of_body Bd
  have e0 : s₁.heap = h0 := by rw [← hh, Bd.state]; rfl
  have N0 := Fr.nil n0
  have pre0 : ∀ t, Steps p.tables e below (s₁.setTop (mkF m 0 #[.val (.int p0), .val (.int d1), .val (.int d2), .val (.int d3), .val (.int d4), .val (.int d5)] [])) t → Steps p.tables e below (s₁.setTop (entryFrame m #[(.int p0), (.int d1), (.int d2), (.int d3), (.int d4), (.int d5)] 6)) t := fun t k => castTop (ef_mk4 m p0 d1 d2 d3 d4 d5) k
  have hws : ∀ d ∈ StrChars.Road.words, d.before a0 Z = true := fun d hd => hw d ((by decide +kernel : ∀ d ∈ StrChars.Road.words, d ∈ tables_1) d hd)
  obtain ⟨T1, h1, X1, e1, E1, A1, D1, -, st1⟩ := newO X0 hx hZ hown (wd8 hw) (wd9 hw) (wd10 hw) e0 (g := (mkF m 92 #[.val (.int p0), .val (.int d1), .val (.int d2), .val (.int d3), .val (.int d4), .val (.int d5)] [])) rfl (hb hby d2_92) (by decide) (by decide)
  obtain ⟨b1, gb1⟩ : ∃ z, z = h0.size := ⟨_, rfl⟩
  rw [← gb1] at A1 D1 st1
  have gn1 : n0 ≤ b1 := Nat.le_trans Z0 (Nat.le_of_eq gb1.symm)
  have sz1_b : h0.size ≤ b1 := Nat.le_trans (Keep.refl h0 []).1 (Nat.le_of_eq gb1.symm)
  have EN_1 := EN.ext E1
  have K1 := (Keep.refl h0 []).ext E1
  have F_value_b1 : Fld Z h1 b1 "java/lang/String" "value" "[B" .null := D1 (Or.inr (wd24 hw)) (ty := (.array .byte)) (by decide)
  have F_coder_b1 : Fld Z h1 b1 "java/lang/String" "coder" "B" (.int (0 : Int32)) := D1 (Or.inr (wd25 hw)) (ty := .byte) (by decide)
  obtain ⟨T2, h2, k2, X2, e2, E2, A2, st2⟩ := newP (aty := .char) X1 hx hZ (wd11 hw) e1 (g := (mkF m 97 #[.val (.int p0), .val (.int d1), .val (.int d2), .val (.int d3), .val (.int d4), .val (.int d5)] [(.int (4 : Int32)), (.ref b1), (.ref b1)])) rfl (hb hby d2_97) rfl (by decide) (cap := 4) (by decide) (by decide) (by decide) (by decide)
  obtain ⟨b2, gb2⟩ : ∃ z, z = h1.size := ⟨_, rfl⟩
  rw [← gb2] at A2 st2
  have gn2 : n0 ≤ b2 := Nat.le_trans (Nat.le_trans Z0 E1.1) (Nat.le_of_eq gb2.symm)
  have sz2_b : h0.size ≤ b2 := Nat.le_trans K1.1 (Nat.le_of_eq gb2.symm)
  have ne_b1_b2 : b1 ≠ b2 := Nat.ne_of_lt (Nat.lt_of_lt_of_le A1.lt (Nat.le_of_eq gb2.symm))
  have EN_2 := EN_1.ext E2
  have A1_2 := A1.ext E2
  have F_value_b1_2 := F_value_b1.ext E2
  have F_coder_b1_2 := F_coder_b1.ext E2
  have K2 := K1.ext E2
  have V2 : Arv Z h2 b2 k2 .char (4 : Int32) [(.int (0 : Int32)), (.int (0 : Int32)), (.int (0 : Int32)), (.int (0 : Int32))] (.int (0 : Int32)) := (Arv.new A2 (by decide)).pad (pad_rep [] (.int (0 : Int32)) 4)
  have Vc3 := V2
  obtain ⟨cl3, Ar3, qq3, sz3, nn3, Ha3, Gf3⟩ := Vc3
  have hin3 : ¬ ((0 : Int32) < 0 ∨ cl3.slots.size ≤ ((0 : Int32)).toNatClampNeg) := inb_of sz3 ⟨by decide, by decide⟩
  obtain ⟨T4, h4, X4, e4, W4, st4⟩ := stC X2 hx hZ e2 Ar3 (j := (0 : Int32)) hin3 (g := (mkF m 102 #[.val (.int p0), .val (.int d1), .val (.int d2), .val (.int d3), .val (.int d4), .val (.int d5)] [(.int d1), (.int (0 : Int32)), (.ref b2), (.ref b2), (.ref b1), (.ref b1)])) rfl rfl (hb hby d2_102)
  have N4 := Fr.snoc X4 N0 gn2
  have EN_4 := EN_2.wr W4 trivial
  have A1_4 := A1_2.wr W4
  have F_value_b1_4 := F_value_b1_2.other W4 (Or.inl ne_b1_b2)
  have F_coder_b1_4 := F_coder_b1_2.other W4 (Or.inl ne_b1_b2)
  have V2_4 := Arv.set Ar3 qq3 sz3 nn3 Ha3 Gf3 (fits_nar_char _) W4 0 rfl (Nat.le_of_ble_eq_true rfl)
  have K4 := K2.wr W4 (Or.inr sz2_b)
  have Vc5 := V2_4
  obtain ⟨cl5, Ar5, qq5, sz5, nn5, Ha5, Gf5⟩ := Vc5
  have hin5 : ¬ ((1 : Int32) < 0 ∨ cl5.slots.size ≤ ((1 : Int32)).toNatClampNeg) := inb_of sz5 ⟨by decide, by decide⟩
  obtain ⟨T6, h6, X6, e6, W6, st6⟩ := stC X4 hx hZ e4 Ar5 (j := (1 : Int32)) hin5 (g := (mkF m 106 #[.val (.int p0), .val (.int d1), .val (.int d2), .val (.int d3), .val (.int d4), .val (.int d5)] [(.int d2), (.int (1 : Int32)), (.ref b2), (.ref b2), (.ref b1), (.ref b1)])) rfl rfl (hb hby d2_106)
  have N6 := Fr.snoc X6 N4 gn2
  have EN_6 := EN_4.wr W6 trivial
  have A1_6 := A1_4.wr W6
  have F_value_b1_6 := F_value_b1_4.other W6 (Or.inl ne_b1_b2)
  have F_coder_b1_6 := F_coder_b1_4.other W6 (Or.inl ne_b1_b2)
  have V2_6 := Arv.set Ar5 qq5 sz5 nn5 Ha5 Gf5 (fits_nar_char _) W6 1 rfl (Nat.le_of_ble_eq_true rfl)
  have K6 := K4.wr W6 (Or.inr sz2_b)
  have Vc7 := V2_6
  obtain ⟨cl7, Ar7, qq7, sz7, nn7, Ha7, Gf7⟩ := Vc7
  have hin7 : ¬ ((2 : Int32) < 0 ∨ cl7.slots.size ≤ ((2 : Int32)).toNatClampNeg) := inb_of sz7 ⟨by decide, by decide⟩
  obtain ⟨T8, h8, X8, e8, W8, st8⟩ := stC X6 hx hZ e6 Ar7 (j := (2 : Int32)) hin7 (g := (mkF m 110 #[.val (.int p0), .val (.int d1), .val (.int d2), .val (.int d3), .val (.int d4), .val (.int d5)] [(.int d3), (.int (2 : Int32)), (.ref b2), (.ref b2), (.ref b1), (.ref b1)])) rfl rfl (hb hby d2_110)
  have N8 := Fr.snoc X8 N6 gn2
  have EN_8 := EN_6.wr W8 trivial
  have A1_8 := A1_6.wr W8
  have F_value_b1_8 := F_value_b1_6.other W8 (Or.inl ne_b1_b2)
  have F_coder_b1_8 := F_coder_b1_6.other W8 (Or.inl ne_b1_b2)
  have V2_8 := Arv.set Ar7 qq7 sz7 nn7 Ha7 Gf7 (fits_nar_char _) W8 2 rfl (Nat.le_of_ble_eq_true rfl)
  have K8 := K6.wr W8 (Or.inr sz2_b)
  have Vc9 := V2_8
  obtain ⟨cl9, Ar9, qq9, sz9, nn9, Ha9, Gf9⟩ := Vc9
  have hin9 : ¬ ((3 : Int32) < 0 ∨ cl9.slots.size ≤ ((3 : Int32)).toNatClampNeg) := inb_of sz9 ⟨by decide, by decide⟩
  obtain ⟨T10, h10, X10, e10, W10, st10⟩ := stC X8 hx hZ e8 Ar9 (j := (3 : Int32)) hin9 (g := (mkF m 115 #[.val (.int p0), .val (.int d1), .val (.int d2), .val (.int d3), .val (.int d4), .val (.int d5)] [(.int d4), (.int (3 : Int32)), (.ref b2), (.ref b2), (.ref b1), (.ref b1)])) rfl rfl (hb hby d2_115)
  have N10 := Fr.snoc X10 N8 gn2
  have EN_10 := EN_8.wr W10 trivial
  have A1_10 := A1_8.wr W10
  have F_value_b1_10 := F_value_b1_8.other W10 (Or.inl ne_b1_b2)
  have F_coder_b1_10 := F_coder_b1_8.other W10 (Or.inl ne_b1_b2)
  have V2_10 := Arv.set Ar9 qq9 sz9 nn9 Ha9 Gf9 (fits_nar_char _) W10 3 rfl (Nat.le_of_ble_eq_true rfl)
  have K10 := K8.wr W10 (Or.inr sz2_b)
  have Kc : Arv Z h10 b2 k2 .char (4 : Int32) ([nar .char d1, nar .char d2, nar .char d3, nar .char d4].map Value.int) (.int 0) := V2_10
  rw [own_nar hd1, own_nar hd2, own_nar hd3, own_nar hd4] at Kc
  have EN9 := EN_10
  obtain ⟨z, fm, Sz, hz, Sf, hfm⟩ := EN9
  have hpr : own_pr [d1, d2, d3, d4] := own_p1 hd1 (own_p1 hd2 (own_p1 hd3 (own_p1 hd4 (own_p0))))
  obtain ⟨_, _, ⟨T11, L11, k11, n11⟩, -, X11, ⟨Lc11, hQ11, l11, y11, z11⟩, st11⟩ := X10.specialBack hx (y := (⟨"java/lang/String", "<init>", "([C)V"⟩ : MethodName)) rfl hown (mvT hZ (wd12 hw)) (mvT hZ (wd13 hw)) (mvT hZ (wd14 hw)) (by decide) (StrChars.Road.backV (W := 1) hZ hws (kI := 4) (wd9 hw) (cs := [d1, d2, d3, d4]) (bs := [d1, d2, d3, d4].map (fun c => c.toInt8.toInt32)) (n := 4) gn1 (Nat.le_trans (Nat.le_trans (Nat.le_trans (Nat.le_trans (Nat.le_trans (Nat.le_trans Z0 E1.1) E2.1) (Nat.le_of_eq W4.size.symm)) (Nat.le_of_eq W6.size.symm)) (Nat.le_of_eq W8.size.symm)) (Nat.le_of_eq W10.size.symm)) A1_10 F_value_b1_10 F_coder_b1_10 Kc Sz hz rfl rfl (by decide) (by decide) hpr rfl (by decide) (by decide)) (g := (mkF m 116 #[.val (.int p0), .val (.int d1), .val (.int d2), .val (.int d3), .val (.int d4), .val (.int d5)] [(.ref b2), (.ref b1), (.ref b1)])) rfl (by rw [hml]; rfl) (Steps.refl _) (a := b1) (argsL := [(.ref b2)]) (rest := [(.ref b1)]) (lenOf pd_bv rfl) rfl (by show 2 * 0 + _ ≤ _; exact Nat.le_of_eq rfl) (hb hby d2_116) (fun _ _ => ⟨rfl, e10, (by decide : 2 + 1 ≤ _), (by decide : 8 + 4 ≤ _)⟩)
  dsimp only [Pt.U, Pt.locs, Pt.cells, Pt.slots] at X11 l11 y11 z11 st11 hQ11
  subst l11 y11 z11
  obtain ⟨rfl, N11q, Kp11, Ex11, Fc11, t11, kb11, g111, g211, g311, Fv11, Va11⟩ := hQ11
  have N11 := Fr.app N10 N11q
  have Kz := K10.trans Kp11 (fun x hx => by cases List.mem_singleton.mp hx; exact Or.inr sz1_b)
  have pre12 : ∀ t, Steps p.tables e below (T11.setTop (mkF m 119 #[.val (.int p0), .val (.int d1), .val (.int d2), .val (.int d3), .val (.int d4), .val (.int d5)] [(.ref b1)])) t → Steps p.tables e below (s₁.setTop (entryFrame m #[(.int p0), (.int d1), (.int d2), (.int d3), (.int d4), (.int d5)] 6)) t := fun t k => pre0 t (by
    show Steps p.tables e below (s₁.setTop (mkF m 0 #[.val (.int p0), .val (.int d1), .val (.int d2), .val (.int d3), .val (.int d4), .val (.int d5)] [])) _
    refine XS.iloadN X0.here hx rfl (hb hby d2_0) rfl ?_
    refine XS.ifYes X0.here hx rfl (pc0 := 1) (pc' := 15) rfl (hb hby d2_1) rfl ((if0 _ _).trans (feq (by rw [hn]; decide)).2) (by decide) (by decide) ?_
    refine XS.iloadN X0.here hx rfl (hb hby d2_15) rfl ?_
    refine XS.iconst X0.here hx rfl (hb hby d2_16) ?_
    refine XS.icmpYes X0.here hx rfl (pc0 := 17) (pc' := 35) rfl (hb hby d2_17) rfl (feq (by rw [hn]; decide)).2 (by decide) (by decide) ?_
    refine XS.iloadN X0.here hx rfl (hb hby d2_35) rfl ?_
    refine XS.iconst X0.here hx rfl (hb hby d2_36) ?_
    refine XS.icmpYes X0.here hx rfl (pc0 := 37) (pc' := 59) rfl (hb hby d2_37) rfl (feq (by rw [hn]; decide)).2 (by decide) (by decide) ?_
    refine XS.iloadN X0.here hx rfl (hb hby d2_59) rfl ?_
    refine XS.iconst X0.here hx rfl (hb hby d2_60) ?_
    refine XS.icmpYes X0.here hx rfl (pc0 := 61) (pc' := 87) rfl (hb hby d2_61) rfl (feq (by rw [hn]; decide)).2 (by decide) (by decide) ?_
    refine XS.iloadN X0.here hx rfl (hb hby d2_87) rfl ?_
    refine XS.iconst X0.here hx rfl (hb hby d2_88) ?_
    refine XS.icmpNo X0.here hx rfl (hb hby d2_89) rfl (teq hn).2 ?_
    refine st1 _ ?_
    refine XS.dup X1.here hx rfl (hb hby d2_95) rfl rfl ?_
    refine XS.iconst X1.here hx rfl (hb hby d2_96) ?_
    refine st2 _ ?_
    refine XS.dup X2.here hx rfl (hb hby d2_99) rfl rfl ?_
    refine XS.iconst X2.here hx rfl (hb hby d2_100) ?_
    refine XS.iloadN X2.here hx rfl (hb hby d2_101) rfl ?_
    refine st4 _ ?_
    refine XS.dup X4.here hx rfl (hb hby d2_103) rfl rfl ?_
    refine XS.iconst X4.here hx rfl (hb hby d2_104) ?_
    refine XS.iloadN X4.here hx rfl (hb hby d2_105) rfl ?_
    refine st6 _ ?_
    refine XS.dup X6.here hx rfl (hb hby d2_107) rfl rfl ?_
    refine XS.iconst X6.here hx rfl (hb hby d2_108) ?_
    refine XS.iloadN X6.here hx rfl (hb hby d2_109) rfl ?_
    refine st8 _ ?_
    refine XS.dup X8.here hx rfl (hb hby d2_111) rfl rfl ?_
    refine XS.iconst X8.here hx rfl (hb hby d2_112) ?_
    refine XS.iload X8.here hx rfl (hb hby d2_113) rfl ?_
    refine st10 _ ?_
    refine st11.trans ?_
    exact k)
  obtain ⟨fs13, hr13, hrun13, hended13, hW13, hsame13⟩ := X11.leave (v := some (.ref b1)) (fun h => by rw [Bd.returns] at h; cases h)
  refine ⟨_, _, pre12 _ ?_, hrun13, hended13, _, _, rfl, ?_, ⟨_, rfl⟩, hW13, hsame13.mono (by decide) (by decide)⟩
  · show Steps p.tables e below (T11.setTop (mkF m 119 #[.val (.int p0), .val (.int d1), .val (.int d2), .val (.int d3), .val (.int d4), .val (.int d5)] [(.ref b1)])) _
    exact retOut X11 hx (t := (.object "java/lang/String")) Bd.returns rfl (Or.inr (Or.inr (Or.inr (Or.inr ⟨rfl, rfl, rfl⟩)))) (hb hby d2_119) hr13
  · show Qmk4 Z p0 d1 d2 d3 d4 d5 h0 n0 _ T11.heap _
    exact ⟨_, rfl, N11, own_ext Kz, t11, kb11, Ex11, Fv11, Fc11, Va11⟩

theorem pd_mk5 : parseMethodDescriptor "(ICCCCC)Ljava/lang/String;" = some ⟨[.int, .char, .char, .char, .char, .char], some (.object "java/lang/String")⟩ := by decide +kernel

theorem ef_mk5 (m : MethodId) (x0 : Int32) (x1 : Int32) (x2 : Int32) (x3 : Int32) (x4 : Int32) (x5 : Int32)  : entryFrame m #[(.int x0), (.int x1), (.int x2), (.int x3), (.int x4), (.int x5)] 6 = mkF m 0 #[.val (.int x0), .val (.int x1), .val (.int x2), .val (.int x3), .val (.int x4), .val (.int x5)] [] := by first | (simp [entryFrame, mkF, argsToLocals, Value.category]; done) | rfl
def Qmk5 (Z : State) (p0 d1 d2 d3 d4 d5 : Int32) (h0 : Heap) (n0 : Nat) (v : Option Value) (h : Heap) (L : List Loc) : Prop := ∃ y, v = some (.ref y) ∧ Fr n0 L ∧ Ext h0 h ∧ own_str Z h y [d1, d2, d3, d4, d5]
set_option maxRecDepth 65536 in
set_option maxHeartbeats 40000000 in
theorem rmmk5 (l : Launch) (Z : State) (a0 : Array Value) (hw : ∀ d ∈ tables_1, d.before a0 Z = true) (ws : List Jvm.Cond) (p0 d1 d2 d3 d4 d5 : Int32) (h0 : Heap) (n0 : Nat) (Z0 : n0 ≤ h0.size) (EN : own_env Z h0) (hn : p0 = (5 : Int32)) (hd1 : ¬ d1 < 0 ∧ ¬ (255 : Int32) < d1) (hd2 : ¬ d2 < 0 ∧ ¬ (255 : Int32) < d2) (hd3 : ¬ d3 < 0 ∧ ¬ (255 : Int32) < d3) (hd4 : ¬ d4 < 0 ∧ ¬ (255 : Int32) < d4) (hd5 : ¬ d5 < 0 ∧ ¬ (255 : Int32) < d5) :
    MetFree l (⟨"com/example/oxpecker/oxpecker/MessageTemplateSoleParameterPinLaw", "make", "(ICCCCC)Ljava/lang/String;"⟩ : MethodName) (head1 (Jvm.Cond.code (⟨"com/example/oxpecker/oxpecker/MessageTemplateSoleParameterPinLaw", "make", "(ICCCCC)Ljava/lang/String;"⟩ : MethodName) method_4_code 6 (some (.object "java/lang/String")) :: ws) ({ frames := 4, cells := 3, slots := 14, locals := 66 } : Room)) (fun a U => a = #[(.int p0), (.int d1), (.int d2), (.int d3), (.int d4), (.int d5)] ∧ Z.Warmed39 U.vm ∧ U.heap = h0) (fun _ _ _ _ _ => True) (fun _ U o U' => ∃ v L, o = .returned v ∧ Qmk5 Z p0 d1 d2 d3 d4 d5 h0 n0 v U'.heap L ∧ FrameEnd U o U' L ({ frames := 4, cells := 3, slots := 14, locals := 66 } : Room).cells ({ frames := 4, cells := 3, slots := 14, locals := 66 } : Room).slots) := by
  refine MetFree.of_bodySF (plainFor_of_name pn_k0) hisR ?_
  intro p e s m args below meth c s₁ Bd hml0 hP hK
  obtain ⟨rfl, hZ, hh⟩ := hP
  have hx := Bd.exec
  have hby := Bd.bytes
  have hml : c.maxLocals = 6 := hml0
  have hown : s.vm.findClass "com/example/oxpecker/oxpecker/MessageTemplateSoleParameterPinLaw" = some m.cls := findClass_of_methodNamed Bd.named
  have hnm := (name_of_methodNamed Bd.named Bd.method).1
  have X0 : Stand p l e ({ frames := 4, cells := 3, slots := 14, locals := 66 } : Room) s m #[(.int p0), (.int d1), (.int d2), (.int d3), (.int d4), (.int d5)] below meth c s₁ [] 0 0 := Stand.of_body Bd
  have e0 : s₁.heap = h0 := by rw [← hh, Bd.state]; rfl
  have N0 := Fr.nil n0
  have pre0 : ∀ t, Steps p.tables e below (s₁.setTop (mkF m 0 #[.val (.int p0), .val (.int d1), .val (.int d2), .val (.int d3), .val (.int d4), .val (.int d5)] [])) t → Steps p.tables e below (s₁.setTop (entryFrame m #[(.int p0), (.int d1), (.int d2), (.int d3), (.int d4), (.int d5)] 6)) t := fun t k => castTop (ef_mk5 m p0 d1 d2 d3 d4 d5) k
  have hws : ∀ d ∈ StrChars.Road.words, d.before a0 Z = true := fun d hd => hw d ((by decide +kernel : ∀ d ∈ StrChars.Road.words, d ∈ tables_1) d hd)
  obtain ⟨T1, h1, X1, e1, E1, A1, D1, -, st1⟩ := newO X0 hx hZ hown (wd8 hw) (wd9 hw) (wd10 hw) e0 (g := (mkF m 120 #[.val (.int p0), .val (.int d1), .val (.int d2), .val (.int d3), .val (.int d4), .val (.int d5)] [])) rfl (hb hby d2_120) (by decide) (by decide)
  obtain ⟨b1, gb1⟩ : ∃ z, z = h0.size := ⟨_, rfl⟩
  rw [← gb1] at A1 D1 st1
  have gn1 : n0 ≤ b1 := Nat.le_trans Z0 (Nat.le_of_eq gb1.symm)
  have sz1_b : h0.size ≤ b1 := Nat.le_trans (Keep.refl h0 []).1 (Nat.le_of_eq gb1.symm)
  have EN_1 := EN.ext E1
  have K1 := (Keep.refl h0 []).ext E1
  have F_value_b1 : Fld Z h1 b1 "java/lang/String" "value" "[B" .null := D1 (Or.inr (wd24 hw)) (ty := (.array .byte)) (by decide)
  have F_coder_b1 : Fld Z h1 b1 "java/lang/String" "coder" "B" (.int (0 : Int32)) := D1 (Or.inr (wd25 hw)) (ty := .byte) (by decide)
  obtain ⟨T2, h2, k2, X2, e2, E2, A2, st2⟩ := newP (aty := .char) X1 hx hZ (wd11 hw) e1 (g := (mkF m 125 #[.val (.int p0), .val (.int d1), .val (.int d2), .val (.int d3), .val (.int d4), .val (.int d5)] [(.int (5 : Int32)), (.ref b1), (.ref b1)])) rfl (hb hby d2_125) rfl (by decide) (cap := 5) (by decide) (by decide) (by decide) (by decide)
  obtain ⟨b2, gb2⟩ : ∃ z, z = h1.size := ⟨_, rfl⟩
  rw [← gb2] at A2 st2
  have gn2 : n0 ≤ b2 := Nat.le_trans (Nat.le_trans Z0 E1.1) (Nat.le_of_eq gb2.symm)
  have sz2_b : h0.size ≤ b2 := Nat.le_trans K1.1 (Nat.le_of_eq gb2.symm)
  have ne_b1_b2 : b1 ≠ b2 := Nat.ne_of_lt (Nat.lt_of_lt_of_le A1.lt (Nat.le_of_eq gb2.symm))
  have EN_2 := EN_1.ext E2
  have A1_2 := A1.ext E2
  have F_value_b1_2 := F_value_b1.ext E2
  have F_coder_b1_2 := F_coder_b1.ext E2
  have K2 := K1.ext E2
  have V2 : Arv Z h2 b2 k2 .char (5 : Int32) [(.int (0 : Int32)), (.int (0 : Int32)), (.int (0 : Int32)), (.int (0 : Int32)), (.int (0 : Int32))] (.int (0 : Int32)) := (Arv.new A2 (by decide)).pad (pad_rep [] (.int (0 : Int32)) 5)
  have Vc3 := V2
  obtain ⟨cl3, Ar3, qq3, sz3, nn3, Ha3, Gf3⟩ := Vc3
  have hin3 : ¬ ((0 : Int32) < 0 ∨ cl3.slots.size ≤ ((0 : Int32)).toNatClampNeg) := inb_of sz3 ⟨by decide, by decide⟩
  obtain ⟨T4, h4, X4, e4, W4, st4⟩ := stC X2 hx hZ e2 Ar3 (j := (0 : Int32)) hin3 (g := (mkF m 130 #[.val (.int p0), .val (.int d1), .val (.int d2), .val (.int d3), .val (.int d4), .val (.int d5)] [(.int d1), (.int (0 : Int32)), (.ref b2), (.ref b2), (.ref b1), (.ref b1)])) rfl rfl (hb hby d2_130)
  have N4 := Fr.snoc X4 N0 gn2
  have EN_4 := EN_2.wr W4 trivial
  have A1_4 := A1_2.wr W4
  have F_value_b1_4 := F_value_b1_2.other W4 (Or.inl ne_b1_b2)
  have F_coder_b1_4 := F_coder_b1_2.other W4 (Or.inl ne_b1_b2)
  have V2_4 := Arv.set Ar3 qq3 sz3 nn3 Ha3 Gf3 (fits_nar_char _) W4 0 rfl (Nat.le_of_ble_eq_true rfl)
  have K4 := K2.wr W4 (Or.inr sz2_b)
  have Vc5 := V2_4
  obtain ⟨cl5, Ar5, qq5, sz5, nn5, Ha5, Gf5⟩ := Vc5
  have hin5 : ¬ ((1 : Int32) < 0 ∨ cl5.slots.size ≤ ((1 : Int32)).toNatClampNeg) := inb_of sz5 ⟨by decide, by decide⟩
  obtain ⟨T6, h6, X6, e6, W6, st6⟩ := stC X4 hx hZ e4 Ar5 (j := (1 : Int32)) hin5 (g := (mkF m 134 #[.val (.int p0), .val (.int d1), .val (.int d2), .val (.int d3), .val (.int d4), .val (.int d5)] [(.int d2), (.int (1 : Int32)), (.ref b2), (.ref b2), (.ref b1), (.ref b1)])) rfl rfl (hb hby d2_134)
  have N6 := Fr.snoc X6 N4 gn2
  have EN_6 := EN_4.wr W6 trivial
  have A1_6 := A1_4.wr W6
  have F_value_b1_6 := F_value_b1_4.other W6 (Or.inl ne_b1_b2)
  have F_coder_b1_6 := F_coder_b1_4.other W6 (Or.inl ne_b1_b2)
  have V2_6 := Arv.set Ar5 qq5 sz5 nn5 Ha5 Gf5 (fits_nar_char _) W6 1 rfl (Nat.le_of_ble_eq_true rfl)
  have K6 := K4.wr W6 (Or.inr sz2_b)
  have Vc7 := V2_6
  obtain ⟨cl7, Ar7, qq7, sz7, nn7, Ha7, Gf7⟩ := Vc7
  have hin7 : ¬ ((2 : Int32) < 0 ∨ cl7.slots.size ≤ ((2 : Int32)).toNatClampNeg) := inb_of sz7 ⟨by decide, by decide⟩
  obtain ⟨T8, h8, X8, e8, W8, st8⟩ := stC X6 hx hZ e6 Ar7 (j := (2 : Int32)) hin7 (g := (mkF m 138 #[.val (.int p0), .val (.int d1), .val (.int d2), .val (.int d3), .val (.int d4), .val (.int d5)] [(.int d3), (.int (2 : Int32)), (.ref b2), (.ref b2), (.ref b1), (.ref b1)])) rfl rfl (hb hby d2_138)
  have N8 := Fr.snoc X8 N6 gn2
  have EN_8 := EN_6.wr W8 trivial
  have A1_8 := A1_6.wr W8
  have F_value_b1_8 := F_value_b1_6.other W8 (Or.inl ne_b1_b2)
  have F_coder_b1_8 := F_coder_b1_6.other W8 (Or.inl ne_b1_b2)
  have V2_8 := Arv.set Ar7 qq7 sz7 nn7 Ha7 Gf7 (fits_nar_char _) W8 2 rfl (Nat.le_of_ble_eq_true rfl)
  have K8 := K6.wr W8 (Or.inr sz2_b)
  have Vc9 := V2_8
  obtain ⟨cl9, Ar9, qq9, sz9, nn9, Ha9, Gf9⟩ := Vc9
  have hin9 : ¬ ((3 : Int32) < 0 ∨ cl9.slots.size ≤ ((3 : Int32)).toNatClampNeg) := inb_of sz9 ⟨by decide, by decide⟩
  obtain ⟨T10, h10, X10, e10, W10, st10⟩ := stC X8 hx hZ e8 Ar9 (j := (3 : Int32)) hin9 (g := (mkF m 143 #[.val (.int p0), .val (.int d1), .val (.int d2), .val (.int d3), .val (.int d4), .val (.int d5)] [(.int d4), (.int (3 : Int32)), (.ref b2), (.ref b2), (.ref b1), (.ref b1)])) rfl rfl (hb hby d2_143)
  have N10 := Fr.snoc X10 N8 gn2
  have EN_10 := EN_8.wr W10 trivial
  have A1_10 := A1_8.wr W10
  have F_value_b1_10 := F_value_b1_8.other W10 (Or.inl ne_b1_b2)
  have F_coder_b1_10 := F_coder_b1_8.other W10 (Or.inl ne_b1_b2)
  have V2_10 := Arv.set Ar9 qq9 sz9 nn9 Ha9 Gf9 (fits_nar_char _) W10 3 rfl (Nat.le_of_ble_eq_true rfl)
  have K10 := K8.wr W10 (Or.inr sz2_b)
  have Vc11 := V2_10
  obtain ⟨cl11, Ar11, qq11, sz11, nn11, Ha11, Gf11⟩ := Vc11
  have hin11 : ¬ ((4 : Int32) < 0 ∨ cl11.slots.size ≤ ((4 : Int32)).toNatClampNeg) := inb_of sz11 ⟨by decide, by decide⟩
  obtain ⟨T12, h12, X12, e12, W12, st12⟩ := stC X10 hx hZ e10 Ar11 (j := (4 : Int32)) hin11 (g := (mkF m 148 #[.val (.int p0), .val (.int d1), .val (.int d2), .val (.int d3), .val (.int d4), .val (.int d5)] [(.int d5), (.int (4 : Int32)), (.ref b2), (.ref b2), (.ref b1), (.ref b1)])) rfl rfl (hb hby d2_148)
  have N12 := Fr.snoc X12 N10 gn2
  have EN_12 := EN_10.wr W12 trivial
  have A1_12 := A1_10.wr W12
  have F_value_b1_12 := F_value_b1_10.other W12 (Or.inl ne_b1_b2)
  have F_coder_b1_12 := F_coder_b1_10.other W12 (Or.inl ne_b1_b2)
  have V2_12 := Arv.set Ar11 qq11 sz11 nn11 Ha11 Gf11 (fits_nar_char _) W12 4 rfl (Nat.le_of_ble_eq_true rfl)
  have K12 := K10.wr W12 (Or.inr sz2_b)
  have Kc : Arv Z h12 b2 k2 .char (5 : Int32) ([nar .char d1, nar .char d2, nar .char d3, nar .char d4, nar .char d5].map Value.int) (.int 0) := V2_12
  rw [own_nar hd1, own_nar hd2, own_nar hd3, own_nar hd4, own_nar hd5] at Kc
  have EN9 := EN_12
  obtain ⟨z, fm, Sz, hz, Sf, hfm⟩ := EN9
  have hpr : own_pr [d1, d2, d3, d4, d5] := own_p1 hd1 (own_p1 hd2 (own_p1 hd3 (own_p1 hd4 (own_p1 hd5 (own_p0)))))
  obtain ⟨_, _, ⟨T13, L13, k13, n13⟩, -, X13, ⟨Lc13, hQ13, l13, y13, z13⟩, st13⟩ := X12.specialBack hx (y := (⟨"java/lang/String", "<init>", "([C)V"⟩ : MethodName)) rfl hown (mvT hZ (wd12 hw)) (mvT hZ (wd13 hw)) (mvT hZ (wd14 hw)) (by decide) (StrChars.Road.backV (W := 1) hZ hws (kI := 4) (wd9 hw) (cs := [d1, d2, d3, d4, d5]) (bs := [d1, d2, d3, d4, d5].map (fun c => c.toInt8.toInt32)) (n := 5) gn1 (Nat.le_trans (Nat.le_trans (Nat.le_trans (Nat.le_trans (Nat.le_trans (Nat.le_trans (Nat.le_trans Z0 E1.1) E2.1) (Nat.le_of_eq W4.size.symm)) (Nat.le_of_eq W6.size.symm)) (Nat.le_of_eq W8.size.symm)) (Nat.le_of_eq W10.size.symm)) (Nat.le_of_eq W12.size.symm)) A1_12 F_value_b1_12 F_coder_b1_12 Kc Sz hz rfl rfl (by decide) (by decide) hpr rfl (by decide) (by decide)) (g := (mkF m 149 #[.val (.int p0), .val (.int d1), .val (.int d2), .val (.int d3), .val (.int d4), .val (.int d5)] [(.ref b2), (.ref b1), (.ref b1)])) rfl (by rw [hml]; rfl) (Steps.refl _) (a := b1) (argsL := [(.ref b2)]) (rest := [(.ref b1)]) (lenOf pd_bv rfl) rfl (by show 2 * 0 + _ ≤ _; exact Nat.le_of_eq rfl) (hb hby d2_149) (fun _ _ => ⟨rfl, e12, (by decide : 2 + 1 ≤ _), (by decide : 9 + 5 ≤ _)⟩)
  dsimp only [Pt.U, Pt.locs, Pt.cells, Pt.slots] at X13 l13 y13 z13 st13 hQ13
  subst l13 y13 z13
  obtain ⟨rfl, N13q, Kp13, Ex13, Fc13, t13, kb13, g113, g213, g313, Fv13, Va13⟩ := hQ13
  have N13 := Fr.app N12 N13q
  have Kz := K12.trans Kp13 (fun x hx => by cases List.mem_singleton.mp hx; exact Or.inr sz1_b)
  have pre14 : ∀ t, Steps p.tables e below (T13.setTop (mkF m 152 #[.val (.int p0), .val (.int d1), .val (.int d2), .val (.int d3), .val (.int d4), .val (.int d5)] [(.ref b1)])) t → Steps p.tables e below (s₁.setTop (entryFrame m #[(.int p0), (.int d1), (.int d2), (.int d3), (.int d4), (.int d5)] 6)) t := fun t k => pre0 t (by
    show Steps p.tables e below (s₁.setTop (mkF m 0 #[.val (.int p0), .val (.int d1), .val (.int d2), .val (.int d3), .val (.int d4), .val (.int d5)] [])) _
    refine XS.iloadN X0.here hx rfl (hb hby d2_0) rfl ?_
    refine XS.ifYes X0.here hx rfl (pc0 := 1) (pc' := 15) rfl (hb hby d2_1) rfl ((if0 _ _).trans (feq (by rw [hn]; decide)).2) (by decide) (by decide) ?_
    refine XS.iloadN X0.here hx rfl (hb hby d2_15) rfl ?_
    refine XS.iconst X0.here hx rfl (hb hby d2_16) ?_
    refine XS.icmpYes X0.here hx rfl (pc0 := 17) (pc' := 35) rfl (hb hby d2_17) rfl (feq (by rw [hn]; decide)).2 (by decide) (by decide) ?_
    refine XS.iloadN X0.here hx rfl (hb hby d2_35) rfl ?_
    refine XS.iconst X0.here hx rfl (hb hby d2_36) ?_
    refine XS.icmpYes X0.here hx rfl (pc0 := 37) (pc' := 59) rfl (hb hby d2_37) rfl (feq (by rw [hn]; decide)).2 (by decide) (by decide) ?_
    refine XS.iloadN X0.here hx rfl (hb hby d2_59) rfl ?_
    refine XS.iconst X0.here hx rfl (hb hby d2_60) ?_
    refine XS.icmpYes X0.here hx rfl (pc0 := 61) (pc' := 87) rfl (hb hby d2_61) rfl (feq (by rw [hn]; decide)).2 (by decide) (by decide) ?_
    refine XS.iloadN X0.here hx rfl (hb hby d2_87) rfl ?_
    refine XS.iconst X0.here hx rfl (hb hby d2_88) ?_
    refine XS.icmpYes X0.here hx rfl (pc0 := 89) (pc' := 120) rfl (hb hby d2_89) rfl (feq (by rw [hn]; decide)).2 (by decide) (by decide) ?_
    refine st1 _ ?_
    refine XS.dup X1.here hx rfl (hb hby d2_123) rfl rfl ?_
    refine XS.iconst X1.here hx rfl (hb hby d2_124) ?_
    refine st2 _ ?_
    refine XS.dup X2.here hx rfl (hb hby d2_127) rfl rfl ?_
    refine XS.iconst X2.here hx rfl (hb hby d2_128) ?_
    refine XS.iloadN X2.here hx rfl (hb hby d2_129) rfl ?_
    refine st4 _ ?_
    refine XS.dup X4.here hx rfl (hb hby d2_131) rfl rfl ?_
    refine XS.iconst X4.here hx rfl (hb hby d2_132) ?_
    refine XS.iloadN X4.here hx rfl (hb hby d2_133) rfl ?_
    refine st6 _ ?_
    refine XS.dup X6.here hx rfl (hb hby d2_135) rfl rfl ?_
    refine XS.iconst X6.here hx rfl (hb hby d2_136) ?_
    refine XS.iloadN X6.here hx rfl (hb hby d2_137) rfl ?_
    refine st8 _ ?_
    refine XS.dup X8.here hx rfl (hb hby d2_139) rfl rfl ?_
    refine XS.iconst X8.here hx rfl (hb hby d2_140) ?_
    refine XS.iload X8.here hx rfl (hb hby d2_141) rfl ?_
    refine st10 _ ?_
    refine XS.dup X10.here hx rfl (hb hby d2_144) rfl rfl ?_
    refine XS.iconst X10.here hx rfl (hb hby d2_145) ?_
    refine XS.iload X10.here hx rfl (hb hby d2_146) rfl ?_
    refine st12 _ ?_
    refine st13.trans ?_
    exact k)
  obtain ⟨fs15, hr15, hrun15, hended15, hW15, hsame15⟩ := X13.leave (v := some (.ref b1)) (fun h => by rw [Bd.returns] at h; cases h)
  refine ⟨_, _, pre14 _ ?_, hrun15, hended15, _, _, rfl, ?_, ⟨_, rfl⟩, hW15, hsame15.mono (by decide) (by decide)⟩
  · show Steps p.tables e below (T13.setTop (mkF m 152 #[.val (.int p0), .val (.int d1), .val (.int d2), .val (.int d3), .val (.int d4), .val (.int d5)] [(.ref b1)])) _
    exact retOut X13 hx (t := (.object "java/lang/String")) Bd.returns rfl (Or.inr (Or.inr (Or.inr (Or.inr ⟨rfl, rfl, rfl⟩)))) (hb hby d2_152) hr15
  · show Qmk5 Z p0 d1 d2 d3 d4 d5 h0 n0 _ T13.heap _
    exact ⟨_, rfl, N13, own_ext Kz, t13, kb13, Ex13, Fv13, Fc13, Va13⟩

def own_EL : List (String × Nat) := [("java/lang/String", 7)]
theorem own_EW {Z : State} {a0 : Array Value} (hw : ∀ d ∈ tables_1, d.before a0 Z = true) : EW Z a0 own_EL := EW.cons (hw _ (List.mem_of_getElem? (i := 22) rfl)) (by decide) EW.nil
theorem own_safe {Z : State} {EL : List (String × Nat)} {vm : Vm} {h : Heap} {x : Addr} {a0 : Array Value} {n : Nat} (hal : Z.vm.Alike vm) (wi : (Jvm.Cond.instantiable "java/lang/String" n).before a0 Z = true) (E : Exa Z h x "java/lang/String") (V : Fld Z h x "java/lang/String" "value" "[B" .null) : Safe Z EL vm h x := fun B => by
  obtain ⟨p, hp, u, a, hb, q, hq, F, hx⟩ := B
  obtain ⟨cS, ⟨⟨s1, s2, s3, ⟨cv, kv, iv, s4, s4'⟩, ⟨cc, kc, ic, s5, s5'⟩, s6, s7, s8, s9, s10, s11, s12, s13, s14, s15, s16⟩, hfS, hcS⟩, r⟩ := F
  rcases hx with hx | hx
  · subst hx
    obtain ⟨kv', z4⟩ := ff_back (U := Wst Z vm h) hal s4
    obtain ⟨cell, cf, k, i, f, h1, h2, h3, h4, h5, h6, h7⟩ := V
    cases h1.symm.trans s1
    cases h2.symm.trans z4
    rw [s8] at h7
    cases h7
  · subst hx
    obtain ⟨c1, k1, e1, e2, e3, -⟩ := E
    cases e1.symm.trans s10
    obtain ⟨c2, k2, i1, i2, i3, -⟩ := Cond.instantiable_spec wi
    cases e2.symm.trans i1
    obtain ⟨k', q1, q2⟩ := hal.2.2 _ _ i2
    obtain ⟨hst, k9, hk9, comp, hkind9⟩ := s11
    have hk9 : vm.classes[q.SA.cls]? = some k9 := hk9
    have e9 : k9 = k' := Option.some.inj (hk9.symm.trans q1)
    have q4 : k'.kind = .ordinary := by rw [q2]; exact i3
    rw [e9, q4] at hkind9
    cases hkind9

theorem pd_i4 : parseMethodDescriptor "([CIILjava/lang/Void;)V" = some ⟨[(.array .char), .int, .int, (.object "java/lang/Void")], none⟩ := by decide +kernel

theorem ef_i4 (m : MethodId) (x0 : Addr) (x1 : Addr) (x2 : Int32) (x3 : Int32)  : entryFrame m #[(.ref x0), (.ref x1), (.int x2), (.int x3), .null] 6 = mkF m 0 #[.val (.ref x0), .val (.ref x1), .val (.int x2), .val (.int x3), .val .null, .unset] [] := by first | (simp [entryFrame, mkF, argsToLocals, Value.category]; done) | rfl
def Qi4 (Z : State) (a1 a2 : Addr) (h0 : Heap) (n0 : Nat) (v : Option Value) (h : Heap) (L : List Loc) : Prop := v = none ∧ Fr n0 L ∧ Keep h0 h [a1] ∧ own_str Z h a1 []
set_option maxRecDepth 65536 in
set_option maxHeartbeats 40000000 in
theorem rmi4 (l : Launch) (Z : State) (a0 : Array Value) (hw : ∀ d ∈ tables_1, d.before a0 Z = true) (ws : List Jvm.Cond) (a1 a2 : Addr) (h0 : Heap) (n0 : Nat) (Z0 : n0 ≤ h0.size) (F1 : Fld Z h0 a1 "java/lang/String" "value" "[B" .null) (C1 : Fld Z h0 a1 "java/lang/String" "coder" "B" (.int 0)) (E1 : Exa Z h0 a1 "java/lang/String") (g1 : n0 ≤ a1) :
    MetFree l (⟨"java/lang/String", "<init>", "([CIILjava/lang/Void;)V"⟩ : MethodName) (head1 (Jvm.Cond.code (⟨"java/lang/String", "<init>", "([CIILjava/lang/Void;)V"⟩ : MethodName) jdk_42_method_149_code 6 none :: ws) ({ frames := 1, cells := 4, slots := 8, locals := 12 } : Room)) (fun a U => a = #[(.ref a1), (.ref a2), (.int (0 : Int32)), (.int (0 : Int32)), .null] ∧ Z.Warmed39 U.vm ∧ U.heap = h0 ∧ CHv Z own_EL U.vm h0) (fun _ _ _ _ _ => True) (fun _ U o U' => ∃ v L, o = .returned v ∧ Qi4 Z a1 a2 h0 n0 v U'.heap L ∧ CHr Z own_EL U.vm U.heap U'.vm U'.heap ∧ ReturnedEndW U o U' L ({ frames := 1, cells := 4, slots := 8, locals := 12 } : Room).cells ({ frames := 1, cells := 4, slots := 8, locals := 12 } : Room).slots) := by
  refine MetFree.of_bodySF (plainFor_of_name pn_k2) hisR ?_
  intro p e s m args below meth c s₁ Bd hml0 hP hK
  obtain ⟨rfl, hZ, hh, hCH⟩ := hP
  have hx := Bd.exec
  have hby := Bd.bytes
  have hml : c.maxLocals = 6 := hml0
  have hown : s.vm.findClass "java/lang/String" = some m.cls := findClass_of_methodNamed Bd.named
  have hnm := (name_of_methodNamed Bd.named Bd.method).1
  have X0 : Stand p l e ({ frames := 1, cells := 4, slots := 8, locals := 12 } : Room) (s.setVm s.vm) m #[(.ref a1), (.ref a2), (.int (0 : Int32)), (.int (0 : Int32)), .null] below meth c s₁ [] 0 0 := Stand.of_body Bd
  have e0 : s₁.heap = h0 := by rw [← hh, Bd.state]; rfl
  have N0 := Fr.nil n0
  have hZ0 : Z.Warmed39 (s.setVm s.vm).vm := hZ
  have ho0 : (s.setVm s.vm).vm.findClass "java/lang/String" = some m.cls := hown
  have hS0 : s.Since s.vm h0.size := (State.WarmedH.refl s).since _
  have hEL : EW Z a0 own_EL := own_EW hw
  have wS : ∀ a ∈ Bundle.stringAtoms, a.before a0 Z = true := fun d hd => hw d ((by decide +kernel : ∀ d ∈ Bundle.stringAtoms, d ∈ tables_1) d hd)
  have pre0 : ∀ t, Steps p.tables e below (s₁.setTop (mkF m 0 #[.val (.ref a1), .val (.ref a2), .val (.int (0 : Int32)), .val (.int (0 : Int32)), .val .null, .unset] [])) t → Steps p.tables e below (s₁.setTop (entryFrame m #[(.ref a1), (.ref a2), (.int (0 : Int32)), (.int (0 : Int32)), .null] 6)) t := fun t k => castTop (ef_i4 m a1 a2 (0 : Int32) (0 : Int32)) k
  have sf0 : Safe Z own_EL s.vm h0 a1 := own_safe hZ0.alike (wd9 hw) E1 F1
  obtain ⟨T1, X1, e1, st1⟩ := initO X0 hx hZ0 ho0 (wd19 hw) (wd20 hw) (wd21 hw) e0 (g := (mkF m 1 #[.val (.ref a1), .val (.ref a2), .val (.int (0 : Int32)), .val (.int (0 : Int32)), .val .null, .unset] [(.ref a1)])) rfl (by rw [hml]; rfl) rfl (hb hby d4_1) (by decide) (W := 0) (by show 2 * 0 + _ ≤ _; exact Nat.le_of_eq rfl) (by decide)
  obtain ⟨la2, T2, h2, k2, b2, kc2, X2, e2, E2, hS2, hk2, hZ2, ho2, A2, C2, V2, K2_, lt2, lb2, CQ2, Lt2, sf2, st2⟩ := ldcCH X1 hx hZ0 ho0 (wd22 hw) wS e1 hS0 (Nat.le_refl _) hEL (by decide) hCH (vs := []) (z := (0 : Int32)) ⟨by decide, rfl⟩ (by decide) rfl (g := (mkF m 9 #[.val (.ref a1), .val (.ref a2), .val (.int (0 : Int32)), .val (.int (0 : Int32)), .val .null, .unset] [(.ref a1)])) rfl (hb hby d4_9) (n := 0) (by decide) (by decide) (by decide) (by decide)
  have CR2 := (CHr.refl hCH).trans CQ2
  have CH2 := CQ2.1
  have F1_2 := F1.ext E2
  have C1_2 := C1.ext E2
  have E1_2 := E1.ext E2
  have K2 := (Keep.refl h0 []).ext E2
  have sfa := CHr.safe CQ2 F1.lt sf0
  obtain ⟨T3, X3, e3, st3⟩ := getF X2 hx hZ2 ho2 (host := "") (Or.inl (wd28 hw)) Via.refl e2 V2 (g := (mkF m 11 #[.val (.ref a1), .val (.ref a2), .val (.int (0 : Int32)), .val (.int (0 : Int32)), .val .null, .unset] [(.ref la2), (.ref a1)])) rfl rfl (hb hby d4_11)
  obtain ⟨T4, h4, X4, e4, W4, st4⟩ := putF X3 hx hZ2 ho2 (host := "") (Or.inl (wd28 hw)) Via.refl e3 F1_2 E1_2 (Or.inr ⟨(wd24 hw), rfl, hnm⟩) (wd9 hw) (ty := (.array .byte)) (by decide) rfl rfl (g := (mkF m 14 #[.val (.ref a1), .val (.ref a2), .val (.int (0 : Int32)), .val (.int (0 : Int32)), .val .null, .unset] [(.ref b2), (.ref a1)])) rfl rfl (hb hby d4_14)
  have N4 := Fr.snoc X4 N0 g1
  have F1_4 := F1_2.same W4
  have C1_4 := C1_2.other W4 (Or.inr (slot_ne (Or.inr (wd25 hw)) (Or.inr (wd24 hw)) (by decide) (t := .byte) (t' := (.array .byte)) (by decide) (by decide)))
  have E1_4 := E1_2.wr W4
  have K2__4 := K2_.other W4 (Ne.symm (sf2 _ sfa).2)
  have CR4 := CR2.trans (CHr.wr W4 sfa CH2)
  have CH4 := CHv.wr W4 sfa CH2
  have sfb := Safe.wr W4 sfa CH2 sfa
  obtain ⟨la5, T5, h5, k5, b5, kc5, X5, e5, E5, hS5, hk5, hZ5, ho5, A5, C5, V5, K5_, lt5, lb5, CQ5, Lt5, sf5, st5⟩ := ldcCH X4 hx hZ2 ho2 (wd22 hw) wS e4 hS2 (Nat.le_trans hk2 (Nat.le_of_eq W4.size.symm)) hEL (by decide) CH4 (vs := []) (z := (0 : Int32)) ⟨by decide, rfl⟩ (by decide) rfl (g := (mkF m 18 #[.val (.ref a1), .val (.ref a2), .val (.int (0 : Int32)), .val (.int (0 : Int32)), .val .null, .unset] [(.ref a1)])) rfl (hb hby d4_18) (n := 0) (by decide) (by decide) (by decide) (by decide)
  have CR5 := CR4.trans CQ5
  have CH5 := CQ5.1
  have F1_5 := F1_4.ext E5
  have C1_5 := C1_4.ext E5
  have E1_5 := E1_4.ext E5
  have K2__5 := K2__4.ext E5
  have sfc := CHr.safe CQ5 F1_4.lt sfb
  obtain ⟨T6, X6, e6, st6⟩ := getF X5 hx hZ5 ho5 (host := "") (Or.inl (wd29 hw)) Via.refl e5 C5 (g := (mkF m 20 #[.val (.ref a1), .val (.ref a2), .val (.int (0 : Int32)), .val (.int (0 : Int32)), .val .null, .unset] [(.ref la5), (.ref a1)])) rfl rfl (hb hby d4_20)
  have nbb : b2 ≠ a1 := fun q => own_sb E1_5 (wd9 hw) K2__5 q.symm
  obtain ⟨T7, h7, X7, e7, W7, st7⟩ := putFN X6 hx hZ5 ho5 (wd29 hw) Via.refl e6 C1_5 E1_5 (Or.inr ⟨(wd25 hw), rfl, hnm⟩) (wd9 hw) (ty := .byte) (v' := (.int (0 : Int32))) (by decide) rfl rfl (g := (mkF m 23 #[.val (.ref a1), .val (.ref a2), .val (.int (0 : Int32)), .val (.int (0 : Int32)), .val .null, .unset] [(.int (0 : Int32)), (.ref a1)])) rfl rfl (hb hby d4_23)
  have N7 := Fr.snoc X7 N4 g1
  have F1_7 := F1_5.other W7 (Or.inr (slot_ne (Or.inr (wd24 hw)) (Or.inr (wd25 hw)) (by decide) (t := (.array .byte)) (t' := .byte) (by decide) (by decide)))
  have C1_7 := C1_5.same W7
  have E1_7 := E1_5.wr W7
  have K2__7 := K2__5.other W7 nbb
  have CR7 := CR5.trans (CHr.wr W7 sfc CH5)
  have CH7 := CHv.wr W7 sfc CH5
  have pre8 : ∀ t, Steps p.tables e below (T7.setTop (mkF m 26 #[.val (.ref a1), .val (.ref a2), .val (.int (0 : Int32)), .val (.int (0 : Int32)), .val .null, .unset] [])) t → Steps p.tables e below (s₁.setTop (entryFrame m #[(.ref a1), (.ref a2), (.int (0 : Int32)), (.int (0 : Int32)), .null] 6)) t := fun t k => pre0 t (by
    show Steps p.tables e below (s₁.setTop (mkF m 0 #[.val (.ref a1), .val (.ref a2), .val (.int (0 : Int32)), .val (.int (0 : Int32)), .val .null, .unset] [])) _
    refine XS.aloadN X0.here hx rfl (hb hby d4_0) rfl rfl ?_
    refine st1 _ ?_
    refine XS.iloadN X1.here hx rfl (hb hby d4_4) rfl ?_
    refine XS.ifNo X1.here hx rfl (hb hby d4_5) rfl ((if0 _ _).trans (teq (by decide : (0 : Int32) = (0 : Int32))).2) ?_
    refine XS.aloadN X1.here hx rfl (hb hby d4_8) rfl rfl ?_
    refine st2 _ ?_
    refine st3 _ ?_
    refine st4 _ ?_
    refine XS.aloadN X4.here hx rfl (hb hby d4_17) rfl rfl ?_
    refine st5 _ ?_
    refine st6 _ ?_
    refine st7 _ ?_
    exact k)
  obtain ⟨fs9, hr9, hrun9, hended9, hE9⟩ := X7.leaveW hS5 (by first | exact (Nat.le_trans hk5 (Nat.le_of_eq W7.size.symm)) | (rw [e7]; exact (Nat.le_trans hk5 (Nat.le_of_eq W7.size.symm)))) (v := none) (fun _ => rfl)
  refine ⟨_, _, pre8 _ ?_, hrun9, hended9, _, _, rfl, ?_, ?_, hE9.1, hE9.2.1, hE9.2.2.1, hE9.2.2.2.mono (by decide) (by decide)⟩
  · show Steps p.tables e below (T7.setTop (mkF m 26 #[.val (.ref a1), .val (.ref a2), .val (.int (0 : Int32)), .val (.int (0 : Int32)), .val .null, .unset] [])) _
    exact X7.returnOut hx Bd.returns (hb hby d4_26) hr9
  · show Qi4 Z a1 a2 h0 n0 _ T7.heap _
    rw [e7]
    exact ⟨rfl, N7, ((((Keep.refl h0 [a1]).ext E2).wr W4 (Or.inl (List.mem_singleton.mpr rfl))).ext E5).wr W7 (Or.inl (List.mem_singleton.mpr rfl)), b2, _, E1_7, F1_7, C1_7, K2__7⟩
  · show CHr Z own_EL s.vm s.heap T7.vm T7.heap
    rw [e7]
    rw [hh]
    exact CR7.trans (CHv.at X7 hZ5 hEL CH7)

theorem pd_i1 : parseMethodDescriptor "([C)V" = some ⟨[(.array .char)], none⟩ := by decide +kernel

theorem ef_i1 (m : MethodId) (x0 : Addr) (x1 : Addr)  : entryFrame m #[(.ref x0), (.ref x1)] 2 = mkF m 0 #[.val (.ref x0), .val (.ref x1)] [] := by first | (simp [entryFrame, mkF, argsToLocals, Value.category]; done) | rfl
def Qi1 (Z : State) (a1 a2 : Addr) (k2 : ClassId) (h0 : Heap) (n0 : Nat) (v : Option Value) (h : Heap) (L : List Loc) : Prop := v = none ∧ Fr n0 L ∧ Keep h0 h [a1] ∧ own_str Z h a1 []
set_option maxRecDepth 65536 in
set_option maxHeartbeats 40000000 in
theorem rmi1 (l : Launch) (Z : State) (a0 : Array Value) (hw : ∀ d ∈ tables_1, d.before a0 Z = true) (ws : List Jvm.Cond) (a1 a2 : Addr) (k2 : ClassId) (h0 : Heap) (n0 : Nat) (Z0 : n0 ≤ h0.size) (F1 : Fld Z h0 a1 "java/lang/String" "value" "[B" .null) (C1 : Fld Z h0 a1 "java/lang/String" "coder" "B" (.int 0)) (E1 : Exa Z h0 a1 "java/lang/String") (g1 : n0 ≤ a1) (A2 : Arv Z h0 a2 k2 .char (0 : Int32) [] (.int 0)) :
    MetFree l (⟨"java/lang/String", "<init>", "([C)V"⟩ : MethodName) (head1 (Jvm.Cond.code (⟨"java/lang/String", "<init>", "([C)V"⟩ : MethodName) jdk_42_method_3_code 2 none :: ws) ({ frames := 2, cells := 4, slots := 8, locals := 30 } : Room)) (fun a U => a = #[(.ref a1), (.ref a2)] ∧ Z.Warmed39 U.vm ∧ U.heap = h0 ∧ CHv Z own_EL U.vm h0) (fun _ _ _ _ _ => True) (fun _ U o U' => ∃ v L, o = .returned v ∧ Qi1 Z a1 a2 k2 h0 n0 v U'.heap L ∧ CHr Z own_EL U.vm U.heap U'.vm U'.heap ∧ ReturnedEndW U o U' L ({ frames := 2, cells := 4, slots := 8, locals := 30 } : Room).cells ({ frames := 2, cells := 4, slots := 8, locals := 30 } : Room).slots) := by
  refine MetFree.of_bodySF (plainFor_of_name pn_k2) hisR ?_
  intro p e s m args below meth c s₁ Bd hml0 hP hK
  obtain ⟨rfl, hZ, hh, hCH⟩ := hP
  have hx := Bd.exec
  have hby := Bd.bytes
  have hml : c.maxLocals = 2 := hml0
  have hown : s.vm.findClass "java/lang/String" = some m.cls := findClass_of_methodNamed Bd.named
  have hnm := (name_of_methodNamed Bd.named Bd.method).1
  have X0 : Stand p l e ({ frames := 2, cells := 4, slots := 8, locals := 30 } : Room) (s.setVm s.vm) m #[(.ref a1), (.ref a2)] below meth c s₁ [] 0 0 := Stand.of_body Bd
  have e0 : s₁.heap = h0 := by rw [← hh, Bd.state]; rfl
  have N0 := Fr.nil n0
  have hZ0 : Z.Warmed39 (s.setVm s.vm).vm := hZ
  have ho0 : (s.setVm s.vm).vm.findClass "java/lang/String" = some m.cls := hown
  have hS0 : s.Since s.vm h0.size := (State.WarmedH.refl s).since _
  have hEL : EW Z a0 own_EL := own_EW hw
  have wS : ∀ a ∈ Bundle.stringAtoms, a.before a0 Z = true := fun d hd => hw d ((by decide +kernel : ∀ d ∈ Bundle.stringAtoms, d ∈ tables_1) d hd)
  have pre0 : ∀ t, Steps p.tables e below (s₁.setTop (mkF m 0 #[.val (.ref a1), .val (.ref a2)] [])) t → Steps p.tables e below (s₁.setTop (entryFrame m #[(.ref a1), (.ref a2)] 2)) t := fun t k => castTop (ef_i1 m a1 a2) k
  have Vc1 := A2
  obtain ⟨cl1, Ar1, qq1, sz1, nn1, Ha1, Gf1⟩ := Vc1
  obtain ⟨_, _, ⟨T2, L2, k2, n2⟩, -, Y2, hSq2, hgq2, ⟨Lc2, hQ2, l2, y2, z2, CQ2⟩, st2⟩ := X0.specialBackS hx (y := (⟨"java/lang/String", "<init>", "([CIILjava/lang/Void;)V"⟩ : MethodName)) rfl ho0 (mvT hZ0 (wd15 hw)) (mvT hZ0 (wd16 hw)) (mvT hZ0 (wd18 hw)) (by decide) (backOfSH (W := 0) (rmi4 l Z a0 hw [] a1 a2 h0 n0 Z0 F1 C1 E1 g1) hZ0 (wd18 hw) (wd10 hw) (by decide) (by decide) hEL hCH) (g := (mkF m 6 #[.val (.ref a1), .val (.ref a2)] [.null, (.int (0 : Int32)), (.int (0 : Int32)), (.ref a2), (.ref a1)])) rfl (by rw [hml]; rfl) (Steps.refl _) (a := a1) (argsL := [(.ref a2), (.int (0 : Int32)), (.int (0 : Int32)), .null]) (rest := []) (lenOf pd_i4 rfl) rfl (by show 2 * 0 + _ ≤ _; exact Nat.le_of_eq rfl) (hb hby d3_6) (fun _ _ => ⟨rfl, e0, (by decide : 0 + 4 ≤ _), (by decide : 0 + 8 ≤ _)⟩)
  dsimp only [Pt.U, Pt.locs, Pt.cells, Pt.slots] at Y2 hSq2 hgq2 l2 y2 z2 st2 hQ2 CQ2
  subst l2 y2 z2
  obtain ⟨X2, hS2, hZ2, ho2⟩ := rebS hS0 (by first | exact (Nat.le_refl _) | (rw [e0]; exact (Nat.le_refl _))) Y2 hSq2 hgq2 hZ0 ho0
  obtain ⟨rfl, N2q, Kp2, S2⟩ := hQ2
  have N2 := Fr.app N0 N2q
  have CR2 := (CHr.refl hCH).trans CQ2
  have CH2 := CQ2.1
  have pre3 : ∀ t, Steps p.tables e below (T2.setTop (mkF m 9 #[.val (.ref a1), .val (.ref a2)] [])) t → Steps p.tables e below (s₁.setTop (entryFrame m #[(.ref a1), (.ref a2)] 2)) t := fun t k => pre0 t (by
    show Steps p.tables e below (s₁.setTop (mkF m 0 #[.val (.ref a1), .val (.ref a2)] [])) _
    refine XS.aloadN X0.here hx rfl (hb hby d3_0) rfl rfl ?_
    refine XS.aloadN X0.here hx rfl (hb hby d3_1) rfl rfl ?_
    refine XS.iconst X0.here hx rfl (hb hby d3_2) ?_
    refine XS.aloadN X0.here hx rfl (hb hby d3_3) rfl rfl ?_
    refine X0.arraylength hx (by rw [e0]; exact Ar1.1) (State.isArrayOf_alike hZ0.alike Ar1.2.1) (g := (mkF m 4 #[.val (.ref a1), .val (.ref a2)] [(.ref a2), (.int (0 : Int32)), (.ref a2), (.ref a1)])) rfl rfl (hb hby d3_4) _ ?_
    rw [len_of sz1 nn1]
    refine XS.aconstNull X0.here hx rfl (hb hby d3_5) ?_
    refine st2.trans ?_
    exact k)
  obtain ⟨fs4, hr4, hrun4, hended4, hE4⟩ := X2.leaveW hS2 (by first | exact (Nat.le_refl _) | (rw [rfl]; exact (Nat.le_refl _))) (v := none) (fun _ => rfl)
  refine ⟨_, _, pre3 _ ?_, hrun4, hended4, _, _, rfl, ?_, ?_, hE4.1, hE4.2.1, hE4.2.2.1, hE4.2.2.2.mono (by decide) (by decide)⟩
  · show Steps p.tables e below (T2.setTop (mkF m 9 #[.val (.ref a1), .val (.ref a2)] [])) _
    exact X2.returnOut hx Bd.returns (hb hby d3_9) hr4
  · show Qi1 Z a1 a2 k2 h0 n0 _ T2.heap _
    exact ⟨rfl, N2, Kp2, S2⟩
  · show CHr Z own_EL s.vm s.heap T2.vm T2.heap
    rw [hh]
    exact CR2.trans (CHv.at X2 hZ2 hEL CH2)

theorem pd_mk0 : parseMethodDescriptor "(ICCCCC)Ljava/lang/String;" = some ⟨[.int, .char, .char, .char, .char, .char], some (.object "java/lang/String")⟩ := by decide +kernel

theorem ef_mk0 (m : MethodId) (x0 : Int32) (x1 : Int32) (x2 : Int32) (x3 : Int32) (x4 : Int32) (x5 : Int32)  : entryFrame m #[(.int x0), (.int x1), (.int x2), (.int x3), (.int x4), (.int x5)] 6 = mkF m 0 #[.val (.int x0), .val (.int x1), .val (.int x2), .val (.int x3), .val (.int x4), .val (.int x5)] [] := by first | (simp [entryFrame, mkF, argsToLocals, Value.category]; done) | rfl
def Qmk0 (Z : State) (p0 d1 d2 d3 d4 d5 : Int32) (h0 : Heap) (n0 : Nat) (v : Option Value) (h : Heap) (L : List Loc) : Prop := ∃ y, v = some (.ref y) ∧ Fr n0 L ∧ Ext h0 h ∧ own_str Z h y []
set_option maxRecDepth 65536 in
set_option maxHeartbeats 40000000 in
theorem rmmk0 (l : Launch) (Z : State) (a0 : Array Value) (hw : ∀ d ∈ tables_1, d.before a0 Z = true) (ws : List Jvm.Cond) (p0 d1 d2 d3 d4 d5 : Int32) (h0 : Heap) (n0 : Nat) (Z0 : n0 ≤ h0.size) (hn : p0 = (0 : Int32)) :
    MetFree l (⟨"com/example/oxpecker/oxpecker/MessageTemplateSoleParameterPinLaw", "make", "(ICCCCC)Ljava/lang/String;"⟩ : MethodName) (head1 (Jvm.Cond.code (⟨"com/example/oxpecker/oxpecker/MessageTemplateSoleParameterPinLaw", "make", "(ICCCCC)Ljava/lang/String;"⟩ : MethodName) method_4_code 6 (some (.object "java/lang/String")) :: ws) ({ frames := 3, cells := 6, slots := 12, locals := 48 } : Room)) (fun a U => a = #[(.int p0), (.int d1), (.int d2), (.int d3), (.int d4), (.int d5)] ∧ Z.Warmed39 U.vm ∧ U.heap = h0 ∧ CHv Z own_EL U.vm h0) (fun _ _ _ _ _ => True) (fun _ U o U' => ∃ v L, o = .returned v ∧ Qmk0 Z p0 d1 d2 d3 d4 d5 h0 n0 v U'.heap L ∧ CHr Z own_EL U.vm U.heap U'.vm U'.heap ∧ ReturnedEndW U o U' L ({ frames := 3, cells := 6, slots := 12, locals := 48 } : Room).cells ({ frames := 3, cells := 6, slots := 12, locals := 48 } : Room).slots) := by
  refine MetFree.of_bodySF (plainFor_of_name pn_k0) hisR ?_
  intro p e s m args below meth c s₁ Bd hml0 hP hK
  obtain ⟨rfl, hZ, hh, hCH⟩ := hP
  have hx := Bd.exec
  have hby := Bd.bytes
  have hml : c.maxLocals = 6 := hml0
  have hown : s.vm.findClass "com/example/oxpecker/oxpecker/MessageTemplateSoleParameterPinLaw" = some m.cls := findClass_of_methodNamed Bd.named
  have hnm := (name_of_methodNamed Bd.named Bd.method).1
  have X0 : Stand p l e ({ frames := 3, cells := 6, slots := 12, locals := 48 } : Room) (s.setVm s.vm) m #[(.int p0), (.int d1), (.int d2), (.int d3), (.int d4), (.int d5)] below meth c s₁ [] 0 0 := Stand.of_body Bd
  have e0 : s₁.heap = h0 := by rw [← hh, Bd.state]; rfl
  have N0 := Fr.nil n0
  have hZ0 : Z.Warmed39 (s.setVm s.vm).vm := hZ
  have ho0 : (s.setVm s.vm).vm.findClass "com/example/oxpecker/oxpecker/MessageTemplateSoleParameterPinLaw" = some m.cls := hown
  have hS0 : s.Since s.vm h0.size := (State.WarmedH.refl s).since _
  have hEL : EW Z a0 own_EL := own_EW hw
  have wS : ∀ a ∈ Bundle.stringAtoms, a.before a0 Z = true := fun d hd => hw d ((by decide +kernel : ∀ d ∈ Bundle.stringAtoms, d ∈ tables_1) d hd)
  have pre0 : ∀ t, Steps p.tables e below (s₁.setTop (mkF m 0 #[.val (.int p0), .val (.int d1), .val (.int d2), .val (.int d3), .val (.int d4), .val (.int d5)] [])) t → Steps p.tables e below (s₁.setTop (entryFrame m #[(.int p0), (.int d1), (.int d2), (.int d3), (.int d4), (.int d5)] 6)) t := fun t k => castTop (ef_mk0 m p0 d1 d2 d3 d4 d5) k
  obtain ⟨T1, h1, X1, e1, E1, A1, D1, -, st1⟩ := newO X0 hx hZ0 ho0 (wd8 hw) (wd9 hw) (wd10 hw) e0 (g := (mkF m 4 #[.val (.int p0), .val (.int d1), .val (.int d2), .val (.int d3), .val (.int d4), .val (.int d5)] [])) rfl (hb hby d2_4) (by decide) (by decide)
  obtain ⟨b1, gb1⟩ : ∃ z, z = h0.size := ⟨_, rfl⟩
  rw [← gb1] at A1 D1 st1
  have gn1 : n0 ≤ b1 := Nat.le_trans Z0 (Nat.le_of_eq gb1.symm)
  have sz1_b : h0.size ≤ b1 := Nat.le_trans (Keep.refl h0 []).1 (Nat.le_of_eq gb1.symm)
  have K1 := (Keep.refl h0 []).ext E1
  have CR1 := (CHr.refl hCH).trans (CHr.ext E1 hCH)
  have CH1 := CHv.ext E1 hCH
  have F_value_b1 : Fld Z h1 b1 "java/lang/String" "value" "[B" .null := D1 (Or.inr (wd24 hw)) (ty := (.array .byte)) (by decide)
  have F_coder_b1 : Fld Z h1 b1 "java/lang/String" "coder" "B" (.int (0 : Int32)) := D1 (Or.inr (wd25 hw)) (ty := .byte) (by decide)
  obtain ⟨T2, h2, k2, X2, e2, E2, A2, st2⟩ := newP (aty := .char) X1 hx hZ0 (wd11 hw) e1 (g := (mkF m 9 #[.val (.int p0), .val (.int d1), .val (.int d2), .val (.int d3), .val (.int d4), .val (.int d5)] [(.int (0 : Int32)), (.ref b1), (.ref b1)])) rfl (hb hby d2_9) rfl (by decide) (cap := 0) (by decide) (by decide) (by decide) (by decide)
  obtain ⟨b2, gb2⟩ : ∃ z, z = h1.size := ⟨_, rfl⟩
  rw [← gb2] at A2 st2
  have gn2 : n0 ≤ b2 := Nat.le_trans (Nat.le_trans Z0 E1.1) (Nat.le_of_eq gb2.symm)
  have sz2_b : h0.size ≤ b2 := Nat.le_trans K1.1 (Nat.le_of_eq gb2.symm)
  have ne_b1_b2 : b1 ≠ b2 := Nat.ne_of_lt (Nat.lt_of_lt_of_le A1.lt (Nat.le_of_eq gb2.symm))
  have A1_2 := A1.ext E2
  have F_value_b1_2 := F_value_b1.ext E2
  have F_coder_b1_2 := F_coder_b1.ext E2
  have K2 := K1.ext E2
  have CR2 := CR1.trans (CHr.ext E2 CH1)
  have CH2 := CHv.ext E2 CH1
  have V2 : Arv Z h2 b2 k2 .char (0 : Int32) [] (.int (0 : Int32)) := (Arv.new A2 (by decide)).pad (pad_rep [] (.int (0 : Int32)) 0)
  obtain ⟨_, _, ⟨T3, L3, k3, n3⟩, -, Y3, hSq3, hgq3, ⟨Lc3, hQ3, l3, y3, z3, CQ3⟩, st3⟩ := X2.specialBackS hx (y := (⟨"java/lang/String", "<init>", "([C)V"⟩ : MethodName)) rfl ho0 (mvT hZ0 (wd12 hw)) (mvT hZ0 (wd13 hw)) (mvT hZ0 (wd14 hw)) (by decide) (backOfSH (W := 1) (rmi1 l Z a0 hw [] b1 b2 k2 h2 n0 (Nat.le_trans (Nat.le_trans Z0 E1.1) E2.1) F_value_b1_2 F_coder_b1_2 A1_2 gn1 V2) hZ0 (wd14 hw) (wd10 hw) (by decide) (by decide) hEL CH2) (g := (mkF m 11 #[.val (.int p0), .val (.int d1), .val (.int d2), .val (.int d3), .val (.int d4), .val (.int d5)] [(.ref b2), (.ref b1), (.ref b1)])) rfl (by rw [hml]; rfl) (Steps.refl _) (a := b1) (argsL := [(.ref b2)]) (rest := [(.ref b1)]) (lenOf pd_i1 rfl) rfl (by show 2 * 0 + _ ≤ _; exact Nat.le_of_eq rfl) (hb hby d2_11) (fun _ _ => ⟨rfl, e2, (by decide : 2 + 4 ≤ _), (by decide : 4 + 8 ≤ _)⟩)
  dsimp only [Pt.U, Pt.locs, Pt.cells, Pt.slots] at Y3 hSq3 hgq3 l3 y3 z3 st3 hQ3 CQ3
  subst l3 y3 z3
  obtain ⟨X3, hS3, hZ3, ho3⟩ := rebS hS0 (by first | exact (Nat.le_trans (Nat.le_trans (Nat.le_refl _) E1.1) E2.1) | (rw [e2]; exact (Nat.le_trans (Nat.le_trans (Nat.le_refl _) E1.1) E2.1))) Y3 hSq3 hgq3 hZ0 ho0
  obtain ⟨rfl, N3q, Kp3, S3⟩ := hQ3
  have N3 := Fr.app N0 N3q
  have CR3 := CR2.trans CQ3
  have CH3 := CQ3.1
  have Kz := K2.trans Kp3 (fun x hx => by cases List.mem_singleton.mp hx; exact Or.inr sz1_b)
  have pre4 : ∀ t, Steps p.tables e below (T3.setTop (mkF m 14 #[.val (.int p0), .val (.int d1), .val (.int d2), .val (.int d3), .val (.int d4), .val (.int d5)] [(.ref b1)])) t → Steps p.tables e below (s₁.setTop (entryFrame m #[(.int p0), (.int d1), (.int d2), (.int d3), (.int d4), (.int d5)] 6)) t := fun t k => pre0 t (by
    show Steps p.tables e below (s₁.setTop (mkF m 0 #[.val (.int p0), .val (.int d1), .val (.int d2), .val (.int d3), .val (.int d4), .val (.int d5)] [])) _
    refine XS.iloadN X0.here hx rfl (hb hby d2_0) rfl ?_
    refine XS.ifNo X0.here hx rfl (hb hby d2_1) rfl ((if0 _ _).trans (teq hn).2) ?_
    refine st1 _ ?_
    refine XS.dup X1.here hx rfl (hb hby d2_7) rfl rfl ?_
    refine XS.iconst X1.here hx rfl (hb hby d2_8) ?_
    refine st2 _ ?_
    refine st3.trans ?_
    exact k)
  obtain ⟨fs5, hr5, hrun5, hended5, hE5⟩ := X3.leaveW hS3 (by first | exact (Nat.le_refl _) | (rw [rfl]; exact (Nat.le_refl _))) (v := some (.ref b1)) (fun h => by rw [Bd.returns] at h; cases h)
  refine ⟨_, _, pre4 _ ?_, hrun5, hended5, _, _, rfl, ?_, ?_, hE5.1, hE5.2.1, hE5.2.2.1, hE5.2.2.2.mono (by decide) (by decide)⟩
  · show Steps p.tables e below (T3.setTop (mkF m 14 #[.val (.int p0), .val (.int d1), .val (.int d2), .val (.int d3), .val (.int d4), .val (.int d5)] [(.ref b1)])) _
    exact retOut X3 hx (t := (.object "java/lang/String")) Bd.returns rfl (Or.inr (Or.inr (Or.inr (Or.inr ⟨rfl, rfl, rfl⟩)))) (hb hby d2_14) hr5
  · show Qmk0 Z p0 d1 d2 d3 d4 d5 h0 n0 _ T3.heap _
    exact ⟨_, rfl, N3, own_ext Kz, S3⟩
  · show CHr Z own_EL s.vm s.heap T3.vm T3.heap
    rw [hh]
    exact CR3.trans (CHv.at X3 hZ3 hEL CH3)

theorem own_n6 (x : Int32) : ((x &&& (2147483647 : Int32)) % (6 : Int32)) = 0 ∨ ((x &&& (2147483647 : Int32)) % (6 : Int32)) = 1 ∨ ((x &&& (2147483647 : Int32)) % (6 : Int32)) = 2 ∨ ((x &&& (2147483647 : Int32)) % (6 : Int32)) = 3 ∨ ((x &&& (2147483647 : Int32)) % (6 : Int32)) = 4 ∨ ((x &&& (2147483647 : Int32)) % (6 : Int32)) = 5 := by
  have h1 := c_mask x 2147483647 31 (by decide) (by decide)
  have h2 := (c_irem (x &&& (2147483647 : Int32)) 6 6 (by decide)).1
  generalize (x &&& (2147483647 : Int32)) = y at h1 h2 ⊢
  have h3 := h2 (by omega)
  generalize y % (6 : Int32) = r at h3 ⊢
  rcases (by omega : r.toInt = 0 ∨ r.toInt = 1 ∨ r.toInt = 2 ∨ r.toInt = 3 ∨ r.toInt = 4 ∨ r.toInt = 5) with h | h | h | h | h | h
  · have e : r = 0 := Int32.toInt_inj.mp (h.trans rfl)
    subst e; decide
  · have e : r = 1 := Int32.toInt_inj.mp (h.trans rfl)
    subst e; decide
  · have e : r = 2 := Int32.toInt_inj.mp (h.trans rfl)
    subst e; decide
  · have e : r = 3 := Int32.toInt_inj.mp (h.trans rfl)
    subst e; decide
  · have e : r = 4 := Int32.toInt_inj.mp (h.trans rfl)
    subst e; decide
  · have e : r = 5 := Int32.toInt_inj.mp (h.trans rfl)
    subst e; decide
theorem pd_0 : parseMethodDescriptor "(IIIIII)Z" = some ⟨[.int, .int, .int, .int, .int, .int], some .boolean⟩ := by decide +kernel

theorem ef_0 (m : MethodId) (x0 : Int32) (x1 : Int32) (x2 : Int32) (x3 : Int32) (x4 : Int32) (x5 : Int32)  : entryFrame m #[(.int x0), (.int x1), (.int x2), (.int x3), (.int x4), (.int x5)] maxLocals = mkF m 0 #[.val (.int x0), .val (.int x1), .val (.int x2), .val (.int x3), .val (.int x4), .val (.int x5), .unset, .unset, .unset, .unset, .unset, .unset, .unset, .unset, .unset, .unset, .unset] [] := by first | (simp [entryFrame, mkF, argsToLocals, Value.category, maxLocals]; done) | rfl
def Q0 (Z : State) (p1 p2 p3 p4 p5 p6 : Int32) (h0 : Heap) (n0 : Nat) (v : Option Value) (h : Heap) (L : List Loc) : Prop := v = some (.int (1 : Int32)) ∧ Fr n0 L
set_option maxRecDepth 65536 in
set_option maxHeartbeats 40000000 in
theorem rm0 (l : Launch) (Z : State) (a0 : Array Value) (hw : ∀ d ∈ tables_1, d.before a0 Z = true) (ws : List Jvm.Cond) (p1 p2 p3 p4 p5 p6 : Int32) (h0 : Heap) (n0 : Nat) (Z0 : n0 ≤ h0.size) (EN : own_env Z h0) :
    MetFree l x (head1 (Jvm.Cond.code x code maxLocals ret :: ws) room_1) (fun a U => a = #[(.int p1), (.int p2), (.int p3), (.int p4), (.int p5), (.int p6)] ∧ Z.Warmed39 U.vm ∧ U.heap = h0 ∧ CHv Z own_EL U.vm h0) (fun _ _ _ _ _ => True) (fun _ U o U' => ∃ v L, o = .returned v ∧ Q0 Z p1 p2 p3 p4 p5 p6 h0 n0 v U'.heap L ∧ CHr Z own_EL U.vm U.heap U'.vm U'.heap ∧ ReturnedEndW U o U' L room_1.cells room_1.slots) := by
  refine MetFree.of_bodySF (plainFor_of_name pn_k0) hisR ?_
  intro p e s m args below meth c s₁ Bd hml0 hP hK
  obtain ⟨rfl, hZ, hh, hCH⟩ := hP
  have hx := Bd.exec
  have hby := Bd.bytes
  have hml : c.maxLocals = 17 := hml0
  have hown : s.vm.findClass "com/example/oxpecker/oxpecker/MessageTemplateSoleParameterPinLaw" = some m.cls := findClass_of_methodNamed Bd.named
  have hnm := (name_of_methodNamed Bd.named Bd.method).1
  have X0 : Stand p l e room_1 (s.setVm s.vm) m #[(.int p1), (.int p2), (.int p3), (.int p4), (.int p5), (.int p6)] below meth c s₁ [] 0 0 := Stand.of_body Bd
  have e0 : s₁.heap = h0 := by rw [← hh, Bd.state]; rfl
  have N0 := Fr.nil n0
  have hZ0 : Z.Warmed39 (s.setVm s.vm).vm := hZ
  have ho0 : (s.setVm s.vm).vm.findClass "com/example/oxpecker/oxpecker/MessageTemplateSoleParameterPinLaw" = some m.cls := hown
  have hS0 : s.Since s.vm h0.size := (State.WarmedH.refl s).since _
  have hEL : EW Z a0 own_EL := own_EW hw
  have wS : ∀ a ∈ Bundle.stringAtoms, a.before a0 Z = true := fun d hd => hw d ((by decide +kernel : ∀ d ∈ Bundle.stringAtoms, d ∈ tables_1) d hd)
  have pre0 : ∀ t, Steps p.tables e below (s₁.setTop (mkF m 0 #[.val (.int p1), .val (.int p2), .val (.int p3), .val (.int p4), .val (.int p5), .val (.int p6), .unset, .unset, .unset, .unset, .unset, .unset, .unset, .unset, .unset, .unset, .unset] [])) t → Steps p.tables e below (s₁.setTop (entryFrame m #[(.int p1), (.int p2), (.int p3), (.int p4), (.int p5), (.int p6)] maxLocals)) t := fun t k => castTop (ef_0 m p1 p2 p3 p4 p5 p6) k
  have heq : ∀ d ∈ StrChars.Road.wordsEq, d.before a0 Z = true := fun d hd => hw d ((by decide +kernel : ∀ d ∈ StrChars.Road.wordsEq, d ∈ tables_1) d hd)
  obtain ⟨_, _, ⟨T1, L1, k1, n1⟩, -, X1, ⟨Lc1, hQ1, l1, y1, z1⟩, st1⟩ := Jvm.LawKit.callS X0 hx (y := (⟨"com/example/oxpecker/oxpecker/MessageTemplateSoleParameterPinLaw", "ch", "(I)C"⟩ : MethodName)) ho0 (mvT hZ0 (wd1 hw)) (mvT hZ0 (wd2 hw)) (mvT hZ0 (wd3 hw)) (mvT hZ0 (wd4 hw)) (by decide) (backOf (W := 0) (rmch l Z a0 hw [] p2 h0 n0 Z0) hZ0 (wd4 hw) (wd3 hw) (by decide) (by decide)) (g := (mkF m 10 #[.val (.int p1), .val (.int p2), .val (.int p3), .val (.int p4), .val (.int p5), .val (.int p6), .val (.int ((p1 &&& (2147483647 : Int32)) % (6 : Int32))), .unset, .unset, .unset, .unset, .unset, .unset, .unset, .unset, .unset, .unset] [(.int p2)])) rfl (by rw [hml]; rfl) (argsL := [(.int p2)]) (rest := []) (lenOf pd_ch rfl) rfl (by show 2 * 0 + _ ≤ _; exact Nat.le_of_eq rfl) (hb hby at_10) (fun _ _ => ⟨rfl, e0, (by decide : 0 + 0 ≤ _), (by decide : 0 + 0 ≤ _)⟩)
  dsimp only [Pt.U, Pt.locs, Pt.cells, Pt.slots] at X1 l1 y1 z1 st1 hQ1
  subst l1 y1 z1
  obtain ⟨rfl, N1q, q1⟩ := hQ1
  have N1 := Fr.app N0 N1q
  obtain ⟨_, _, ⟨T2, L2, k2, n2⟩, -, X2, ⟨Lc2, hQ2, l2, y2, z2⟩, st2⟩ := Jvm.LawKit.callS X1 hx (y := (⟨"com/example/oxpecker/oxpecker/MessageTemplateSoleParameterPinLaw", "ch", "(I)C"⟩ : MethodName)) ho0 (mvT hZ0 (wd1 hw)) (mvT hZ0 (wd2 hw)) (mvT hZ0 (wd3 hw)) (mvT hZ0 (wd4 hw)) (by decide) (backOf (W := 0) (rmch l Z a0 hw [] p3 h0 n0 Z0) hZ0 (wd4 hw) (wd3 hw) (by decide) (by decide)) (g := (mkF m 16 #[.val (.int p1), .val (.int p2), .val (.int p3), .val (.int p4), .val (.int p5), .val (.int p6), .val (.int ((p1 &&& (2147483647 : Int32)) % (6 : Int32))), .val (.int (own_ch p2)), .unset, .unset, .unset, .unset, .unset, .unset, .unset, .unset, .unset] [(.int p3)])) rfl (by rw [hml]; rfl) (argsL := [(.int p3)]) (rest := []) (lenOf pd_ch rfl) rfl (by show 2 * 0 + _ ≤ _; exact Nat.le_of_eq rfl) (hb hby at_16) (fun _ _ => ⟨rfl, q1, (by decide : 0 + 0 ≤ _), (by decide : 0 + 0 ≤ _)⟩)
  dsimp only [Pt.U, Pt.locs, Pt.cells, Pt.slots] at X2 l2 y2 z2 st2 hQ2
  subst l2 y2 z2
  obtain ⟨rfl, N2q, q2⟩ := hQ2
  have N2 := Fr.app N1 N2q
  obtain ⟨_, _, ⟨T3, L3, k3, n3⟩, -, X3, ⟨Lc3, hQ3, l3, y3, z3⟩, st3⟩ := Jvm.LawKit.callS X2 hx (y := (⟨"com/example/oxpecker/oxpecker/MessageTemplateSoleParameterPinLaw", "ch", "(I)C"⟩ : MethodName)) ho0 (mvT hZ0 (wd1 hw)) (mvT hZ0 (wd2 hw)) (mvT hZ0 (wd3 hw)) (mvT hZ0 (wd4 hw)) (by decide) (backOf (W := 0) (rmch l Z a0 hw [] p4 h0 n0 Z0) hZ0 (wd4 hw) (wd3 hw) (by decide) (by decide)) (g := (mkF m 22 #[.val (.int p1), .val (.int p2), .val (.int p3), .val (.int p4), .val (.int p5), .val (.int p6), .val (.int ((p1 &&& (2147483647 : Int32)) % (6 : Int32))), .val (.int (own_ch p2)), .val (.int (own_ch p3)), .unset, .unset, .unset, .unset, .unset, .unset, .unset, .unset] [(.int p4)])) rfl (by rw [hml]; rfl) (argsL := [(.int p4)]) (rest := []) (lenOf pd_ch rfl) rfl (by show 2 * 0 + _ ≤ _; exact Nat.le_of_eq rfl) (hb hby at_22) (fun _ _ => ⟨rfl, q2, (by decide : 0 + 0 ≤ _), (by decide : 0 + 0 ≤ _)⟩)
  dsimp only [Pt.U, Pt.locs, Pt.cells, Pt.slots] at X3 l3 y3 z3 st3 hQ3
  subst l3 y3 z3
  obtain ⟨rfl, N3q, q3⟩ := hQ3
  have N3 := Fr.app N2 N3q
  obtain ⟨_, _, ⟨T4, L4, k4, n4⟩, -, X4, ⟨Lc4, hQ4, l4, y4, z4⟩, st4⟩ := Jvm.LawKit.callS X3 hx (y := (⟨"com/example/oxpecker/oxpecker/MessageTemplateSoleParameterPinLaw", "ch", "(I)C"⟩ : MethodName)) ho0 (mvT hZ0 (wd1 hw)) (mvT hZ0 (wd2 hw)) (mvT hZ0 (wd3 hw)) (mvT hZ0 (wd4 hw)) (by decide) (backOf (W := 0) (rmch l Z a0 hw [] p5 h0 n0 Z0) hZ0 (wd4 hw) (wd3 hw) (by decide) (by decide)) (g := (mkF m 29 #[.val (.int p1), .val (.int p2), .val (.int p3), .val (.int p4), .val (.int p5), .val (.int p6), .val (.int ((p1 &&& (2147483647 : Int32)) % (6 : Int32))), .val (.int (own_ch p2)), .val (.int (own_ch p3)), .val (.int (own_ch p4)), .unset, .unset, .unset, .unset, .unset, .unset, .unset] [(.int p5)])) rfl (by rw [hml]; rfl) (argsL := [(.int p5)]) (rest := []) (lenOf pd_ch rfl) rfl (by show 2 * 0 + _ ≤ _; exact Nat.le_of_eq rfl) (hb hby at_29) (fun _ _ => ⟨rfl, q3, (by decide : 0 + 0 ≤ _), (by decide : 0 + 0 ≤ _)⟩)
  dsimp only [Pt.U, Pt.locs, Pt.cells, Pt.slots] at X4 l4 y4 z4 st4 hQ4
  subst l4 y4 z4
  obtain ⟨rfl, N4q, q4⟩ := hQ4
  have N4 := Fr.app N3 N4q
  obtain ⟨_, _, ⟨T5, L5, k5, n5⟩, -, X5, ⟨Lc5, hQ5, l5, y5, z5⟩, st5⟩ := Jvm.LawKit.callS X4 hx (y := (⟨"com/example/oxpecker/oxpecker/MessageTemplateSoleParameterPinLaw", "ch", "(I)C"⟩ : MethodName)) ho0 (mvT hZ0 (wd1 hw)) (mvT hZ0 (wd2 hw)) (mvT hZ0 (wd3 hw)) (mvT hZ0 (wd4 hw)) (by decide) (backOf (W := 0) (rmch l Z a0 hw [] p6 h0 n0 Z0) hZ0 (wd4 hw) (wd3 hw) (by decide) (by decide)) (g := (mkF m 36 #[.val (.int p1), .val (.int p2), .val (.int p3), .val (.int p4), .val (.int p5), .val (.int p6), .val (.int ((p1 &&& (2147483647 : Int32)) % (6 : Int32))), .val (.int (own_ch p2)), .val (.int (own_ch p3)), .val (.int (own_ch p4)), .val (.int (own_ch p5)), .unset, .unset, .unset, .unset, .unset, .unset] [(.int p6)])) rfl (by rw [hml]; rfl) (argsL := [(.int p6)]) (rest := []) (lenOf pd_ch rfl) rfl (by show 2 * 0 + _ ≤ _; exact Nat.le_of_eq rfl) (hb hby at_36) (fun _ _ => ⟨rfl, q4, (by decide : 0 + 0 ≤ _), (by decide : 0 + 0 ≤ _)⟩)
  dsimp only [Pt.U, Pt.locs, Pt.cells, Pt.slots] at X5 l5 y5 z5 st5 hQ5
  subst l5 y5 z5
  obtain ⟨rfl, N5q, q5⟩ := hQ5
  have N5 := Fr.app N4 N5q
  have pre6 : ∀ t, Steps p.tables e below (T5.setTop (mkF m 53 #[.val (.int p1), .val (.int p2), .val (.int p3), .val (.int p4), .val (.int p5), .val (.int p6), .val (.int ((p1 &&& (2147483647 : Int32)) % (6 : Int32))), .val (.int (own_ch p2)), .val (.int (own_ch p3)), .val (.int (own_ch p4)), .val (.int (own_ch p5)), .val (.int (own_ch p6)), .unset, .unset, .unset, .unset, .unset] [(.int (own_ch p6)), (.int (own_ch p5)), (.int (own_ch p4)), (.int (own_ch p3)), (.int (own_ch p2)), (.int ((p1 &&& (2147483647 : Int32)) % (6 : Int32)))])) t → Steps p.tables e below (s₁.setTop (entryFrame m #[(.int p1), (.int p2), (.int p3), (.int p4), (.int p5), (.int p6)] maxLocals)) t := fun t k => pre0 t (by
    show Steps p.tables e below (s₁.setTop (mkF m 0 #[.val (.int p1), .val (.int p2), .val (.int p3), .val (.int p4), .val (.int p5), .val (.int p6), .unset, .unset, .unset, .unset, .unset, .unset, .unset, .unset, .unset, .unset, .unset] [])) _
    refine XS.iloadN X0.here hx rfl (hb hby at_0) rfl ?_
    refine X0.ldcI hx ho0 (mvT hZ0 (wd0 hw)) (g := (mkF m 1 #[.val (.int p1), .val (.int p2), .val (.int p3), .val (.int p4), .val (.int p5), .val (.int p6), .unset, .unset, .unset, .unset, .unset, .unset, .unset, .unset, .unset, .unset, .unset] [(.int p1)])) rfl (hb hby at_1) ?_
    refine XS.iand X0.here hx rfl (hb hby at_3) rfl ?_
    refine XS.bipush X0.here hx rfl (hb hby at_4) ?_
    refine iremM (g := (mkF m 6 #[.val (.int p1), .val (.int p2), .val (.int p3), .val (.int p4), .val (.int p5), .val (.int p6), .unset, .unset, .unset, .unset, .unset, .unset, .unset, .unset, .unset, .unset, .unset] [(.int (6 : Int32)), (.int (p1 &&& (2147483647 : Int32)))])) X0 hx rfl (hb hby at_6) rfl (by decide) ?_
    refine XS.istore X0.here hx rfl (hb hby at_7) rfl (l' := #[.val (.int p1), .val (.int p2), .val (.int p3), .val (.int p4), .val (.int p5), .val (.int p6), .val (.int ((p1 &&& (2147483647 : Int32)) % (6 : Int32))), .unset, .unset, .unset, .unset, .unset, .unset, .unset, .unset, .unset, .unset]) rfl ?_
    refine XS.iloadN X0.here hx rfl (hb hby at_9) rfl ?_
    refine st1 _ ?_
    refine XS.istore X1.here hx rfl (hb hby at_13) rfl (l' := #[.val (.int p1), .val (.int p2), .val (.int p3), .val (.int p4), .val (.int p5), .val (.int p6), .val (.int ((p1 &&& (2147483647 : Int32)) % (6 : Int32))), .val (.int (own_ch p2)), .unset, .unset, .unset, .unset, .unset, .unset, .unset, .unset, .unset]) rfl ?_
    refine XS.iloadN X1.here hx rfl (hb hby at_15) rfl ?_
    refine st2 _ ?_
    refine XS.istore X2.here hx rfl (hb hby at_19) rfl (l' := #[.val (.int p1), .val (.int p2), .val (.int p3), .val (.int p4), .val (.int p5), .val (.int p6), .val (.int ((p1 &&& (2147483647 : Int32)) % (6 : Int32))), .val (.int (own_ch p2)), .val (.int (own_ch p3)), .unset, .unset, .unset, .unset, .unset, .unset, .unset, .unset]) rfl ?_
    refine XS.iloadN X2.here hx rfl (hb hby at_21) rfl ?_
    refine st3 _ ?_
    refine XS.istore X3.here hx rfl (hb hby at_25) rfl (l' := #[.val (.int p1), .val (.int p2), .val (.int p3), .val (.int p4), .val (.int p5), .val (.int p6), .val (.int ((p1 &&& (2147483647 : Int32)) % (6 : Int32))), .val (.int (own_ch p2)), .val (.int (own_ch p3)), .val (.int (own_ch p4)), .unset, .unset, .unset, .unset, .unset, .unset, .unset]) rfl ?_
    refine XS.iload X3.here hx rfl (hb hby at_27) rfl ?_
    refine st4 _ ?_
    refine XS.istore X4.here hx rfl (hb hby at_32) rfl (l' := #[.val (.int p1), .val (.int p2), .val (.int p3), .val (.int p4), .val (.int p5), .val (.int p6), .val (.int ((p1 &&& (2147483647 : Int32)) % (6 : Int32))), .val (.int (own_ch p2)), .val (.int (own_ch p3)), .val (.int (own_ch p4)), .val (.int (own_ch p5)), .unset, .unset, .unset, .unset, .unset, .unset]) rfl ?_
    refine XS.iload X4.here hx rfl (hb hby at_34) rfl ?_
    refine st5 _ ?_
    refine XS.istore X5.here hx rfl (hb hby at_39) rfl (l' := #[.val (.int p1), .val (.int p2), .val (.int p3), .val (.int p4), .val (.int p5), .val (.int p6), .val (.int ((p1 &&& (2147483647 : Int32)) % (6 : Int32))), .val (.int (own_ch p2)), .val (.int (own_ch p3)), .val (.int (own_ch p4)), .val (.int (own_ch p5)), .val (.int (own_ch p6)), .unset, .unset, .unset, .unset, .unset]) rfl ?_
    refine XS.iload X5.here hx rfl (hb hby at_41) rfl ?_
    refine XS.iload X5.here hx rfl (hb hby at_43) rfl ?_
    refine XS.iload X5.here hx rfl (hb hby at_45) rfl ?_
    refine XS.iload X5.here hx rfl (hb hby at_47) rfl ?_
    refine XS.iload X5.here hx rfl (hb hby at_49) rfl ?_
    refine XS.iload X5.here hx rfl (hb hby at_51) rfl ?_
    exact k)
  rcases own_n6 p1 with hn | hn | hn | hn | hn | hn
  · obtain ⟨_, _, ⟨T7, L7, k7, n7⟩, -, Y7, hSq7, hgq7, ⟨Lc7, hQ7, l7, y7, z7, CQ7⟩, st7⟩ := callSS X5 hx (y := (⟨"com/example/oxpecker/oxpecker/MessageTemplateSoleParameterPinLaw", "make", "(ICCCCC)Ljava/lang/String;"⟩ : MethodName)) ho0 (mvT hZ0 (wd5 hw)) (mvT hZ0 (wd6 hw)) (mvT hZ0 (wd3 hw)) (mvT hZ0 (wd7 hw)) (by decide) (backOfSH (W := 0) (rmmk0 l Z a0 hw [] ((p1 &&& (2147483647 : Int32)) % (6 : Int32)) (own_ch p2) (own_ch p3) (own_ch p4) (own_ch p5) (own_ch p6) h0 n0 Z0 hn) hZ0 (wd7 hw) (wd3 hw) (by decide) (by decide) hEL hCH) (g := (mkF m 53 #[.val (.int p1), .val (.int p2), .val (.int p3), .val (.int p4), .val (.int p5), .val (.int p6), .val (.int ((p1 &&& (2147483647 : Int32)) % (6 : Int32))), .val (.int (own_ch p2)), .val (.int (own_ch p3)), .val (.int (own_ch p4)), .val (.int (own_ch p5)), .val (.int (own_ch p6)), .unset, .unset, .unset, .unset, .unset] [(.int (own_ch p6)), (.int (own_ch p5)), (.int (own_ch p4)), (.int (own_ch p3)), (.int (own_ch p2)), (.int ((p1 &&& (2147483647 : Int32)) % (6 : Int32)))])) rfl (by rw [hml]; rfl) (argsL := [(.int ((p1 &&& (2147483647 : Int32)) % (6 : Int32))), (.int (own_ch p2)), (.int (own_ch p3)), (.int (own_ch p4)), (.int (own_ch p5)), (.int (own_ch p6))]) (rest := []) (lenOf pd_mk0 rfl) rfl (by show 2 * 0 + _ ≤ _; exact Nat.le_of_eq rfl) (hb hby at_53) (fun _ _ => ⟨rfl, q5, (by decide : 0 + 6 ≤ _), (by decide : 0 + 12 ≤ _)⟩)
    dsimp only [Pt.U, Pt.locs, Pt.cells, Pt.slots] at Y7 hSq7 hgq7 l7 y7 z7 st7 hQ7 CQ7
    subst l7 y7 z7
    obtain ⟨X7, hS7, hZ7, ho7⟩ := rebS hS0 (by first | exact (Nat.le_refl _) | (rw [q5]; exact (Nat.le_refl _))) Y7 hSq7 hgq7 hZ0 ho0
    obtain ⟨x7, rfl, N7q, E7, S7⟩ := hQ7
    have N7 := Fr.app N5 N7q
    have CR7 := (CHr.refl hCH).trans CQ7
    have CH7 := CQ7.1
    have EN_7 := EN.ext E7
    have K7 := (Keep.refl h0 []).ext E7
    obtain ⟨_, _, ⟨T8, L8, k8, n8⟩, -, X8, ⟨Lc8, hQ8, l8, y8, z8⟩, st8⟩ := Jvm.LawKit.callS X7 hx (y := (⟨"com/example/oxpecker/oxpecker/MessageTemplate", "soleParameter", "(Ljava/lang/String;)Ljava/lang/String;"⟩ : MethodName)) ho7 (mvT hZ7 (wd30 hw)) (mvT hZ7 (wd31 hw)) (mvT hZ7 (wd32 hw)) (mvT hZ7 (wd33 hw)) (by decide) (backOf (W := 0) (rmsp0 l Z a0 hw [] x7  T7.heap n0 (Nat.le_trans Z0 E7.1) S7 EN_7 own_p0) hZ7 (wd33 hw) (wd32 hw) (by decide) (by decide)) (g := (mkF m 149 #[.val (.int p1), .val (.int p2), .val (.int p3), .val (.int p4), .val (.int p5), .val (.int p6), .val (.int ((p1 &&& (2147483647 : Int32)) % (6 : Int32))), .val (.int (own_ch p2)), .val (.int (own_ch p3)), .val (.int (own_ch p4)), .val (.int (own_ch p5)), .val (.int (own_ch p6)), .val (.ref x7), .val (.int (own_ch p6)), .val (.int (0 : Int32)), .unset, .unset] [(.ref x7)])) rfl (by rw [hml]; rfl) (argsL := [(.ref x7)]) (rest := []) (lenOf pd_sp0 rfl) rfl (by show 2 * 0 + _ ≤ _; exact Nat.le_of_eq rfl) (hb hby at_149) (fun _ _ => ⟨rfl, rfl, (by decide : 6 + 0 ≤ _), (by decide : 12 + 0 ≤ _)⟩)
    dsimp only [Pt.U, Pt.locs, Pt.cells, Pt.slots] at X8 l8 y8 z8 st8 hQ8
    subst l8 y8 z8
    obtain ⟨rfl, N8q, q8⟩ := hQ8
    have N8 := Fr.app N7 N8q
    have pre9 : ∀ t, Steps p.tables e below (T8.setTop (mkF m 169 #[.val (.int p1), .val (.int p2), .val (.int p3), .val (.int p4), .val (.int p5), .val (.int p6), .val (.int ((p1 &&& (2147483647 : Int32)) % (6 : Int32))), .val (.int (own_ch p2)), .val (.int (own_ch p3)), .val (.int (own_ch p4)), .val (.int (own_ch p5)), .val (.int (own_ch p6)), .val (.ref x7), .val (.int (own_ch p6)), .val (.int (0 : Int32)), .val .null, .unset] [(.int (1 : Int32))])) t → Steps p.tables e below (s₁.setTop (entryFrame m #[(.int p1), (.int p2), (.int p3), (.int p4), (.int p5), (.int p6)] maxLocals)) t := fun t k => pre6 t (by
      show Steps p.tables e below (T5.setTop (mkF m 53 #[.val (.int p1), .val (.int p2), .val (.int p3), .val (.int p4), .val (.int p5), .val (.int p6), .val (.int ((p1 &&& (2147483647 : Int32)) % (6 : Int32))), .val (.int (own_ch p2)), .val (.int (own_ch p3)), .val (.int (own_ch p4)), .val (.int (own_ch p5)), .val (.int (own_ch p6)), .unset, .unset, .unset, .unset, .unset] [(.int (own_ch p6)), (.int (own_ch p5)), (.int (own_ch p4)), (.int (own_ch p3)), (.int (own_ch p2)), (.int ((p1 &&& (2147483647 : Int32)) % (6 : Int32)))])) _
      refine st7.trans ?_
      refine XS.astore X7.here hx rfl (hb hby at_56) rfl rfl (l' := #[.val (.int p1), .val (.int p2), .val (.int p3), .val (.int p4), .val (.int p5), .val (.int p6), .val (.int ((p1 &&& (2147483647 : Int32)) % (6 : Int32))), .val (.int (own_ch p2)), .val (.int (own_ch p3)), .val (.int (own_ch p4)), .val (.int (own_ch p5)), .val (.int (own_ch p6)), .val (.ref x7), .unset, .unset, .unset, .unset]) rfl ?_
      refine XS.iload X7.here hx rfl (hb hby at_58) rfl ?_
      refine XS.iconst X7.here hx rfl (hb hby at_60) ?_
      refine XS.icmpYes X7.here hx rfl (pc0 := 61) (pc' := 69) rfl (hb hby at_61) rfl (feq (by rw [hn]; decide)).2 (by decide) (by decide) ?_
      refine XS.iload X7.here hx rfl (hb hby at_69) rfl ?_
      refine XS.iconst X7.here hx rfl (hb hby at_71) ?_
      refine XS.icmpYes X7.here hx rfl (pc0 := 72) (pc' := 80) rfl (hb hby at_72) rfl (feq (by rw [hn]; decide)).2 (by decide) (by decide) ?_
      refine XS.iload X7.here hx rfl (hb hby at_80) rfl ?_
      refine XS.istore X7.here hx rfl (hb hby at_82) rfl (l' := #[.val (.int p1), .val (.int p2), .val (.int p3), .val (.int p4), .val (.int p5), .val (.int p6), .val (.int ((p1 &&& (2147483647 : Int32)) % (6 : Int32))), .val (.int (own_ch p2)), .val (.int (own_ch p3)), .val (.int (own_ch p4)), .val (.int (own_ch p5)), .val (.int (own_ch p6)), .val (.ref x7), .val (.int (own_ch p6)), .unset, .unset, .unset]) rfl ?_
      refine XS.iload X7.here hx rfl (hb hby at_84) rfl ?_
      refine XS.iconst X7.here hx rfl (hb hby at_86) ?_
      refine XS.icmpYes X7.here hx rfl (pc0 := 87) (pc' := 144) rfl (hb hby at_87) rfl (tlt (by rw [hn]; decide)).1 (by decide) (by decide) ?_
      refine XS.iconst X7.here hx rfl (hb hby at_144) ?_
      refine XS.istore X7.here hx rfl (hb hby at_145) rfl (l' := #[.val (.int p1), .val (.int p2), .val (.int p3), .val (.int p4), .val (.int p5), .val (.int p6), .val (.int ((p1 &&& (2147483647 : Int32)) % (6 : Int32))), .val (.int (own_ch p2)), .val (.int (own_ch p3)), .val (.int (own_ch p4)), .val (.int (own_ch p5)), .val (.int (own_ch p6)), .val (.ref x7), .val (.int (own_ch p6)), .val (.int (0 : Int32)), .unset, .unset]) rfl ?_
      refine XS.aload X7.here hx rfl (hb hby at_147) rfl rfl ?_
      refine st8 _ ?_
      refine XS.astore X8.here hx rfl (hb hby at_152) rfl rfl (l' := #[.val (.int p1), .val (.int p2), .val (.int p3), .val (.int p4), .val (.int p5), .val (.int p6), .val (.int ((p1 &&& (2147483647 : Int32)) % (6 : Int32))), .val (.int (own_ch p2)), .val (.int (own_ch p3)), .val (.int (own_ch p4)), .val (.int (own_ch p5)), .val (.int (own_ch p6)), .val (.ref x7), .val (.int (own_ch p6)), .val (.int (0 : Int32)), .val .null, .unset]) rfl ?_
      refine XS.iload X8.here hx rfl (hb hby at_154) rfl ?_
      refine XS.ifNo X8.here hx rfl (hb hby at_156) rfl ((if0 _ _).trans (teq (by decide : (0 : Int32) = (0 : Int32))).2) ?_
      refine XS.aload X8.here hx rfl (hb hby at_159) rfl rfl ?_
      refine XS.ifnonnullNo X8.here hx rfl (hb hby at_161) rfl ?_
      refine XS.iconst X8.here hx rfl (hb hby at_164) ?_
      refine XS.goto X8.here hx rfl (pc0 := 165) (pc' := 169) rfl (hb hby at_165) (by decide) (by decide) ?_
      exact k)
    obtain ⟨fs10, hr10, hrun10, hended10, hE10⟩ := X8.leaveW hS7 (by first | exact (Nat.le_refl _) | (rw [q8]; exact (Nat.le_refl _))) (v := some (.int (1 : Int32))) (fun h => by rw [Bd.returns] at h; cases h)
    refine ⟨_, _, pre9 _ ?_, hrun10, hended10, _, _, rfl, ?_, ?_, hE10.1, hE10.2.1, hE10.2.2.1, hE10.2.2.2.mono (by decide) (by decide)⟩
    · show Steps p.tables e below (T8.setTop (mkF m 169 #[.val (.int p1), .val (.int p2), .val (.int p3), .val (.int p4), .val (.int p5), .val (.int p6), .val (.int ((p1 &&& (2147483647 : Int32)) % (6 : Int32))), .val (.int (own_ch p2)), .val (.int (own_ch p3)), .val (.int (own_ch p4)), .val (.int (own_ch p5)), .val (.int (own_ch p6)), .val (.ref x7), .val (.int (own_ch p6)), .val (.int (0 : Int32)), .val .null, .unset] [(.int (1 : Int32))])) _
      exact retN X8 hx (t := .boolean) Bd.returns (by simp) (hb hby at_169) hr10
    · show Q0 Z p1 p2 p3 p4 p5 p6 h0 n0 _ T8.heap _
      rw [q8]
      exact ⟨rfl, N8⟩
    · show CHr Z own_EL s.vm s.heap T8.vm T8.heap
      rw [q8]
      rw [hh]
      exact CR7.trans (CHv.at X8 hZ7 hEL CH7)
  · obtain ⟨_, _, ⟨T11, L11, k11, n11⟩, -, X11, ⟨Lc11, hQ11, l11, y11, z11⟩, st11⟩ := Jvm.LawKit.callS X5 hx (y := (⟨"com/example/oxpecker/oxpecker/MessageTemplateSoleParameterPinLaw", "make", "(ICCCCC)Ljava/lang/String;"⟩ : MethodName)) ho0 (mvT hZ0 (wd5 hw)) (mvT hZ0 (wd6 hw)) (mvT hZ0 (wd3 hw)) (mvT hZ0 (wd7 hw)) (by decide) (backOf (W := 0) (rmmk1 l Z a0 hw [] ((p1 &&& (2147483647 : Int32)) % (6 : Int32)) (own_ch p2) (own_ch p3) (own_ch p4) (own_ch p5) (own_ch p6) h0 n0 Z0 EN hn (own_chr p2)) hZ0 (wd7 hw) (wd3 hw) (by decide) (by decide)) (g := (mkF m 53 #[.val (.int p1), .val (.int p2), .val (.int p3), .val (.int p4), .val (.int p5), .val (.int p6), .val (.int ((p1 &&& (2147483647 : Int32)) % (6 : Int32))), .val (.int (own_ch p2)), .val (.int (own_ch p3)), .val (.int (own_ch p4)), .val (.int (own_ch p5)), .val (.int (own_ch p6)), .unset, .unset, .unset, .unset, .unset] [(.int (own_ch p6)), (.int (own_ch p5)), (.int (own_ch p4)), (.int (own_ch p3)), (.int (own_ch p2)), (.int ((p1 &&& (2147483647 : Int32)) % (6 : Int32)))])) rfl (by rw [hml]; rfl) (argsL := [(.int ((p1 &&& (2147483647 : Int32)) % (6 : Int32))), (.int (own_ch p2)), (.int (own_ch p3)), (.int (own_ch p4)), (.int (own_ch p5)), (.int (own_ch p6))]) (rest := []) (lenOf pd_mk1 rfl) rfl (by show 2 * 0 + _ ≤ _; exact Nat.le_of_eq rfl) (hb hby at_53) (fun _ _ => ⟨rfl, q5, (by decide : 0 + 3 ≤ _), (by decide : 0 + 14 ≤ _)⟩)
    dsimp only [Pt.U, Pt.locs, Pt.cells, Pt.slots] at X11 l11 y11 z11 st11 hQ11
    subst l11 y11 z11
    obtain ⟨x11, rfl, N11q, E11, S11⟩ := hQ11
    have N11 := Fr.app N5 N11q
    have EN_11 := EN.ext E11
    have K11 := (Keep.refl h0 []).ext E11
    have CR11 := (CHr.refl hCH).trans (CHr.ext E11 hCH)
    have CH11 := CHv.ext E11 hCH
    obtain ⟨_, _, ⟨T12, L12, k12, n12⟩, -, X12, ⟨Lc12, hQ12, l12, y12, z12⟩, st12⟩ := Jvm.LawKit.callS X11 hx (y := (⟨"com/example/oxpecker/oxpecker/MessageTemplate", "soleParameter", "(Ljava/lang/String;)Ljava/lang/String;"⟩ : MethodName)) ho0 (mvT hZ0 (wd30 hw)) (mvT hZ0 (wd31 hw)) (mvT hZ0 (wd32 hw)) (mvT hZ0 (wd33 hw)) (by decide) (backOf (W := 0) (rmspN1 l Z a0 hw [] x11 (own_ch p2) T11.heap n0 (Nat.le_trans Z0 E11.1) S11 EN_11 (own_p1 (own_chr p2) own_p0) (fun q => q)) hZ0 (wd33 hw) (wd32 hw) (by decide) (by decide)) (g := (mkF m 149 #[.val (.int p1), .val (.int p2), .val (.int p3), .val (.int p4), .val (.int p5), .val (.int p6), .val (.int ((p1 &&& (2147483647 : Int32)) % (6 : Int32))), .val (.int (own_ch p2)), .val (.int (own_ch p3)), .val (.int (own_ch p4)), .val (.int (own_ch p5)), .val (.int (own_ch p6)), .val (.ref x11), .val (.int (own_ch p6)), .val (.int (0 : Int32)), .unset, .unset] [(.ref x11)])) rfl (by rw [hml]; rfl) (argsL := [(.ref x11)]) (rest := []) (lenOf pd_spN1 rfl) rfl (by show 2 * 0 + _ ≤ _; exact Nat.le_of_eq rfl) (hb hby at_149) (fun _ _ => ⟨rfl, rfl, (by decide : 3 + 0 ≤ _), (by decide : 14 + 0 ≤ _)⟩)
    dsimp only [Pt.U, Pt.locs, Pt.cells, Pt.slots] at X12 l12 y12 z12 st12 hQ12
    subst l12 y12 z12
    obtain ⟨rfl, N12q, q12⟩ := hQ12
    have N12 := Fr.app N11 N12q
    have pre13 : ∀ t, Steps p.tables e below (T12.setTop (mkF m 169 #[.val (.int p1), .val (.int p2), .val (.int p3), .val (.int p4), .val (.int p5), .val (.int p6), .val (.int ((p1 &&& (2147483647 : Int32)) % (6 : Int32))), .val (.int (own_ch p2)), .val (.int (own_ch p3)), .val (.int (own_ch p4)), .val (.int (own_ch p5)), .val (.int (own_ch p6)), .val (.ref x11), .val (.int (own_ch p6)), .val (.int (0 : Int32)), .val .null, .unset] [(.int (1 : Int32))])) t → Steps p.tables e below (s₁.setTop (entryFrame m #[(.int p1), (.int p2), (.int p3), (.int p4), (.int p5), (.int p6)] maxLocals)) t := fun t k => pre6 t (by
      show Steps p.tables e below (T5.setTop (mkF m 53 #[.val (.int p1), .val (.int p2), .val (.int p3), .val (.int p4), .val (.int p5), .val (.int p6), .val (.int ((p1 &&& (2147483647 : Int32)) % (6 : Int32))), .val (.int (own_ch p2)), .val (.int (own_ch p3)), .val (.int (own_ch p4)), .val (.int (own_ch p5)), .val (.int (own_ch p6)), .unset, .unset, .unset, .unset, .unset] [(.int (own_ch p6)), (.int (own_ch p5)), (.int (own_ch p4)), (.int (own_ch p3)), (.int (own_ch p2)), (.int ((p1 &&& (2147483647 : Int32)) % (6 : Int32)))])) _
      refine st11 _ ?_
      refine XS.astore X11.here hx rfl (hb hby at_56) rfl rfl (l' := #[.val (.int p1), .val (.int p2), .val (.int p3), .val (.int p4), .val (.int p5), .val (.int p6), .val (.int ((p1 &&& (2147483647 : Int32)) % (6 : Int32))), .val (.int (own_ch p2)), .val (.int (own_ch p3)), .val (.int (own_ch p4)), .val (.int (own_ch p5)), .val (.int (own_ch p6)), .val (.ref x11), .unset, .unset, .unset, .unset]) rfl ?_
      refine XS.iload X11.here hx rfl (hb hby at_58) rfl ?_
      refine XS.iconst X11.here hx rfl (hb hby at_60) ?_
      refine XS.icmpYes X11.here hx rfl (pc0 := 61) (pc' := 69) rfl (hb hby at_61) rfl (feq (by rw [hn]; decide)).2 (by decide) (by decide) ?_
      refine XS.iload X11.here hx rfl (hb hby at_69) rfl ?_
      refine XS.iconst X11.here hx rfl (hb hby at_71) ?_
      refine XS.icmpYes X11.here hx rfl (pc0 := 72) (pc' := 80) rfl (hb hby at_72) rfl (feq (by rw [hn]; decide)).2 (by decide) (by decide) ?_
      refine XS.iload X11.here hx rfl (hb hby at_80) rfl ?_
      refine XS.istore X11.here hx rfl (hb hby at_82) rfl (l' := #[.val (.int p1), .val (.int p2), .val (.int p3), .val (.int p4), .val (.int p5), .val (.int p6), .val (.int ((p1 &&& (2147483647 : Int32)) % (6 : Int32))), .val (.int (own_ch p2)), .val (.int (own_ch p3)), .val (.int (own_ch p4)), .val (.int (own_ch p5)), .val (.int (own_ch p6)), .val (.ref x11), .val (.int (own_ch p6)), .unset, .unset, .unset]) rfl ?_
      refine XS.iload X11.here hx rfl (hb hby at_84) rfl ?_
      refine XS.iconst X11.here hx rfl (hb hby at_86) ?_
      refine XS.icmpYes X11.here hx rfl (pc0 := 87) (pc' := 144) rfl (hb hby at_87) rfl (tlt (by rw [hn]; decide)).1 (by decide) (by decide) ?_
      refine XS.iconst X11.here hx rfl (hb hby at_144) ?_
      refine XS.istore X11.here hx rfl (hb hby at_145) rfl (l' := #[.val (.int p1), .val (.int p2), .val (.int p3), .val (.int p4), .val (.int p5), .val (.int p6), .val (.int ((p1 &&& (2147483647 : Int32)) % (6 : Int32))), .val (.int (own_ch p2)), .val (.int (own_ch p3)), .val (.int (own_ch p4)), .val (.int (own_ch p5)), .val (.int (own_ch p6)), .val (.ref x11), .val (.int (own_ch p6)), .val (.int (0 : Int32)), .unset, .unset]) rfl ?_
      refine XS.aload X11.here hx rfl (hb hby at_147) rfl rfl ?_
      refine st12 _ ?_
      refine XS.astore X12.here hx rfl (hb hby at_152) rfl rfl (l' := #[.val (.int p1), .val (.int p2), .val (.int p3), .val (.int p4), .val (.int p5), .val (.int p6), .val (.int ((p1 &&& (2147483647 : Int32)) % (6 : Int32))), .val (.int (own_ch p2)), .val (.int (own_ch p3)), .val (.int (own_ch p4)), .val (.int (own_ch p5)), .val (.int (own_ch p6)), .val (.ref x11), .val (.int (own_ch p6)), .val (.int (0 : Int32)), .val .null, .unset]) rfl ?_
      refine XS.iload X12.here hx rfl (hb hby at_154) rfl ?_
      refine XS.ifNo X12.here hx rfl (hb hby at_156) rfl ((if0 _ _).trans (teq (by decide : (0 : Int32) = (0 : Int32))).2) ?_
      refine XS.aload X12.here hx rfl (hb hby at_159) rfl rfl ?_
      refine XS.ifnonnullNo X12.here hx rfl (hb hby at_161) rfl ?_
      refine XS.iconst X12.here hx rfl (hb hby at_164) ?_
      refine XS.goto X12.here hx rfl (pc0 := 165) (pc' := 169) rfl (hb hby at_165) (by decide) (by decide) ?_
      exact k)
    obtain ⟨fs14, hr14, hrun14, hended14, hE14⟩ := X12.leaveW hS0 (by first | exact (Nat.le_trans (Nat.le_refl _) E11.1) | (rw [q12]; exact (Nat.le_trans (Nat.le_refl _) E11.1))) (v := some (.int (1 : Int32))) (fun h => by rw [Bd.returns] at h; cases h)
    refine ⟨_, _, pre13 _ ?_, hrun14, hended14, _, _, rfl, ?_, ?_, hE14.1, hE14.2.1, hE14.2.2.1, hE14.2.2.2.mono (by decide) (by decide)⟩
    · show Steps p.tables e below (T12.setTop (mkF m 169 #[.val (.int p1), .val (.int p2), .val (.int p3), .val (.int p4), .val (.int p5), .val (.int p6), .val (.int ((p1 &&& (2147483647 : Int32)) % (6 : Int32))), .val (.int (own_ch p2)), .val (.int (own_ch p3)), .val (.int (own_ch p4)), .val (.int (own_ch p5)), .val (.int (own_ch p6)), .val (.ref x11), .val (.int (own_ch p6)), .val (.int (0 : Int32)), .val .null, .unset] [(.int (1 : Int32))])) _
      exact retN X12 hx (t := .boolean) Bd.returns (by simp) (hb hby at_169) hr14
    · show Q0 Z p1 p2 p3 p4 p5 p6 h0 n0 _ T12.heap _
      rw [q12]
      exact ⟨rfl, N12⟩
    · show CHr Z own_EL s.vm s.heap T12.vm T12.heap
      rw [q12]
      rw [hh]
      exact CR11.trans (CHv.at X12 hZ0 hEL CH11)
  · obtain ⟨_, _, ⟨T15, L15, k15, n15⟩, -, X15, ⟨Lc15, hQ15, l15, y15, z15⟩, st15⟩ := Jvm.LawKit.callS X5 hx (y := (⟨"com/example/oxpecker/oxpecker/MessageTemplateSoleParameterPinLaw", "make", "(ICCCCC)Ljava/lang/String;"⟩ : MethodName)) ho0 (mvT hZ0 (wd5 hw)) (mvT hZ0 (wd6 hw)) (mvT hZ0 (wd3 hw)) (mvT hZ0 (wd7 hw)) (by decide) (backOf (W := 0) (rmmk2 l Z a0 hw [] ((p1 &&& (2147483647 : Int32)) % (6 : Int32)) (own_ch p2) (own_ch p3) (own_ch p4) (own_ch p5) (own_ch p6) h0 n0 Z0 EN hn (own_chr p2) (own_chr p3)) hZ0 (wd7 hw) (wd3 hw) (by decide) (by decide)) (g := (mkF m 53 #[.val (.int p1), .val (.int p2), .val (.int p3), .val (.int p4), .val (.int p5), .val (.int p6), .val (.int ((p1 &&& (2147483647 : Int32)) % (6 : Int32))), .val (.int (own_ch p2)), .val (.int (own_ch p3)), .val (.int (own_ch p4)), .val (.int (own_ch p5)), .val (.int (own_ch p6)), .unset, .unset, .unset, .unset, .unset] [(.int (own_ch p6)), (.int (own_ch p5)), (.int (own_ch p4)), (.int (own_ch p3)), (.int (own_ch p2)), (.int ((p1 &&& (2147483647 : Int32)) % (6 : Int32)))])) rfl (by rw [hml]; rfl) (argsL := [(.int ((p1 &&& (2147483647 : Int32)) % (6 : Int32))), (.int (own_ch p2)), (.int (own_ch p3)), (.int (own_ch p4)), (.int (own_ch p5)), (.int (own_ch p6))]) (rest := []) (lenOf pd_mk2 rfl) rfl (by show 2 * 0 + _ ≤ _; exact Nat.le_of_eq rfl) (hb hby at_53) (fun _ _ => ⟨rfl, q5, (by decide : 0 + 3 ≤ _), (by decide : 0 + 14 ≤ _)⟩)
    dsimp only [Pt.U, Pt.locs, Pt.cells, Pt.slots] at X15 l15 y15 z15 st15 hQ15
    subst l15 y15 z15
    obtain ⟨x15, rfl, N15q, E15, S15⟩ := hQ15
    have N15 := Fr.app N5 N15q
    have EN_15 := EN.ext E15
    have K15 := (Keep.refl h0 []).ext E15
    have CR15 := (CHr.refl hCH).trans (CHr.ext E15 hCH)
    have CH15 := CHv.ext E15 hCH
    obtain ⟨_, _, ⟨T16, L16, k16, n16⟩, -, X16, ⟨Lc16, hQ16, l16, y16, z16⟩, st16⟩ := Jvm.LawKit.callS X15 hx (y := (⟨"com/example/oxpecker/oxpecker/MessageTemplate", "soleParameter", "(Ljava/lang/String;)Ljava/lang/String;"⟩ : MethodName)) ho0 (mvT hZ0 (wd30 hw)) (mvT hZ0 (wd31 hw)) (mvT hZ0 (wd32 hw)) (mvT hZ0 (wd33 hw)) (by decide) (backOf (W := 0) (rmspN2 l Z a0 hw [] x15 (own_ch p2) (own_ch p3) T15.heap n0 (Nat.le_trans Z0 E15.1) S15 EN_15 (own_p1 (own_chr p2) (own_p1 (own_chr p3) own_p0)) (fun q => q)) hZ0 (wd33 hw) (wd32 hw) (by decide) (by decide)) (g := (mkF m 149 #[.val (.int p1), .val (.int p2), .val (.int p3), .val (.int p4), .val (.int p5), .val (.int p6), .val (.int ((p1 &&& (2147483647 : Int32)) % (6 : Int32))), .val (.int (own_ch p2)), .val (.int (own_ch p3)), .val (.int (own_ch p4)), .val (.int (own_ch p5)), .val (.int (own_ch p6)), .val (.ref x15), .val (.int (own_ch p6)), .val (.int (0 : Int32)), .unset, .unset] [(.ref x15)])) rfl (by rw [hml]; rfl) (argsL := [(.ref x15)]) (rest := []) (lenOf pd_spN2 rfl) rfl (by show 2 * 0 + _ ≤ _; exact Nat.le_of_eq rfl) (hb hby at_149) (fun _ _ => ⟨rfl, rfl, (by decide : 3 + 0 ≤ _), (by decide : 14 + 0 ≤ _)⟩)
    dsimp only [Pt.U, Pt.locs, Pt.cells, Pt.slots] at X16 l16 y16 z16 st16 hQ16
    subst l16 y16 z16
    obtain ⟨rfl, N16q, q16⟩ := hQ16
    have N16 := Fr.app N15 N16q
    have pre17 : ∀ t, Steps p.tables e below (T16.setTop (mkF m 169 #[.val (.int p1), .val (.int p2), .val (.int p3), .val (.int p4), .val (.int p5), .val (.int p6), .val (.int ((p1 &&& (2147483647 : Int32)) % (6 : Int32))), .val (.int (own_ch p2)), .val (.int (own_ch p3)), .val (.int (own_ch p4)), .val (.int (own_ch p5)), .val (.int (own_ch p6)), .val (.ref x15), .val (.int (own_ch p6)), .val (.int (0 : Int32)), .val .null, .unset] [(.int (1 : Int32))])) t → Steps p.tables e below (s₁.setTop (entryFrame m #[(.int p1), (.int p2), (.int p3), (.int p4), (.int p5), (.int p6)] maxLocals)) t := fun t k => pre6 t (by
      show Steps p.tables e below (T5.setTop (mkF m 53 #[.val (.int p1), .val (.int p2), .val (.int p3), .val (.int p4), .val (.int p5), .val (.int p6), .val (.int ((p1 &&& (2147483647 : Int32)) % (6 : Int32))), .val (.int (own_ch p2)), .val (.int (own_ch p3)), .val (.int (own_ch p4)), .val (.int (own_ch p5)), .val (.int (own_ch p6)), .unset, .unset, .unset, .unset, .unset] [(.int (own_ch p6)), (.int (own_ch p5)), (.int (own_ch p4)), (.int (own_ch p3)), (.int (own_ch p2)), (.int ((p1 &&& (2147483647 : Int32)) % (6 : Int32)))])) _
      refine st15 _ ?_
      refine XS.astore X15.here hx rfl (hb hby at_56) rfl rfl (l' := #[.val (.int p1), .val (.int p2), .val (.int p3), .val (.int p4), .val (.int p5), .val (.int p6), .val (.int ((p1 &&& (2147483647 : Int32)) % (6 : Int32))), .val (.int (own_ch p2)), .val (.int (own_ch p3)), .val (.int (own_ch p4)), .val (.int (own_ch p5)), .val (.int (own_ch p6)), .val (.ref x15), .unset, .unset, .unset, .unset]) rfl ?_
      refine XS.iload X15.here hx rfl (hb hby at_58) rfl ?_
      refine XS.iconst X15.here hx rfl (hb hby at_60) ?_
      refine XS.icmpYes X15.here hx rfl (pc0 := 61) (pc' := 69) rfl (hb hby at_61) rfl (feq (by rw [hn]; decide)).2 (by decide) (by decide) ?_
      refine XS.iload X15.here hx rfl (hb hby at_69) rfl ?_
      refine XS.iconst X15.here hx rfl (hb hby at_71) ?_
      refine XS.icmpYes X15.here hx rfl (pc0 := 72) (pc' := 80) rfl (hb hby at_72) rfl (feq (by rw [hn]; decide)).2 (by decide) (by decide) ?_
      refine XS.iload X15.here hx rfl (hb hby at_80) rfl ?_
      refine XS.istore X15.here hx rfl (hb hby at_82) rfl (l' := #[.val (.int p1), .val (.int p2), .val (.int p3), .val (.int p4), .val (.int p5), .val (.int p6), .val (.int ((p1 &&& (2147483647 : Int32)) % (6 : Int32))), .val (.int (own_ch p2)), .val (.int (own_ch p3)), .val (.int (own_ch p4)), .val (.int (own_ch p5)), .val (.int (own_ch p6)), .val (.ref x15), .val (.int (own_ch p6)), .unset, .unset, .unset]) rfl ?_
      refine XS.iload X15.here hx rfl (hb hby at_84) rfl ?_
      refine XS.iconst X15.here hx rfl (hb hby at_86) ?_
      refine XS.icmpYes X15.here hx rfl (pc0 := 87) (pc' := 144) rfl (hb hby at_87) rfl (tlt (by rw [hn]; decide)).1 (by decide) (by decide) ?_
      refine XS.iconst X15.here hx rfl (hb hby at_144) ?_
      refine XS.istore X15.here hx rfl (hb hby at_145) rfl (l' := #[.val (.int p1), .val (.int p2), .val (.int p3), .val (.int p4), .val (.int p5), .val (.int p6), .val (.int ((p1 &&& (2147483647 : Int32)) % (6 : Int32))), .val (.int (own_ch p2)), .val (.int (own_ch p3)), .val (.int (own_ch p4)), .val (.int (own_ch p5)), .val (.int (own_ch p6)), .val (.ref x15), .val (.int (own_ch p6)), .val (.int (0 : Int32)), .unset, .unset]) rfl ?_
      refine XS.aload X15.here hx rfl (hb hby at_147) rfl rfl ?_
      refine st16 _ ?_
      refine XS.astore X16.here hx rfl (hb hby at_152) rfl rfl (l' := #[.val (.int p1), .val (.int p2), .val (.int p3), .val (.int p4), .val (.int p5), .val (.int p6), .val (.int ((p1 &&& (2147483647 : Int32)) % (6 : Int32))), .val (.int (own_ch p2)), .val (.int (own_ch p3)), .val (.int (own_ch p4)), .val (.int (own_ch p5)), .val (.int (own_ch p6)), .val (.ref x15), .val (.int (own_ch p6)), .val (.int (0 : Int32)), .val .null, .unset]) rfl ?_
      refine XS.iload X16.here hx rfl (hb hby at_154) rfl ?_
      refine XS.ifNo X16.here hx rfl (hb hby at_156) rfl ((if0 _ _).trans (teq (by decide : (0 : Int32) = (0 : Int32))).2) ?_
      refine XS.aload X16.here hx rfl (hb hby at_159) rfl rfl ?_
      refine XS.ifnonnullNo X16.here hx rfl (hb hby at_161) rfl ?_
      refine XS.iconst X16.here hx rfl (hb hby at_164) ?_
      refine XS.goto X16.here hx rfl (pc0 := 165) (pc' := 169) rfl (hb hby at_165) (by decide) (by decide) ?_
      exact k)
    obtain ⟨fs18, hr18, hrun18, hended18, hE18⟩ := X16.leaveW hS0 (by first | exact (Nat.le_trans (Nat.le_refl _) E15.1) | (rw [q16]; exact (Nat.le_trans (Nat.le_refl _) E15.1))) (v := some (.int (1 : Int32))) (fun h => by rw [Bd.returns] at h; cases h)
    refine ⟨_, _, pre17 _ ?_, hrun18, hended18, _, _, rfl, ?_, ?_, hE18.1, hE18.2.1, hE18.2.2.1, hE18.2.2.2.mono (by decide) (by decide)⟩
    · show Steps p.tables e below (T16.setTop (mkF m 169 #[.val (.int p1), .val (.int p2), .val (.int p3), .val (.int p4), .val (.int p5), .val (.int p6), .val (.int ((p1 &&& (2147483647 : Int32)) % (6 : Int32))), .val (.int (own_ch p2)), .val (.int (own_ch p3)), .val (.int (own_ch p4)), .val (.int (own_ch p5)), .val (.int (own_ch p6)), .val (.ref x15), .val (.int (own_ch p6)), .val (.int (0 : Int32)), .val .null, .unset] [(.int (1 : Int32))])) _
      exact retN X16 hx (t := .boolean) Bd.returns (by simp) (hb hby at_169) hr18
    · show Q0 Z p1 p2 p3 p4 p5 p6 h0 n0 _ T16.heap _
      rw [q16]
      exact ⟨rfl, N16⟩
    · show CHr Z own_EL s.vm s.heap T16.vm T16.heap
      rw [q16]
      rw [hh]
      exact CR15.trans (CHv.at X16 hZ0 hEL CH15)
  · obtain ⟨_, _, ⟨T19, L19, k19, n19⟩, -, X19, ⟨Lc19, hQ19, l19, y19, z19⟩, st19⟩ := Jvm.LawKit.callS X5 hx (y := (⟨"com/example/oxpecker/oxpecker/MessageTemplateSoleParameterPinLaw", "make", "(ICCCCC)Ljava/lang/String;"⟩ : MethodName)) ho0 (mvT hZ0 (wd5 hw)) (mvT hZ0 (wd6 hw)) (mvT hZ0 (wd3 hw)) (mvT hZ0 (wd7 hw)) (by decide) (backOf (W := 0) (rmmk3 l Z a0 hw [] ((p1 &&& (2147483647 : Int32)) % (6 : Int32)) (own_ch p2) (own_ch p3) (own_ch p4) (own_ch p5) (own_ch p6) h0 n0 Z0 EN hn (own_chr p2) (own_chr p3) (own_chr p4)) hZ0 (wd7 hw) (wd3 hw) (by decide) (by decide)) (g := (mkF m 53 #[.val (.int p1), .val (.int p2), .val (.int p3), .val (.int p4), .val (.int p5), .val (.int p6), .val (.int ((p1 &&& (2147483647 : Int32)) % (6 : Int32))), .val (.int (own_ch p2)), .val (.int (own_ch p3)), .val (.int (own_ch p4)), .val (.int (own_ch p5)), .val (.int (own_ch p6)), .unset, .unset, .unset, .unset, .unset] [(.int (own_ch p6)), (.int (own_ch p5)), (.int (own_ch p4)), (.int (own_ch p3)), (.int (own_ch p2)), (.int ((p1 &&& (2147483647 : Int32)) % (6 : Int32)))])) rfl (by rw [hml]; rfl) (argsL := [(.int ((p1 &&& (2147483647 : Int32)) % (6 : Int32))), (.int (own_ch p2)), (.int (own_ch p3)), (.int (own_ch p4)), (.int (own_ch p5)), (.int (own_ch p6))]) (rest := []) (lenOf pd_mk3 rfl) rfl (by show 2 * 0 + _ ≤ _; exact Nat.le_of_eq rfl) (hb hby at_53) (fun _ _ => ⟨rfl, q5, (by decide : 0 + 3 ≤ _), (by decide : 0 + 14 ≤ _)⟩)
    dsimp only [Pt.U, Pt.locs, Pt.cells, Pt.slots] at X19 l19 y19 z19 st19 hQ19
    subst l19 y19 z19
    obtain ⟨x19, rfl, N19q, E19, S19⟩ := hQ19
    have N19 := Fr.app N5 N19q
    have EN_19 := EN.ext E19
    have K19 := (Keep.refl h0 []).ext E19
    have CR19 := (CHr.refl hCH).trans (CHr.ext E19 hCH)
    have CH19 := CHv.ext E19 hCH
    have pre20 : ∀ t, Steps p.tables e below (T19.setTop (mkF m 94 #[.val (.int p1), .val (.int p2), .val (.int p3), .val (.int p4), .val (.int p5), .val (.int p6), .val (.int ((p1 &&& (2147483647 : Int32)) % (6 : Int32))), .val (.int (own_ch p2)), .val (.int (own_ch p3)), .val (.int (own_ch p4)), .val (.int (own_ch p5)), .val (.int (own_ch p6)), .val (.ref x19), .val (.int (own_ch p4)), .unset, .unset, .unset] [(.int (123 : Int32)), (.int (own_ch p2))])) t → Steps p.tables e below (s₁.setTop (entryFrame m #[(.int p1), (.int p2), (.int p3), (.int p4), (.int p5), (.int p6)] maxLocals)) t := fun t k => pre6 t (by
      show Steps p.tables e below (T5.setTop (mkF m 53 #[.val (.int p1), .val (.int p2), .val (.int p3), .val (.int p4), .val (.int p5), .val (.int p6), .val (.int ((p1 &&& (2147483647 : Int32)) % (6 : Int32))), .val (.int (own_ch p2)), .val (.int (own_ch p3)), .val (.int (own_ch p4)), .val (.int (own_ch p5)), .val (.int (own_ch p6)), .unset, .unset, .unset, .unset, .unset] [(.int (own_ch p6)), (.int (own_ch p5)), (.int (own_ch p4)), (.int (own_ch p3)), (.int (own_ch p2)), (.int ((p1 &&& (2147483647 : Int32)) % (6 : Int32)))])) _
      refine st19 _ ?_
      refine XS.astore X19.here hx rfl (hb hby at_56) rfl rfl (l' := #[.val (.int p1), .val (.int p2), .val (.int p3), .val (.int p4), .val (.int p5), .val (.int p6), .val (.int ((p1 &&& (2147483647 : Int32)) % (6 : Int32))), .val (.int (own_ch p2)), .val (.int (own_ch p3)), .val (.int (own_ch p4)), .val (.int (own_ch p5)), .val (.int (own_ch p6)), .val (.ref x19), .unset, .unset, .unset, .unset]) rfl ?_
      refine XS.iload X19.here hx rfl (hb hby at_58) rfl ?_
      refine XS.iconst X19.here hx rfl (hb hby at_60) ?_
      refine XS.icmpNo X19.here hx rfl (hb hby at_61) rfl (teq hn).2 ?_
      refine XS.iload X19.here hx rfl (hb hby at_64) rfl ?_
      refine XS.goto X19.here hx rfl (pc0 := 66) (pc' := 82) rfl (hb hby at_66) (by decide) (by decide) ?_
      refine XS.istore X19.here hx rfl (hb hby at_82) rfl (l' := #[.val (.int p1), .val (.int p2), .val (.int p3), .val (.int p4), .val (.int p5), .val (.int p6), .val (.int ((p1 &&& (2147483647 : Int32)) % (6 : Int32))), .val (.int (own_ch p2)), .val (.int (own_ch p3)), .val (.int (own_ch p4)), .val (.int (own_ch p5)), .val (.int (own_ch p6)), .val (.ref x19), .val (.int (own_ch p4)), .unset, .unset, .unset]) rfl ?_
      refine XS.iload X19.here hx rfl (hb hby at_84) rfl ?_
      refine XS.iconst X19.here hx rfl (hb hby at_86) ?_
      refine XS.icmpNo X19.here hx rfl (hb hby at_87) rfl (flt (by rw [hn]; decide)).1 ?_
      refine XS.iload X19.here hx rfl (hb hby at_90) rfl ?_
      refine XS.bipush X19.here hx rfl (hb hby at_92) ?_
      exact k)
    by_cases hc94 : (own_ch p2) = (123 : Int32)
    · have pre21 : ∀ t, Steps p.tables e below (T19.setTop (mkF m 101 #[.val (.int p1), .val (.int p2), .val (.int p3), .val (.int p4), .val (.int p5), .val (.int p6), .val (.int ((p1 &&& (2147483647 : Int32)) % (6 : Int32))), .val (.int (own_ch p2)), .val (.int (own_ch p3)), .val (.int (own_ch p4)), .val (.int (own_ch p5)), .val (.int (own_ch p6)), .val (.ref x19), .val (.int (own_ch p4)), .unset, .unset, .unset] [(.int (125 : Int32)), (.int (own_ch p4))])) t → Steps p.tables e below (s₁.setTop (entryFrame m #[(.int p1), (.int p2), (.int p3), (.int p4), (.int p5), (.int p6)] maxLocals)) t := fun t k => pre20 t (by
        show Steps p.tables e below (T19.setTop (mkF m 94 #[.val (.int p1), .val (.int p2), .val (.int p3), .val (.int p4), .val (.int p5), .val (.int p6), .val (.int ((p1 &&& (2147483647 : Int32)) % (6 : Int32))), .val (.int (own_ch p2)), .val (.int (own_ch p3)), .val (.int (own_ch p4)), .val (.int (own_ch p5)), .val (.int (own_ch p6)), .val (.ref x19), .val (.int (own_ch p4)), .unset, .unset, .unset] [(.int (123 : Int32)), (.int (own_ch p2))])) _
        refine XS.icmpNo X19.here hx rfl (hb hby at_94) rfl (teq hc94).2 ?_
        refine XS.iload X19.here hx rfl (hb hby at_97) rfl ?_
        refine XS.bipush X19.here hx rfl (hb hby at_99) ?_
        exact k)
      by_cases hc101 : (own_ch p4) = (125 : Int32)
      · obtain ⟨_, _, ⟨T22, L22, k22, n22⟩, -, X22, ⟨Lc22, hQ22, l22, y22, z22⟩, st22⟩ := Jvm.LawKit.callS X19 hx (y := (⟨"com/example/oxpecker/oxpecker/MessageTemplateSoleParameterPinLaw", "inName", "(C)Z"⟩ : MethodName)) ho0 (mvT hZ0 (wd88 hw)) (mvT hZ0 (wd89 hw)) (mvT hZ0 (wd3 hw)) (mvT hZ0 (wd90 hw)) (by decide) (backOf (W := 0) (rmln l Z a0 hw [] (own_ch p3) T19.heap n0 (Nat.le_trans Z0 E19.1)) hZ0 (wd90 hw) (wd3 hw) (by decide) (by decide)) (g := (mkF m 106 #[.val (.int p1), .val (.int p2), .val (.int p3), .val (.int p4), .val (.int p5), .val (.int p6), .val (.int ((p1 &&& (2147483647 : Int32)) % (6 : Int32))), .val (.int (own_ch p2)), .val (.int (own_ch p3)), .val (.int (own_ch p4)), .val (.int (own_ch p5)), .val (.int (own_ch p6)), .val (.ref x19), .val (.int (own_ch p4)), .unset, .unset, .unset] [(.int (own_ch p3))])) rfl (by rw [hml]; rfl) (argsL := [(.int (own_ch p3))]) (rest := []) (lenOf pd_ln rfl) rfl (by show 2 * 0 + _ ≤ _; exact Nat.le_of_eq rfl) (hb hby at_106) (fun _ _ => ⟨rfl, rfl, (by decide : 3 + 0 ≤ _), (by decide : 14 + 0 ≤ _)⟩)
        dsimp only [Pt.U, Pt.locs, Pt.cells, Pt.slots] at X22 l22 y22 z22 st22 hQ22
        subst l22 y22 z22
        obtain ⟨rfl, N22q, q22⟩ := hQ22
        have N22 := Fr.app N19 N22q
        have pre23 : ∀ t, Steps p.tables e below (T22.setTop (mkF m 109 #[.val (.int p1), .val (.int p2), .val (.int p3), .val (.int p4), .val (.int p5), .val (.int p6), .val (.int ((p1 &&& (2147483647 : Int32)) % (6 : Int32))), .val (.int (own_ch p2)), .val (.int (own_ch p3)), .val (.int (own_ch p4)), .val (.int (own_ch p5)), .val (.int (own_ch p6)), .val (.ref x19), .val (.int (own_ch p4)), .unset, .unset, .unset] [(.int (own_in (own_ch p3)))])) t → Steps p.tables e below (s₁.setTop (entryFrame m #[(.int p1), (.int p2), (.int p3), (.int p4), (.int p5), (.int p6)] maxLocals)) t := fun t k => pre21 t (by
          show Steps p.tables e below (T19.setTop (mkF m 101 #[.val (.int p1), .val (.int p2), .val (.int p3), .val (.int p4), .val (.int p5), .val (.int p6), .val (.int ((p1 &&& (2147483647 : Int32)) % (6 : Int32))), .val (.int (own_ch p2)), .val (.int (own_ch p3)), .val (.int (own_ch p4)), .val (.int (own_ch p5)), .val (.int (own_ch p6)), .val (.ref x19), .val (.int (own_ch p4)), .unset, .unset, .unset] [(.int (125 : Int32)), (.int (own_ch p4))])) _
          refine XS.icmpNo X19.here hx rfl (hb hby at_101) rfl (teq hc101).2 ?_
          refine XS.iload X19.here hx rfl (hb hby at_104) rfl ?_
          refine st22 _ ?_
          exact k)
        by_cases hc109 : (own_in (own_ch p3)) = (0 : Int32)
        · obtain ⟨_, _, ⟨T24, L24, k24, n24⟩, -, X24, ⟨Lc24, hQ24, l24, y24, z24⟩, st24⟩ := Jvm.LawKit.callS X22 hx (y := (⟨"com/example/oxpecker/oxpecker/MessageTemplate", "soleParameter", "(Ljava/lang/String;)Ljava/lang/String;"⟩ : MethodName)) ho0 (mvT hZ0 (wd30 hw)) (mvT hZ0 (wd31 hw)) (mvT hZ0 (wd32 hw)) (mvT hZ0 (wd33 hw)) (by decide) (backOf (W := 0) (rmspN3 l Z a0 hw [] x19 (own_ch p2) (own_ch p3) (own_ch p4) T19.heap n0 (Nat.le_trans Z0 E19.1) S19 EN_19 (own_p1 (own_chr p2) (own_p1 (own_chr p3) (own_p1 (own_chr p4) own_p0))) (fun q => by
                obtain ⟨w0, w1, w2⟩ := q
                contradiction)) hZ0 (wd33 hw) (wd32 hw) (by decide) (by decide)) (g := (mkF m 149 #[.val (.int p1), .val (.int p2), .val (.int p3), .val (.int p4), .val (.int p5), .val (.int p6), .val (.int ((p1 &&& (2147483647 : Int32)) % (6 : Int32))), .val (.int (own_ch p2)), .val (.int (own_ch p3)), .val (.int (own_ch p4)), .val (.int (own_ch p5)), .val (.int (own_ch p6)), .val (.ref x19), .val (.int (own_ch p4)), .val (.int (0 : Int32)), .unset, .unset] [(.ref x19)])) rfl (by rw [hml]; rfl) (argsL := [(.ref x19)]) (rest := []) (lenOf pd_spN3 rfl) rfl (by show 2 * 0 + _ ≤ _; exact Nat.le_of_eq rfl) (hb hby at_149) (fun _ _ => ⟨rfl, q22, (by decide : 3 + 0 ≤ _), (by decide : 14 + 0 ≤ _)⟩)
          dsimp only [Pt.U, Pt.locs, Pt.cells, Pt.slots] at X24 l24 y24 z24 st24 hQ24
          subst l24 y24 z24
          obtain ⟨rfl, N24q, q24⟩ := hQ24
          have N24 := Fr.app N22 N24q
          have pre25 : ∀ t, Steps p.tables e below (T24.setTop (mkF m 169 #[.val (.int p1), .val (.int p2), .val (.int p3), .val (.int p4), .val (.int p5), .val (.int p6), .val (.int ((p1 &&& (2147483647 : Int32)) % (6 : Int32))), .val (.int (own_ch p2)), .val (.int (own_ch p3)), .val (.int (own_ch p4)), .val (.int (own_ch p5)), .val (.int (own_ch p6)), .val (.ref x19), .val (.int (own_ch p4)), .val (.int (0 : Int32)), .val .null, .unset] [(.int (1 : Int32))])) t → Steps p.tables e below (s₁.setTop (entryFrame m #[(.int p1), (.int p2), (.int p3), (.int p4), (.int p5), (.int p6)] maxLocals)) t := fun t k => pre23 t (by
            show Steps p.tables e below (T22.setTop (mkF m 109 #[.val (.int p1), .val (.int p2), .val (.int p3), .val (.int p4), .val (.int p5), .val (.int p6), .val (.int ((p1 &&& (2147483647 : Int32)) % (6 : Int32))), .val (.int (own_ch p2)), .val (.int (own_ch p3)), .val (.int (own_ch p4)), .val (.int (own_ch p5)), .val (.int (own_ch p6)), .val (.ref x19), .val (.int (own_ch p4)), .unset, .unset, .unset] [(.int (own_in (own_ch p3)))])) _
            refine XS.ifYes X22.here hx rfl (pc0 := 109) (pc' := 144) rfl (hb hby at_109) rfl ((if0 _ _).trans (teq hc109).1) (by decide) (by decide) ?_
            refine XS.iconst X22.here hx rfl (hb hby at_144) ?_
            refine XS.istore X22.here hx rfl (hb hby at_145) rfl (l' := #[.val (.int p1), .val (.int p2), .val (.int p3), .val (.int p4), .val (.int p5), .val (.int p6), .val (.int ((p1 &&& (2147483647 : Int32)) % (6 : Int32))), .val (.int (own_ch p2)), .val (.int (own_ch p3)), .val (.int (own_ch p4)), .val (.int (own_ch p5)), .val (.int (own_ch p6)), .val (.ref x19), .val (.int (own_ch p4)), .val (.int (0 : Int32)), .unset, .unset]) rfl ?_
            refine XS.aload X22.here hx rfl (hb hby at_147) rfl rfl ?_
            refine st24 _ ?_
            refine XS.astore X24.here hx rfl (hb hby at_152) rfl rfl (l' := #[.val (.int p1), .val (.int p2), .val (.int p3), .val (.int p4), .val (.int p5), .val (.int p6), .val (.int ((p1 &&& (2147483647 : Int32)) % (6 : Int32))), .val (.int (own_ch p2)), .val (.int (own_ch p3)), .val (.int (own_ch p4)), .val (.int (own_ch p5)), .val (.int (own_ch p6)), .val (.ref x19), .val (.int (own_ch p4)), .val (.int (0 : Int32)), .val .null, .unset]) rfl ?_
            refine XS.iload X24.here hx rfl (hb hby at_154) rfl ?_
            refine XS.ifNo X24.here hx rfl (hb hby at_156) rfl ((if0 _ _).trans (teq (by decide : (0 : Int32) = (0 : Int32))).2) ?_
            refine XS.aload X24.here hx rfl (hb hby at_159) rfl rfl ?_
            refine XS.ifnonnullNo X24.here hx rfl (hb hby at_161) rfl ?_
            refine XS.iconst X24.here hx rfl (hb hby at_164) ?_
            refine XS.goto X24.here hx rfl (pc0 := 165) (pc' := 169) rfl (hb hby at_165) (by decide) (by decide) ?_
            exact k)
          obtain ⟨fs26, hr26, hrun26, hended26, hE26⟩ := X24.leaveW hS0 (by first | exact (Nat.le_trans (Nat.le_refl _) E19.1) | (rw [q24]; exact (Nat.le_trans (Nat.le_refl _) E19.1))) (v := some (.int (1 : Int32))) (fun h => by rw [Bd.returns] at h; cases h)
          refine ⟨_, _, pre25 _ ?_, hrun26, hended26, _, _, rfl, ?_, ?_, hE26.1, hE26.2.1, hE26.2.2.1, hE26.2.2.2.mono (by decide) (by decide)⟩
          · show Steps p.tables e below (T24.setTop (mkF m 169 #[.val (.int p1), .val (.int p2), .val (.int p3), .val (.int p4), .val (.int p5), .val (.int p6), .val (.int ((p1 &&& (2147483647 : Int32)) % (6 : Int32))), .val (.int (own_ch p2)), .val (.int (own_ch p3)), .val (.int (own_ch p4)), .val (.int (own_ch p5)), .val (.int (own_ch p6)), .val (.ref x19), .val (.int (own_ch p4)), .val (.int (0 : Int32)), .val .null, .unset] [(.int (1 : Int32))])) _
            exact retN X24 hx (t := .boolean) Bd.returns (by simp) (hb hby at_169) hr26
          · show Q0 Z p1 p2 p3 p4 p5 p6 h0 n0 _ T24.heap _
            rw [q24]
            exact ⟨rfl, N24⟩
          · show CHr Z own_EL s.vm s.heap T24.vm T24.heap
            rw [q24]
            rw [hh]
            exact CR19.trans (CHv.at X24 hZ0 hEL CH19)
        obtain ⟨_, _, ⟨T27, L27, k27, n27⟩, -, X27, ⟨Lc27, hQ27, l27, y27, z27⟩, st27⟩ := Jvm.LawKit.callS X22 hx (y := (⟨"com/example/oxpecker/oxpecker/MessageTemplate", "soleParameter", "(Ljava/lang/String;)Ljava/lang/String;"⟩ : MethodName)) ho0 (mvT hZ0 (wd30 hw)) (mvT hZ0 (wd31 hw)) (mvT hZ0 (wd32 hw)) (mvT hZ0 (wd33 hw)) (by decide) (backOf (W := 0) (rmspY3 l Z a0 hw [] x19 (own_ch p2) (own_ch p3) (own_ch p4) T19.heap n0 (Nat.le_trans Z0 E19.1) S19 EN_19 (own_p1 (own_chr p2) (own_p1 (own_chr p3) (own_p1 (own_chr p4) own_p0))) ⟨hc94, hc109, hc101⟩) hZ0 (wd33 hw) (wd32 hw) (by decide) (by decide)) (g := (mkF m 149 #[.val (.int p1), .val (.int p2), .val (.int p3), .val (.int p4), .val (.int p5), .val (.int p6), .val (.int ((p1 &&& (2147483647 : Int32)) % (6 : Int32))), .val (.int (own_ch p2)), .val (.int (own_ch p3)), .val (.int (own_ch p4)), .val (.int (own_ch p5)), .val (.int (own_ch p6)), .val (.ref x19), .val (.int (own_ch p4)), .val (.int (1 : Int32)), .unset, .unset] [(.ref x19)])) rfl (by rw [hml]; rfl) (argsL := [(.ref x19)]) (rest := []) (lenOf pd_spY3 rfl) rfl (by show 2 * 0 + _ ≤ _; exact Nat.le_of_eq rfl) (hb hby at_149) (fun _ _ => ⟨rfl, q22, (by decide : 3 + 2 ≤ _), (by decide : 14 + 9 ≤ _)⟩)
        dsimp only [Pt.U, Pt.locs, Pt.cells, Pt.slots] at X27 l27 y27 z27 st27 hQ27
        subst l27 y27 z27
        obtain ⟨x27, rfl, N27q, E27, S27⟩ := hQ27
        have N27 := Fr.app N22 N27q
        have EN_27 := EN_19.ext E27
        have S19_27 := S19.ext E27
        have K27 := K19.ext E27
        have CR27 := CR19.trans (CHr.ext E27 CH19)
        have CH27 := CHv.ext E27 CH19
        obtain ⟨_, _, ⟨T28, L28, k28, n28⟩, -, X28, ⟨Lc28, hQ28, l28, y28, z28⟩, st28⟩ := Jvm.LawKit.callS X27 hx (y := (⟨"com/example/oxpecker/oxpecker/MessageTemplateSoleParameterPinLaw", "make", "(ICCCCC)Ljava/lang/String;"⟩ : MethodName)) ho0 (mvT hZ0 (wd5 hw)) (mvT hZ0 (wd6 hw)) (mvT hZ0 (wd3 hw)) (mvT hZ0 (wd7 hw)) (by decide) (backOf (W := 0) (rmmk1 l Z a0 hw [] (((p1 &&& (2147483647 : Int32)) % (6 : Int32)) - (2 : Int32)) (own_ch p3) (own_ch p4) (own_ch p5) (own_ch p6) (own_ch p6) T27.heap n0 (Nat.le_trans (Nat.le_trans Z0 E19.1) E27.1) EN_27 (by rw [hn]; decide) (own_chr p3)) hZ0 (wd7 hw) (wd3 hw) (by decide) (by decide)) (g := (mkF m 184 #[.val (.int p1), .val (.int p2), .val (.int p3), .val (.int p4), .val (.int p5), .val (.int p6), .val (.int ((p1 &&& (2147483647 : Int32)) % (6 : Int32))), .val (.int (own_ch p2)), .val (.int (own_ch p3)), .val (.int (own_ch p4)), .val (.int (own_ch p5)), .val (.int (own_ch p6)), .val (.ref x19), .val (.int (own_ch p4)), .val (.int (1 : Int32)), .val (.ref x27), .unset] [(.int (own_ch p6)), (.int (own_ch p6)), (.int (own_ch p5)), (.int (own_ch p4)), (.int (own_ch p3)), (.int (((p1 &&& (2147483647 : Int32)) % (6 : Int32)) - (2 : Int32)))])) rfl (by rw [hml]; rfl) (argsL := [(.int (((p1 &&& (2147483647 : Int32)) % (6 : Int32)) - (2 : Int32))), (.int (own_ch p3)), (.int (own_ch p4)), (.int (own_ch p5)), (.int (own_ch p6)), (.int (own_ch p6))]) (rest := []) (lenOf pd_mk1 rfl) rfl (by show 2 * 0 + _ ≤ _; exact Nat.le_of_eq rfl) (hb hby at_184) (fun _ _ => ⟨rfl, rfl, (by decide : 5 + 3 ≤ _), (by decide : 23 + 14 ≤ _)⟩)
        dsimp only [Pt.U, Pt.locs, Pt.cells, Pt.slots] at X28 l28 y28 z28 st28 hQ28
        subst l28 y28 z28
        obtain ⟨x28, rfl, N28q, E28, S28⟩ := hQ28
        have N28 := Fr.app N27 N28q
        have EN_28 := EN_27.ext E28
        have S19_28 := S19_27.ext E28
        have S27_28 := S27.ext E28
        have K28 := K27.ext E28
        have CR28 := CR27.trans (CHr.ext E28 CH27)
        have CH28 := CHv.ext E28 CH27
        have hpm := (own_p1 (own_chr p3) own_p0)
        have SG := S27_28
        obtain ⟨tg, kg, Eg, Vg, Cg, Kg⟩ := SG
        have SW := S28
        obtain ⟨tw, kw, Ew, Vw, Cw, Kw⟩ := SW
        have EN9 := EN_28
        obtain ⟨z, fm, Sz, hz, Sf, hfm⟩ := EN9
        obtain ⟨cq29, kq29, qa29, qb29, qc29⟩ := isOf hZ0 rfl Eg
        obtain ⟨_, _, ⟨T29, L29, k29, n29⟩, -, X29, ⟨Lc29, hQ29, l29, y29, z29⟩, st29⟩ := X28.virtualBack hx (y := (⟨"java/lang/String", "equals", "(Ljava/lang/Object;)Z"⟩ : MethodName)) (z := (⟨"java/lang/String", "equals", "(Ljava/lang/Object;)Z"⟩ : MethodName)) ho0 (mvT hZ0 (wd128 hw)) (mvT hZ0 (wd129 hw)) (notFace_of_selects (args := #[]) (mvT hZ0 (wd131 hw))) (mvT hZ0 (wd131 hw)) (mvT hZ0 (wd130 hw)) (by decide) (StrChars.Road.eqW (W := 0) hZ0 heq (kI := 4) (wd9 hw) Eg Vg Cg Kg (own_cod hpm) (own_up hpm) (Nat.le_of_ble_eq_true rfl) Ew Vw Cw Kw (own_cod hpm) (own_up hpm) (Nat.le_of_ble_eq_true rfl) Sz hz (by decide) (by decide)) qa29 qc29 (g := (mkF m 198 #[.val (.int p1), .val (.int p2), .val (.int p3), .val (.int p4), .val (.int p5), .val (.int p6), .val (.int ((p1 &&& (2147483647 : Int32)) % (6 : Int32))), .val (.int (own_ch p2)), .val (.int (own_ch p3)), .val (.int (own_ch p4)), .val (.int (own_ch p5)), .val (.int (own_ch p6)), .val (.ref x19), .val (.int (own_ch p4)), .val (.int (1 : Int32)), .val (.ref x27), .val (.ref x28)] [(.ref x28), (.ref x27)])) rfl (by rw [hml]; rfl) (Steps.refl _) (argsL := [(.ref x28)]) (rest := []) (lenOf pd_eq rfl) rfl (by show 2 * 0 + _ ≤ _; exact Nat.le_of_eq rfl) (hb hby at_198) (fun _ _ => ⟨rfl, rfl, (by decide : 8 + 0 ≤ _), (by decide : 37 + 0 ≤ _)⟩)
        dsimp only [Pt.U, Pt.locs, Pt.cells, Pt.slots] at X29 l29 y29 z29 st29 hQ29
        subst l29 y29 z29
        rcases hQ29 with ⟨⟨rfl, -⟩ | ⟨-, hb29⟩, rfl, q29⟩
        rotate_left
        · exact absurd rfl hb29
        have N29 := Fr.app N28 (Fr.nil n0)
        have pre30 : ∀ t, Steps p.tables e below (T29.setTop (mkF m 209 #[.val (.int p1), .val (.int p2), .val (.int p3), .val (.int p4), .val (.int p5), .val (.int p6), .val (.int ((p1 &&& (2147483647 : Int32)) % (6 : Int32))), .val (.int (own_ch p2)), .val (.int (own_ch p3)), .val (.int (own_ch p4)), .val (.int (own_ch p5)), .val (.int (own_ch p6)), .val (.ref x19), .val (.int (own_ch p4)), .val (.int (1 : Int32)), .val (.ref x27), .val (.ref x28)] [(.int (1 : Int32))])) t → Steps p.tables e below (s₁.setTop (entryFrame m #[(.int p1), (.int p2), (.int p3), (.int p4), (.int p5), (.int p6)] maxLocals)) t := fun t k => pre23 t (by
          show Steps p.tables e below (T22.setTop (mkF m 109 #[.val (.int p1), .val (.int p2), .val (.int p3), .val (.int p4), .val (.int p5), .val (.int p6), .val (.int ((p1 &&& (2147483647 : Int32)) % (6 : Int32))), .val (.int (own_ch p2)), .val (.int (own_ch p3)), .val (.int (own_ch p4)), .val (.int (own_ch p5)), .val (.int (own_ch p6)), .val (.ref x19), .val (.int (own_ch p4)), .unset, .unset, .unset] [(.int (own_in (own_ch p3)))])) _
          refine XS.ifNo X22.here hx rfl (hb hby at_109) rfl ((if0 _ _).trans (feq hc109).1) ?_
          refine XS.iload X22.here hx rfl (hb hby at_112) rfl ?_
          refine XS.iconst X22.here hx rfl (hb hby at_114) ?_
          refine XS.icmpYes X22.here hx rfl (pc0 := 115) (pc' := 126) rfl (hb hby at_115) rfl (tlt (by rw [hn]; decide)).1 (by decide) (by decide) ?_
          refine XS.iload X22.here hx rfl (hb hby at_126) rfl ?_
          refine XS.iconst X22.here hx rfl (hb hby at_128) ?_
          refine XS.icmpYes X22.here hx rfl (pc0 := 129) (pc' := 140) rfl (hb hby at_129) rfl (tlt (by rw [hn]; decide)).1 (by decide) (by decide) ?_
          refine XS.iconst X22.here hx rfl (hb hby at_140) ?_
          refine XS.goto X22.here hx rfl (pc0 := 141) (pc' := 145) rfl (hb hby at_141) (by decide) (by decide) ?_
          refine XS.istore X22.here hx rfl (hb hby at_145) rfl (l' := #[.val (.int p1), .val (.int p2), .val (.int p3), .val (.int p4), .val (.int p5), .val (.int p6), .val (.int ((p1 &&& (2147483647 : Int32)) % (6 : Int32))), .val (.int (own_ch p2)), .val (.int (own_ch p3)), .val (.int (own_ch p4)), .val (.int (own_ch p5)), .val (.int (own_ch p6)), .val (.ref x19), .val (.int (own_ch p4)), .val (.int (1 : Int32)), .unset, .unset]) rfl ?_
          refine XS.aload X22.here hx rfl (hb hby at_147) rfl rfl ?_
          refine st27 _ ?_
          refine XS.astore X27.here hx rfl (hb hby at_152) rfl rfl (l' := #[.val (.int p1), .val (.int p2), .val (.int p3), .val (.int p4), .val (.int p5), .val (.int p6), .val (.int ((p1 &&& (2147483647 : Int32)) % (6 : Int32))), .val (.int (own_ch p2)), .val (.int (own_ch p3)), .val (.int (own_ch p4)), .val (.int (own_ch p5)), .val (.int (own_ch p6)), .val (.ref x19), .val (.int (own_ch p4)), .val (.int (1 : Int32)), .val (.ref x27), .unset]) rfl ?_
          refine XS.iload X27.here hx rfl (hb hby at_154) rfl ?_
          refine XS.ifYes X27.here hx rfl (pc0 := 156) (pc' := 170) rfl (hb hby at_156) rfl ((if0 _ _).trans (feq (by decide : ¬ ((1 : Int32) = (0 : Int32)))).2) (by decide) (by decide) ?_
          refine XS.iload X27.here hx rfl (hb hby at_170) rfl ?_
          refine XS.iconst X27.here hx rfl (hb hby at_172) ?_
          refine XS.isub X27.here hx rfl (hb hby at_173) rfl ?_
          refine XS.iload X27.here hx rfl (hb hby at_174) rfl ?_
          refine XS.iload X27.here hx rfl (hb hby at_176) rfl ?_
          refine XS.iload X27.here hx rfl (hb hby at_178) rfl ?_
          refine XS.iload X27.here hx rfl (hb hby at_180) rfl ?_
          refine XS.iload X27.here hx rfl (hb hby at_182) rfl ?_
          refine st28 _ ?_
          refine XS.astore X28.here hx rfl (hb hby at_187) rfl rfl (l' := #[.val (.int p1), .val (.int p2), .val (.int p3), .val (.int p4), .val (.int p5), .val (.int p6), .val (.int ((p1 &&& (2147483647 : Int32)) % (6 : Int32))), .val (.int (own_ch p2)), .val (.int (own_ch p3)), .val (.int (own_ch p4)), .val (.int (own_ch p5)), .val (.int (own_ch p6)), .val (.ref x19), .val (.int (own_ch p4)), .val (.int (1 : Int32)), .val (.ref x27), .val (.ref x28)]) rfl ?_
          refine XS.aload X28.here hx rfl (hb hby at_189) rfl rfl ?_
          refine XS.ifnullNo X28.here hx rfl (hb hby at_191) rfl ?_
          refine XS.aload X28.here hx rfl (hb hby at_194) rfl rfl ?_
          refine XS.aload X28.here hx rfl (hb hby at_196) rfl rfl ?_
          refine st29.trans ?_
          refine XS.ifNo X29.here hx rfl (hb hby at_201) rfl ((if0 _ _).trans (feq (by decide : ¬ ((1 : Int32) = (0 : Int32)))).1) ?_
          refine XS.iconst X29.here hx rfl (hb hby at_204) ?_
          refine XS.goto X29.here hx rfl (pc0 := 205) (pc' := 209) rfl (hb hby at_205) (by decide) (by decide) ?_
          exact k)
        obtain ⟨fs31, hr31, hrun31, hended31, hE31⟩ := X29.leaveW hS0 (by first | exact (Nat.le_trans (Nat.le_trans (Nat.le_trans (Nat.le_refl _) E19.1) E27.1) E28.1) | (rw [q29]; exact (Nat.le_trans (Nat.le_trans (Nat.le_trans (Nat.le_refl _) E19.1) E27.1) E28.1))) (v := some (.int (1 : Int32))) (fun h => by rw [Bd.returns] at h; cases h)
        refine ⟨_, _, pre30 _ ?_, hrun31, hended31, _, _, rfl, ?_, ?_, hE31.1, hE31.2.1, hE31.2.2.1, hE31.2.2.2.mono (by decide) (by decide)⟩
        · show Steps p.tables e below (T29.setTop (mkF m 209 #[.val (.int p1), .val (.int p2), .val (.int p3), .val (.int p4), .val (.int p5), .val (.int p6), .val (.int ((p1 &&& (2147483647 : Int32)) % (6 : Int32))), .val (.int (own_ch p2)), .val (.int (own_ch p3)), .val (.int (own_ch p4)), .val (.int (own_ch p5)), .val (.int (own_ch p6)), .val (.ref x19), .val (.int (own_ch p4)), .val (.int (1 : Int32)), .val (.ref x27), .val (.ref x28)] [(.int (1 : Int32))])) _
          exact retN X29 hx (t := .boolean) Bd.returns (by simp) (hb hby at_209) hr31
        · show Q0 Z p1 p2 p3 p4 p5 p6 h0 n0 _ T29.heap _
          rw [q29]
          exact ⟨rfl, N29⟩
        · show CHr Z own_EL s.vm s.heap T29.vm T29.heap
          rw [q29]
          rw [hh]
          exact CR28.trans (CHv.at X29 hZ0 hEL CH28)
      obtain ⟨_, _, ⟨T32, L32, k32, n32⟩, -, X32, ⟨Lc32, hQ32, l32, y32, z32⟩, st32⟩ := Jvm.LawKit.callS X19 hx (y := (⟨"com/example/oxpecker/oxpecker/MessageTemplate", "soleParameter", "(Ljava/lang/String;)Ljava/lang/String;"⟩ : MethodName)) ho0 (mvT hZ0 (wd30 hw)) (mvT hZ0 (wd31 hw)) (mvT hZ0 (wd32 hw)) (mvT hZ0 (wd33 hw)) (by decide) (backOf (W := 0) (rmspN3 l Z a0 hw [] x19 (own_ch p2) (own_ch p3) (own_ch p4) T19.heap n0 (Nat.le_trans Z0 E19.1) S19 EN_19 (own_p1 (own_chr p2) (own_p1 (own_chr p3) (own_p1 (own_chr p4) own_p0))) (fun q => by
            obtain ⟨w0, w1, w2⟩ := q
            contradiction)) hZ0 (wd33 hw) (wd32 hw) (by decide) (by decide)) (g := (mkF m 149 #[.val (.int p1), .val (.int p2), .val (.int p3), .val (.int p4), .val (.int p5), .val (.int p6), .val (.int ((p1 &&& (2147483647 : Int32)) % (6 : Int32))), .val (.int (own_ch p2)), .val (.int (own_ch p3)), .val (.int (own_ch p4)), .val (.int (own_ch p5)), .val (.int (own_ch p6)), .val (.ref x19), .val (.int (own_ch p4)), .val (.int (0 : Int32)), .unset, .unset] [(.ref x19)])) rfl (by rw [hml]; rfl) (argsL := [(.ref x19)]) (rest := []) (lenOf pd_spN3 rfl) rfl (by show 2 * 0 + _ ≤ _; exact Nat.le_of_eq rfl) (hb hby at_149) (fun _ _ => ⟨rfl, rfl, (by decide : 3 + 0 ≤ _), (by decide : 14 + 0 ≤ _)⟩)
      dsimp only [Pt.U, Pt.locs, Pt.cells, Pt.slots] at X32 l32 y32 z32 st32 hQ32
      subst l32 y32 z32
      obtain ⟨rfl, N32q, q32⟩ := hQ32
      have N32 := Fr.app N19 N32q
      have pre33 : ∀ t, Steps p.tables e below (T32.setTop (mkF m 169 #[.val (.int p1), .val (.int p2), .val (.int p3), .val (.int p4), .val (.int p5), .val (.int p6), .val (.int ((p1 &&& (2147483647 : Int32)) % (6 : Int32))), .val (.int (own_ch p2)), .val (.int (own_ch p3)), .val (.int (own_ch p4)), .val (.int (own_ch p5)), .val (.int (own_ch p6)), .val (.ref x19), .val (.int (own_ch p4)), .val (.int (0 : Int32)), .val .null, .unset] [(.int (1 : Int32))])) t → Steps p.tables e below (s₁.setTop (entryFrame m #[(.int p1), (.int p2), (.int p3), (.int p4), (.int p5), (.int p6)] maxLocals)) t := fun t k => pre21 t (by
        show Steps p.tables e below (T19.setTop (mkF m 101 #[.val (.int p1), .val (.int p2), .val (.int p3), .val (.int p4), .val (.int p5), .val (.int p6), .val (.int ((p1 &&& (2147483647 : Int32)) % (6 : Int32))), .val (.int (own_ch p2)), .val (.int (own_ch p3)), .val (.int (own_ch p4)), .val (.int (own_ch p5)), .val (.int (own_ch p6)), .val (.ref x19), .val (.int (own_ch p4)), .unset, .unset, .unset] [(.int (125 : Int32)), (.int (own_ch p4))])) _
        refine XS.icmpYes X19.here hx rfl (pc0 := 101) (pc' := 144) rfl (hb hby at_101) rfl (feq hc101).2 (by decide) (by decide) ?_
        refine XS.iconst X19.here hx rfl (hb hby at_144) ?_
        refine XS.istore X19.here hx rfl (hb hby at_145) rfl (l' := #[.val (.int p1), .val (.int p2), .val (.int p3), .val (.int p4), .val (.int p5), .val (.int p6), .val (.int ((p1 &&& (2147483647 : Int32)) % (6 : Int32))), .val (.int (own_ch p2)), .val (.int (own_ch p3)), .val (.int (own_ch p4)), .val (.int (own_ch p5)), .val (.int (own_ch p6)), .val (.ref x19), .val (.int (own_ch p4)), .val (.int (0 : Int32)), .unset, .unset]) rfl ?_
        refine XS.aload X19.here hx rfl (hb hby at_147) rfl rfl ?_
        refine st32 _ ?_
        refine XS.astore X32.here hx rfl (hb hby at_152) rfl rfl (l' := #[.val (.int p1), .val (.int p2), .val (.int p3), .val (.int p4), .val (.int p5), .val (.int p6), .val (.int ((p1 &&& (2147483647 : Int32)) % (6 : Int32))), .val (.int (own_ch p2)), .val (.int (own_ch p3)), .val (.int (own_ch p4)), .val (.int (own_ch p5)), .val (.int (own_ch p6)), .val (.ref x19), .val (.int (own_ch p4)), .val (.int (0 : Int32)), .val .null, .unset]) rfl ?_
        refine XS.iload X32.here hx rfl (hb hby at_154) rfl ?_
        refine XS.ifNo X32.here hx rfl (hb hby at_156) rfl ((if0 _ _).trans (teq (by decide : (0 : Int32) = (0 : Int32))).2) ?_
        refine XS.aload X32.here hx rfl (hb hby at_159) rfl rfl ?_
        refine XS.ifnonnullNo X32.here hx rfl (hb hby at_161) rfl ?_
        refine XS.iconst X32.here hx rfl (hb hby at_164) ?_
        refine XS.goto X32.here hx rfl (pc0 := 165) (pc' := 169) rfl (hb hby at_165) (by decide) (by decide) ?_
        exact k)
      obtain ⟨fs34, hr34, hrun34, hended34, hE34⟩ := X32.leaveW hS0 (by first | exact (Nat.le_trans (Nat.le_refl _) E19.1) | (rw [q32]; exact (Nat.le_trans (Nat.le_refl _) E19.1))) (v := some (.int (1 : Int32))) (fun h => by rw [Bd.returns] at h; cases h)
      refine ⟨_, _, pre33 _ ?_, hrun34, hended34, _, _, rfl, ?_, ?_, hE34.1, hE34.2.1, hE34.2.2.1, hE34.2.2.2.mono (by decide) (by decide)⟩
      · show Steps p.tables e below (T32.setTop (mkF m 169 #[.val (.int p1), .val (.int p2), .val (.int p3), .val (.int p4), .val (.int p5), .val (.int p6), .val (.int ((p1 &&& (2147483647 : Int32)) % (6 : Int32))), .val (.int (own_ch p2)), .val (.int (own_ch p3)), .val (.int (own_ch p4)), .val (.int (own_ch p5)), .val (.int (own_ch p6)), .val (.ref x19), .val (.int (own_ch p4)), .val (.int (0 : Int32)), .val .null, .unset] [(.int (1 : Int32))])) _
        exact retN X32 hx (t := .boolean) Bd.returns (by simp) (hb hby at_169) hr34
      · show Q0 Z p1 p2 p3 p4 p5 p6 h0 n0 _ T32.heap _
        rw [q32]
        exact ⟨rfl, N32⟩
      · show CHr Z own_EL s.vm s.heap T32.vm T32.heap
        rw [q32]
        rw [hh]
        exact CR19.trans (CHv.at X32 hZ0 hEL CH19)
    obtain ⟨_, _, ⟨T35, L35, k35, n35⟩, -, X35, ⟨Lc35, hQ35, l35, y35, z35⟩, st35⟩ := Jvm.LawKit.callS X19 hx (y := (⟨"com/example/oxpecker/oxpecker/MessageTemplate", "soleParameter", "(Ljava/lang/String;)Ljava/lang/String;"⟩ : MethodName)) ho0 (mvT hZ0 (wd30 hw)) (mvT hZ0 (wd31 hw)) (mvT hZ0 (wd32 hw)) (mvT hZ0 (wd33 hw)) (by decide) (backOf (W := 0) (rmspN3 l Z a0 hw [] x19 (own_ch p2) (own_ch p3) (own_ch p4) T19.heap n0 (Nat.le_trans Z0 E19.1) S19 EN_19 (own_p1 (own_chr p2) (own_p1 (own_chr p3) (own_p1 (own_chr p4) own_p0))) (fun q => by
          obtain ⟨w0, w1, w2⟩ := q
          contradiction)) hZ0 (wd33 hw) (wd32 hw) (by decide) (by decide)) (g := (mkF m 149 #[.val (.int p1), .val (.int p2), .val (.int p3), .val (.int p4), .val (.int p5), .val (.int p6), .val (.int ((p1 &&& (2147483647 : Int32)) % (6 : Int32))), .val (.int (own_ch p2)), .val (.int (own_ch p3)), .val (.int (own_ch p4)), .val (.int (own_ch p5)), .val (.int (own_ch p6)), .val (.ref x19), .val (.int (own_ch p4)), .val (.int (0 : Int32)), .unset, .unset] [(.ref x19)])) rfl (by rw [hml]; rfl) (argsL := [(.ref x19)]) (rest := []) (lenOf pd_spN3 rfl) rfl (by show 2 * 0 + _ ≤ _; exact Nat.le_of_eq rfl) (hb hby at_149) (fun _ _ => ⟨rfl, rfl, (by decide : 3 + 0 ≤ _), (by decide : 14 + 0 ≤ _)⟩)
    dsimp only [Pt.U, Pt.locs, Pt.cells, Pt.slots] at X35 l35 y35 z35 st35 hQ35
    subst l35 y35 z35
    obtain ⟨rfl, N35q, q35⟩ := hQ35
    have N35 := Fr.app N19 N35q
    have pre36 : ∀ t, Steps p.tables e below (T35.setTop (mkF m 169 #[.val (.int p1), .val (.int p2), .val (.int p3), .val (.int p4), .val (.int p5), .val (.int p6), .val (.int ((p1 &&& (2147483647 : Int32)) % (6 : Int32))), .val (.int (own_ch p2)), .val (.int (own_ch p3)), .val (.int (own_ch p4)), .val (.int (own_ch p5)), .val (.int (own_ch p6)), .val (.ref x19), .val (.int (own_ch p4)), .val (.int (0 : Int32)), .val .null, .unset] [(.int (1 : Int32))])) t → Steps p.tables e below (s₁.setTop (entryFrame m #[(.int p1), (.int p2), (.int p3), (.int p4), (.int p5), (.int p6)] maxLocals)) t := fun t k => pre20 t (by
      show Steps p.tables e below (T19.setTop (mkF m 94 #[.val (.int p1), .val (.int p2), .val (.int p3), .val (.int p4), .val (.int p5), .val (.int p6), .val (.int ((p1 &&& (2147483647 : Int32)) % (6 : Int32))), .val (.int (own_ch p2)), .val (.int (own_ch p3)), .val (.int (own_ch p4)), .val (.int (own_ch p5)), .val (.int (own_ch p6)), .val (.ref x19), .val (.int (own_ch p4)), .unset, .unset, .unset] [(.int (123 : Int32)), (.int (own_ch p2))])) _
      refine XS.icmpYes X19.here hx rfl (pc0 := 94) (pc' := 144) rfl (hb hby at_94) rfl (feq hc94).2 (by decide) (by decide) ?_
      refine XS.iconst X19.here hx rfl (hb hby at_144) ?_
      refine XS.istore X19.here hx rfl (hb hby at_145) rfl (l' := #[.val (.int p1), .val (.int p2), .val (.int p3), .val (.int p4), .val (.int p5), .val (.int p6), .val (.int ((p1 &&& (2147483647 : Int32)) % (6 : Int32))), .val (.int (own_ch p2)), .val (.int (own_ch p3)), .val (.int (own_ch p4)), .val (.int (own_ch p5)), .val (.int (own_ch p6)), .val (.ref x19), .val (.int (own_ch p4)), .val (.int (0 : Int32)), .unset, .unset]) rfl ?_
      refine XS.aload X19.here hx rfl (hb hby at_147) rfl rfl ?_
      refine st35 _ ?_
      refine XS.astore X35.here hx rfl (hb hby at_152) rfl rfl (l' := #[.val (.int p1), .val (.int p2), .val (.int p3), .val (.int p4), .val (.int p5), .val (.int p6), .val (.int ((p1 &&& (2147483647 : Int32)) % (6 : Int32))), .val (.int (own_ch p2)), .val (.int (own_ch p3)), .val (.int (own_ch p4)), .val (.int (own_ch p5)), .val (.int (own_ch p6)), .val (.ref x19), .val (.int (own_ch p4)), .val (.int (0 : Int32)), .val .null, .unset]) rfl ?_
      refine XS.iload X35.here hx rfl (hb hby at_154) rfl ?_
      refine XS.ifNo X35.here hx rfl (hb hby at_156) rfl ((if0 _ _).trans (teq (by decide : (0 : Int32) = (0 : Int32))).2) ?_
      refine XS.aload X35.here hx rfl (hb hby at_159) rfl rfl ?_
      refine XS.ifnonnullNo X35.here hx rfl (hb hby at_161) rfl ?_
      refine XS.iconst X35.here hx rfl (hb hby at_164) ?_
      refine XS.goto X35.here hx rfl (pc0 := 165) (pc' := 169) rfl (hb hby at_165) (by decide) (by decide) ?_
      exact k)
    obtain ⟨fs37, hr37, hrun37, hended37, hE37⟩ := X35.leaveW hS0 (by first | exact (Nat.le_trans (Nat.le_refl _) E19.1) | (rw [q35]; exact (Nat.le_trans (Nat.le_refl _) E19.1))) (v := some (.int (1 : Int32))) (fun h => by rw [Bd.returns] at h; cases h)
    refine ⟨_, _, pre36 _ ?_, hrun37, hended37, _, _, rfl, ?_, ?_, hE37.1, hE37.2.1, hE37.2.2.1, hE37.2.2.2.mono (by decide) (by decide)⟩
    · show Steps p.tables e below (T35.setTop (mkF m 169 #[.val (.int p1), .val (.int p2), .val (.int p3), .val (.int p4), .val (.int p5), .val (.int p6), .val (.int ((p1 &&& (2147483647 : Int32)) % (6 : Int32))), .val (.int (own_ch p2)), .val (.int (own_ch p3)), .val (.int (own_ch p4)), .val (.int (own_ch p5)), .val (.int (own_ch p6)), .val (.ref x19), .val (.int (own_ch p4)), .val (.int (0 : Int32)), .val .null, .unset] [(.int (1 : Int32))])) _
      exact retN X35 hx (t := .boolean) Bd.returns (by simp) (hb hby at_169) hr37
    · show Q0 Z p1 p2 p3 p4 p5 p6 h0 n0 _ T35.heap _
      rw [q35]
      exact ⟨rfl, N35⟩
    · show CHr Z own_EL s.vm s.heap T35.vm T35.heap
      rw [q35]
      rw [hh]
      exact CR19.trans (CHv.at X35 hZ0 hEL CH19)
  · obtain ⟨_, _, ⟨T38, L38, k38, n38⟩, -, X38, ⟨Lc38, hQ38, l38, y38, z38⟩, st38⟩ := Jvm.LawKit.callS X5 hx (y := (⟨"com/example/oxpecker/oxpecker/MessageTemplateSoleParameterPinLaw", "make", "(ICCCCC)Ljava/lang/String;"⟩ : MethodName)) ho0 (mvT hZ0 (wd5 hw)) (mvT hZ0 (wd6 hw)) (mvT hZ0 (wd3 hw)) (mvT hZ0 (wd7 hw)) (by decide) (backOf (W := 0) (rmmk4 l Z a0 hw [] ((p1 &&& (2147483647 : Int32)) % (6 : Int32)) (own_ch p2) (own_ch p3) (own_ch p4) (own_ch p5) (own_ch p6) h0 n0 Z0 EN hn (own_chr p2) (own_chr p3) (own_chr p4) (own_chr p5)) hZ0 (wd7 hw) (wd3 hw) (by decide) (by decide)) (g := (mkF m 53 #[.val (.int p1), .val (.int p2), .val (.int p3), .val (.int p4), .val (.int p5), .val (.int p6), .val (.int ((p1 &&& (2147483647 : Int32)) % (6 : Int32))), .val (.int (own_ch p2)), .val (.int (own_ch p3)), .val (.int (own_ch p4)), .val (.int (own_ch p5)), .val (.int (own_ch p6)), .unset, .unset, .unset, .unset, .unset] [(.int (own_ch p6)), (.int (own_ch p5)), (.int (own_ch p4)), (.int (own_ch p3)), (.int (own_ch p2)), (.int ((p1 &&& (2147483647 : Int32)) % (6 : Int32)))])) rfl (by rw [hml]; rfl) (argsL := [(.int ((p1 &&& (2147483647 : Int32)) % (6 : Int32))), (.int (own_ch p2)), (.int (own_ch p3)), (.int (own_ch p4)), (.int (own_ch p5)), (.int (own_ch p6))]) (rest := []) (lenOf pd_mk4 rfl) rfl (by show 2 * 0 + _ ≤ _; exact Nat.le_of_eq rfl) (hb hby at_53) (fun _ _ => ⟨rfl, q5, (by decide : 0 + 3 ≤ _), (by decide : 0 + 14 ≤ _)⟩)
    dsimp only [Pt.U, Pt.locs, Pt.cells, Pt.slots] at X38 l38 y38 z38 st38 hQ38
    subst l38 y38 z38
    obtain ⟨x38, rfl, N38q, E38, S38⟩ := hQ38
    have N38 := Fr.app N5 N38q
    have EN_38 := EN.ext E38
    have K38 := (Keep.refl h0 []).ext E38
    have CR38 := (CHr.refl hCH).trans (CHr.ext E38 hCH)
    have CH38 := CHv.ext E38 hCH
    have pre39 : ∀ t, Steps p.tables e below (T38.setTop (mkF m 94 #[.val (.int p1), .val (.int p2), .val (.int p3), .val (.int p4), .val (.int p5), .val (.int p6), .val (.int ((p1 &&& (2147483647 : Int32)) % (6 : Int32))), .val (.int (own_ch p2)), .val (.int (own_ch p3)), .val (.int (own_ch p4)), .val (.int (own_ch p5)), .val (.int (own_ch p6)), .val (.ref x38), .val (.int (own_ch p5)), .unset, .unset, .unset] [(.int (123 : Int32)), (.int (own_ch p2))])) t → Steps p.tables e below (s₁.setTop (entryFrame m #[(.int p1), (.int p2), (.int p3), (.int p4), (.int p5), (.int p6)] maxLocals)) t := fun t k => pre6 t (by
      show Steps p.tables e below (T5.setTop (mkF m 53 #[.val (.int p1), .val (.int p2), .val (.int p3), .val (.int p4), .val (.int p5), .val (.int p6), .val (.int ((p1 &&& (2147483647 : Int32)) % (6 : Int32))), .val (.int (own_ch p2)), .val (.int (own_ch p3)), .val (.int (own_ch p4)), .val (.int (own_ch p5)), .val (.int (own_ch p6)), .unset, .unset, .unset, .unset, .unset] [(.int (own_ch p6)), (.int (own_ch p5)), (.int (own_ch p4)), (.int (own_ch p3)), (.int (own_ch p2)), (.int ((p1 &&& (2147483647 : Int32)) % (6 : Int32)))])) _
      refine st38 _ ?_
      refine XS.astore X38.here hx rfl (hb hby at_56) rfl rfl (l' := #[.val (.int p1), .val (.int p2), .val (.int p3), .val (.int p4), .val (.int p5), .val (.int p6), .val (.int ((p1 &&& (2147483647 : Int32)) % (6 : Int32))), .val (.int (own_ch p2)), .val (.int (own_ch p3)), .val (.int (own_ch p4)), .val (.int (own_ch p5)), .val (.int (own_ch p6)), .val (.ref x38), .unset, .unset, .unset, .unset]) rfl ?_
      refine XS.iload X38.here hx rfl (hb hby at_58) rfl ?_
      refine XS.iconst X38.here hx rfl (hb hby at_60) ?_
      refine XS.icmpYes X38.here hx rfl (pc0 := 61) (pc' := 69) rfl (hb hby at_61) rfl (feq (by rw [hn]; decide)).2 (by decide) (by decide) ?_
      refine XS.iload X38.here hx rfl (hb hby at_69) rfl ?_
      refine XS.iconst X38.here hx rfl (hb hby at_71) ?_
      refine XS.icmpNo X38.here hx rfl (hb hby at_72) rfl (teq hn).2 ?_
      refine XS.iload X38.here hx rfl (hb hby at_75) rfl ?_
      refine XS.goto X38.here hx rfl (pc0 := 77) (pc' := 82) rfl (hb hby at_77) (by decide) (by decide) ?_
      refine XS.istore X38.here hx rfl (hb hby at_82) rfl (l' := #[.val (.int p1), .val (.int p2), .val (.int p3), .val (.int p4), .val (.int p5), .val (.int p6), .val (.int ((p1 &&& (2147483647 : Int32)) % (6 : Int32))), .val (.int (own_ch p2)), .val (.int (own_ch p3)), .val (.int (own_ch p4)), .val (.int (own_ch p5)), .val (.int (own_ch p6)), .val (.ref x38), .val (.int (own_ch p5)), .unset, .unset, .unset]) rfl ?_
      refine XS.iload X38.here hx rfl (hb hby at_84) rfl ?_
      refine XS.iconst X38.here hx rfl (hb hby at_86) ?_
      refine XS.icmpNo X38.here hx rfl (hb hby at_87) rfl (flt (by rw [hn]; decide)).1 ?_
      refine XS.iload X38.here hx rfl (hb hby at_90) rfl ?_
      refine XS.bipush X38.here hx rfl (hb hby at_92) ?_
      exact k)
    by_cases hc94 : (own_ch p2) = (123 : Int32)
    · have pre40 : ∀ t, Steps p.tables e below (T38.setTop (mkF m 101 #[.val (.int p1), .val (.int p2), .val (.int p3), .val (.int p4), .val (.int p5), .val (.int p6), .val (.int ((p1 &&& (2147483647 : Int32)) % (6 : Int32))), .val (.int (own_ch p2)), .val (.int (own_ch p3)), .val (.int (own_ch p4)), .val (.int (own_ch p5)), .val (.int (own_ch p6)), .val (.ref x38), .val (.int (own_ch p5)), .unset, .unset, .unset] [(.int (125 : Int32)), (.int (own_ch p5))])) t → Steps p.tables e below (s₁.setTop (entryFrame m #[(.int p1), (.int p2), (.int p3), (.int p4), (.int p5), (.int p6)] maxLocals)) t := fun t k => pre39 t (by
        show Steps p.tables e below (T38.setTop (mkF m 94 #[.val (.int p1), .val (.int p2), .val (.int p3), .val (.int p4), .val (.int p5), .val (.int p6), .val (.int ((p1 &&& (2147483647 : Int32)) % (6 : Int32))), .val (.int (own_ch p2)), .val (.int (own_ch p3)), .val (.int (own_ch p4)), .val (.int (own_ch p5)), .val (.int (own_ch p6)), .val (.ref x38), .val (.int (own_ch p5)), .unset, .unset, .unset] [(.int (123 : Int32)), (.int (own_ch p2))])) _
        refine XS.icmpNo X38.here hx rfl (hb hby at_94) rfl (teq hc94).2 ?_
        refine XS.iload X38.here hx rfl (hb hby at_97) rfl ?_
        refine XS.bipush X38.here hx rfl (hb hby at_99) ?_
        exact k)
      by_cases hc101 : (own_ch p5) = (125 : Int32)
      · obtain ⟨_, _, ⟨T41, L41, k41, n41⟩, -, X41, ⟨Lc41, hQ41, l41, y41, z41⟩, st41⟩ := Jvm.LawKit.callS X38 hx (y := (⟨"com/example/oxpecker/oxpecker/MessageTemplateSoleParameterPinLaw", "inName", "(C)Z"⟩ : MethodName)) ho0 (mvT hZ0 (wd88 hw)) (mvT hZ0 (wd89 hw)) (mvT hZ0 (wd3 hw)) (mvT hZ0 (wd90 hw)) (by decide) (backOf (W := 0) (rmln l Z a0 hw [] (own_ch p3) T38.heap n0 (Nat.le_trans Z0 E38.1)) hZ0 (wd90 hw) (wd3 hw) (by decide) (by decide)) (g := (mkF m 106 #[.val (.int p1), .val (.int p2), .val (.int p3), .val (.int p4), .val (.int p5), .val (.int p6), .val (.int ((p1 &&& (2147483647 : Int32)) % (6 : Int32))), .val (.int (own_ch p2)), .val (.int (own_ch p3)), .val (.int (own_ch p4)), .val (.int (own_ch p5)), .val (.int (own_ch p6)), .val (.ref x38), .val (.int (own_ch p5)), .unset, .unset, .unset] [(.int (own_ch p3))])) rfl (by rw [hml]; rfl) (argsL := [(.int (own_ch p3))]) (rest := []) (lenOf pd_ln rfl) rfl (by show 2 * 0 + _ ≤ _; exact Nat.le_of_eq rfl) (hb hby at_106) (fun _ _ => ⟨rfl, rfl, (by decide : 3 + 0 ≤ _), (by decide : 14 + 0 ≤ _)⟩)
        dsimp only [Pt.U, Pt.locs, Pt.cells, Pt.slots] at X41 l41 y41 z41 st41 hQ41
        subst l41 y41 z41
        obtain ⟨rfl, N41q, q41⟩ := hQ41
        have N41 := Fr.app N38 N41q
        have pre42 : ∀ t, Steps p.tables e below (T41.setTop (mkF m 109 #[.val (.int p1), .val (.int p2), .val (.int p3), .val (.int p4), .val (.int p5), .val (.int p6), .val (.int ((p1 &&& (2147483647 : Int32)) % (6 : Int32))), .val (.int (own_ch p2)), .val (.int (own_ch p3)), .val (.int (own_ch p4)), .val (.int (own_ch p5)), .val (.int (own_ch p6)), .val (.ref x38), .val (.int (own_ch p5)), .unset, .unset, .unset] [(.int (own_in (own_ch p3)))])) t → Steps p.tables e below (s₁.setTop (entryFrame m #[(.int p1), (.int p2), (.int p3), (.int p4), (.int p5), (.int p6)] maxLocals)) t := fun t k => pre40 t (by
          show Steps p.tables e below (T38.setTop (mkF m 101 #[.val (.int p1), .val (.int p2), .val (.int p3), .val (.int p4), .val (.int p5), .val (.int p6), .val (.int ((p1 &&& (2147483647 : Int32)) % (6 : Int32))), .val (.int (own_ch p2)), .val (.int (own_ch p3)), .val (.int (own_ch p4)), .val (.int (own_ch p5)), .val (.int (own_ch p6)), .val (.ref x38), .val (.int (own_ch p5)), .unset, .unset, .unset] [(.int (125 : Int32)), (.int (own_ch p5))])) _
          refine XS.icmpNo X38.here hx rfl (hb hby at_101) rfl (teq hc101).2 ?_
          refine XS.iload X38.here hx rfl (hb hby at_104) rfl ?_
          refine st41 _ ?_
          exact k)
        by_cases hc109 : (own_in (own_ch p3)) = (0 : Int32)
        · obtain ⟨_, _, ⟨T43, L43, k43, n43⟩, -, X43, ⟨Lc43, hQ43, l43, y43, z43⟩, st43⟩ := Jvm.LawKit.callS X41 hx (y := (⟨"com/example/oxpecker/oxpecker/MessageTemplate", "soleParameter", "(Ljava/lang/String;)Ljava/lang/String;"⟩ : MethodName)) ho0 (mvT hZ0 (wd30 hw)) (mvT hZ0 (wd31 hw)) (mvT hZ0 (wd32 hw)) (mvT hZ0 (wd33 hw)) (by decide) (backOf (W := 0) (rmspN4 l Z a0 hw [] x38 (own_ch p2) (own_ch p3) (own_ch p4) (own_ch p5) T38.heap n0 (Nat.le_trans Z0 E38.1) S38 EN_38 (own_p1 (own_chr p2) (own_p1 (own_chr p3) (own_p1 (own_chr p4) (own_p1 (own_chr p5) own_p0)))) (fun q => by
                obtain ⟨w0, w1, w2, w3⟩ := q
                contradiction)) hZ0 (wd33 hw) (wd32 hw) (by decide) (by decide)) (g := (mkF m 149 #[.val (.int p1), .val (.int p2), .val (.int p3), .val (.int p4), .val (.int p5), .val (.int p6), .val (.int ((p1 &&& (2147483647 : Int32)) % (6 : Int32))), .val (.int (own_ch p2)), .val (.int (own_ch p3)), .val (.int (own_ch p4)), .val (.int (own_ch p5)), .val (.int (own_ch p6)), .val (.ref x38), .val (.int (own_ch p5)), .val (.int (0 : Int32)), .unset, .unset] [(.ref x38)])) rfl (by rw [hml]; rfl) (argsL := [(.ref x38)]) (rest := []) (lenOf pd_spN4 rfl) rfl (by show 2 * 0 + _ ≤ _; exact Nat.le_of_eq rfl) (hb hby at_149) (fun _ _ => ⟨rfl, q41, (by decide : 3 + 0 ≤ _), (by decide : 14 + 0 ≤ _)⟩)
          dsimp only [Pt.U, Pt.locs, Pt.cells, Pt.slots] at X43 l43 y43 z43 st43 hQ43
          subst l43 y43 z43
          obtain ⟨rfl, N43q, q43⟩ := hQ43
          have N43 := Fr.app N41 N43q
          have pre44 : ∀ t, Steps p.tables e below (T43.setTop (mkF m 169 #[.val (.int p1), .val (.int p2), .val (.int p3), .val (.int p4), .val (.int p5), .val (.int p6), .val (.int ((p1 &&& (2147483647 : Int32)) % (6 : Int32))), .val (.int (own_ch p2)), .val (.int (own_ch p3)), .val (.int (own_ch p4)), .val (.int (own_ch p5)), .val (.int (own_ch p6)), .val (.ref x38), .val (.int (own_ch p5)), .val (.int (0 : Int32)), .val .null, .unset] [(.int (1 : Int32))])) t → Steps p.tables e below (s₁.setTop (entryFrame m #[(.int p1), (.int p2), (.int p3), (.int p4), (.int p5), (.int p6)] maxLocals)) t := fun t k => pre42 t (by
            show Steps p.tables e below (T41.setTop (mkF m 109 #[.val (.int p1), .val (.int p2), .val (.int p3), .val (.int p4), .val (.int p5), .val (.int p6), .val (.int ((p1 &&& (2147483647 : Int32)) % (6 : Int32))), .val (.int (own_ch p2)), .val (.int (own_ch p3)), .val (.int (own_ch p4)), .val (.int (own_ch p5)), .val (.int (own_ch p6)), .val (.ref x38), .val (.int (own_ch p5)), .unset, .unset, .unset] [(.int (own_in (own_ch p3)))])) _
            refine XS.ifYes X41.here hx rfl (pc0 := 109) (pc' := 144) rfl (hb hby at_109) rfl ((if0 _ _).trans (teq hc109).1) (by decide) (by decide) ?_
            refine XS.iconst X41.here hx rfl (hb hby at_144) ?_
            refine XS.istore X41.here hx rfl (hb hby at_145) rfl (l' := #[.val (.int p1), .val (.int p2), .val (.int p3), .val (.int p4), .val (.int p5), .val (.int p6), .val (.int ((p1 &&& (2147483647 : Int32)) % (6 : Int32))), .val (.int (own_ch p2)), .val (.int (own_ch p3)), .val (.int (own_ch p4)), .val (.int (own_ch p5)), .val (.int (own_ch p6)), .val (.ref x38), .val (.int (own_ch p5)), .val (.int (0 : Int32)), .unset, .unset]) rfl ?_
            refine XS.aload X41.here hx rfl (hb hby at_147) rfl rfl ?_
            refine st43 _ ?_
            refine XS.astore X43.here hx rfl (hb hby at_152) rfl rfl (l' := #[.val (.int p1), .val (.int p2), .val (.int p3), .val (.int p4), .val (.int p5), .val (.int p6), .val (.int ((p1 &&& (2147483647 : Int32)) % (6 : Int32))), .val (.int (own_ch p2)), .val (.int (own_ch p3)), .val (.int (own_ch p4)), .val (.int (own_ch p5)), .val (.int (own_ch p6)), .val (.ref x38), .val (.int (own_ch p5)), .val (.int (0 : Int32)), .val .null, .unset]) rfl ?_
            refine XS.iload X43.here hx rfl (hb hby at_154) rfl ?_
            refine XS.ifNo X43.here hx rfl (hb hby at_156) rfl ((if0 _ _).trans (teq (by decide : (0 : Int32) = (0 : Int32))).2) ?_
            refine XS.aload X43.here hx rfl (hb hby at_159) rfl rfl ?_
            refine XS.ifnonnullNo X43.here hx rfl (hb hby at_161) rfl ?_
            refine XS.iconst X43.here hx rfl (hb hby at_164) ?_
            refine XS.goto X43.here hx rfl (pc0 := 165) (pc' := 169) rfl (hb hby at_165) (by decide) (by decide) ?_
            exact k)
          obtain ⟨fs45, hr45, hrun45, hended45, hE45⟩ := X43.leaveW hS0 (by first | exact (Nat.le_trans (Nat.le_refl _) E38.1) | (rw [q43]; exact (Nat.le_trans (Nat.le_refl _) E38.1))) (v := some (.int (1 : Int32))) (fun h => by rw [Bd.returns] at h; cases h)
          refine ⟨_, _, pre44 _ ?_, hrun45, hended45, _, _, rfl, ?_, ?_, hE45.1, hE45.2.1, hE45.2.2.1, hE45.2.2.2.mono (by decide) (by decide)⟩
          · show Steps p.tables e below (T43.setTop (mkF m 169 #[.val (.int p1), .val (.int p2), .val (.int p3), .val (.int p4), .val (.int p5), .val (.int p6), .val (.int ((p1 &&& (2147483647 : Int32)) % (6 : Int32))), .val (.int (own_ch p2)), .val (.int (own_ch p3)), .val (.int (own_ch p4)), .val (.int (own_ch p5)), .val (.int (own_ch p6)), .val (.ref x38), .val (.int (own_ch p5)), .val (.int (0 : Int32)), .val .null, .unset] [(.int (1 : Int32))])) _
            exact retN X43 hx (t := .boolean) Bd.returns (by simp) (hb hby at_169) hr45
          · show Q0 Z p1 p2 p3 p4 p5 p6 h0 n0 _ T43.heap _
            rw [q43]
            exact ⟨rfl, N43⟩
          · show CHr Z own_EL s.vm s.heap T43.vm T43.heap
            rw [q43]
            rw [hh]
            exact CR38.trans (CHv.at X43 hZ0 hEL CH38)
        obtain ⟨_, _, ⟨T46, L46, k46, n46⟩, -, X46, ⟨Lc46, hQ46, l46, y46, z46⟩, st46⟩ := Jvm.LawKit.callS X41 hx (y := (⟨"com/example/oxpecker/oxpecker/MessageTemplateSoleParameterPinLaw", "inName", "(C)Z"⟩ : MethodName)) ho0 (mvT hZ0 (wd88 hw)) (mvT hZ0 (wd89 hw)) (mvT hZ0 (wd3 hw)) (mvT hZ0 (wd90 hw)) (by decide) (backOf (W := 0) (rmln l Z a0 hw [] (own_ch p4) T38.heap n0 (Nat.le_trans Z0 E38.1)) hZ0 (wd90 hw) (wd3 hw) (by decide) (by decide)) (g := (mkF m 120 #[.val (.int p1), .val (.int p2), .val (.int p3), .val (.int p4), .val (.int p5), .val (.int p6), .val (.int ((p1 &&& (2147483647 : Int32)) % (6 : Int32))), .val (.int (own_ch p2)), .val (.int (own_ch p3)), .val (.int (own_ch p4)), .val (.int (own_ch p5)), .val (.int (own_ch p6)), .val (.ref x38), .val (.int (own_ch p5)), .unset, .unset, .unset] [(.int (own_ch p4))])) rfl (by rw [hml]; rfl) (argsL := [(.int (own_ch p4))]) (rest := []) (lenOf pd_ln rfl) rfl (by show 2 * 0 + _ ≤ _; exact Nat.le_of_eq rfl) (hb hby at_120) (fun _ _ => ⟨rfl, q41, (by decide : 3 + 0 ≤ _), (by decide : 14 + 0 ≤ _)⟩)
        dsimp only [Pt.U, Pt.locs, Pt.cells, Pt.slots] at X46 l46 y46 z46 st46 hQ46
        subst l46 y46 z46
        obtain ⟨rfl, N46q, q46⟩ := hQ46
        have N46 := Fr.app N41 N46q
        have pre47 : ∀ t, Steps p.tables e below (T46.setTop (mkF m 123 #[.val (.int p1), .val (.int p2), .val (.int p3), .val (.int p4), .val (.int p5), .val (.int p6), .val (.int ((p1 &&& (2147483647 : Int32)) % (6 : Int32))), .val (.int (own_ch p2)), .val (.int (own_ch p3)), .val (.int (own_ch p4)), .val (.int (own_ch p5)), .val (.int (own_ch p6)), .val (.ref x38), .val (.int (own_ch p5)), .unset, .unset, .unset] [(.int (own_in (own_ch p4)))])) t → Steps p.tables e below (s₁.setTop (entryFrame m #[(.int p1), (.int p2), (.int p3), (.int p4), (.int p5), (.int p6)] maxLocals)) t := fun t k => pre42 t (by
          show Steps p.tables e below (T41.setTop (mkF m 109 #[.val (.int p1), .val (.int p2), .val (.int p3), .val (.int p4), .val (.int p5), .val (.int p6), .val (.int ((p1 &&& (2147483647 : Int32)) % (6 : Int32))), .val (.int (own_ch p2)), .val (.int (own_ch p3)), .val (.int (own_ch p4)), .val (.int (own_ch p5)), .val (.int (own_ch p6)), .val (.ref x38), .val (.int (own_ch p5)), .unset, .unset, .unset] [(.int (own_in (own_ch p3)))])) _
          refine XS.ifNo X41.here hx rfl (hb hby at_109) rfl ((if0 _ _).trans (feq hc109).1) ?_
          refine XS.iload X41.here hx rfl (hb hby at_112) rfl ?_
          refine XS.iconst X41.here hx rfl (hb hby at_114) ?_
          refine XS.icmpNo X41.here hx rfl (hb hby at_115) rfl (flt (by rw [hn]; decide)).1 ?_
          refine XS.iload X41.here hx rfl (hb hby at_118) rfl ?_
          refine st46 _ ?_
          exact k)
        by_cases hc123 : (own_in (own_ch p4)) = (0 : Int32)
        · obtain ⟨_, _, ⟨T48, L48, k48, n48⟩, -, X48, ⟨Lc48, hQ48, l48, y48, z48⟩, st48⟩ := Jvm.LawKit.callS X46 hx (y := (⟨"com/example/oxpecker/oxpecker/MessageTemplate", "soleParameter", "(Ljava/lang/String;)Ljava/lang/String;"⟩ : MethodName)) ho0 (mvT hZ0 (wd30 hw)) (mvT hZ0 (wd31 hw)) (mvT hZ0 (wd32 hw)) (mvT hZ0 (wd33 hw)) (by decide) (backOf (W := 0) (rmspN4 l Z a0 hw [] x38 (own_ch p2) (own_ch p3) (own_ch p4) (own_ch p5) T38.heap n0 (Nat.le_trans Z0 E38.1) S38 EN_38 (own_p1 (own_chr p2) (own_p1 (own_chr p3) (own_p1 (own_chr p4) (own_p1 (own_chr p5) own_p0)))) (fun q => by
                obtain ⟨w0, w1, w2, w3⟩ := q
                contradiction)) hZ0 (wd33 hw) (wd32 hw) (by decide) (by decide)) (g := (mkF m 149 #[.val (.int p1), .val (.int p2), .val (.int p3), .val (.int p4), .val (.int p5), .val (.int p6), .val (.int ((p1 &&& (2147483647 : Int32)) % (6 : Int32))), .val (.int (own_ch p2)), .val (.int (own_ch p3)), .val (.int (own_ch p4)), .val (.int (own_ch p5)), .val (.int (own_ch p6)), .val (.ref x38), .val (.int (own_ch p5)), .val (.int (0 : Int32)), .unset, .unset] [(.ref x38)])) rfl (by rw [hml]; rfl) (argsL := [(.ref x38)]) (rest := []) (lenOf pd_spN4 rfl) rfl (by show 2 * 0 + _ ≤ _; exact Nat.le_of_eq rfl) (hb hby at_149) (fun _ _ => ⟨rfl, q46, (by decide : 3 + 0 ≤ _), (by decide : 14 + 0 ≤ _)⟩)
          dsimp only [Pt.U, Pt.locs, Pt.cells, Pt.slots] at X48 l48 y48 z48 st48 hQ48
          subst l48 y48 z48
          obtain ⟨rfl, N48q, q48⟩ := hQ48
          have N48 := Fr.app N46 N48q
          have pre49 : ∀ t, Steps p.tables e below (T48.setTop (mkF m 169 #[.val (.int p1), .val (.int p2), .val (.int p3), .val (.int p4), .val (.int p5), .val (.int p6), .val (.int ((p1 &&& (2147483647 : Int32)) % (6 : Int32))), .val (.int (own_ch p2)), .val (.int (own_ch p3)), .val (.int (own_ch p4)), .val (.int (own_ch p5)), .val (.int (own_ch p6)), .val (.ref x38), .val (.int (own_ch p5)), .val (.int (0 : Int32)), .val .null, .unset] [(.int (1 : Int32))])) t → Steps p.tables e below (s₁.setTop (entryFrame m #[(.int p1), (.int p2), (.int p3), (.int p4), (.int p5), (.int p6)] maxLocals)) t := fun t k => pre47 t (by
            show Steps p.tables e below (T46.setTop (mkF m 123 #[.val (.int p1), .val (.int p2), .val (.int p3), .val (.int p4), .val (.int p5), .val (.int p6), .val (.int ((p1 &&& (2147483647 : Int32)) % (6 : Int32))), .val (.int (own_ch p2)), .val (.int (own_ch p3)), .val (.int (own_ch p4)), .val (.int (own_ch p5)), .val (.int (own_ch p6)), .val (.ref x38), .val (.int (own_ch p5)), .unset, .unset, .unset] [(.int (own_in (own_ch p4)))])) _
            refine XS.ifYes X46.here hx rfl (pc0 := 123) (pc' := 144) rfl (hb hby at_123) rfl ((if0 _ _).trans (teq hc123).1) (by decide) (by decide) ?_
            refine XS.iconst X46.here hx rfl (hb hby at_144) ?_
            refine XS.istore X46.here hx rfl (hb hby at_145) rfl (l' := #[.val (.int p1), .val (.int p2), .val (.int p3), .val (.int p4), .val (.int p5), .val (.int p6), .val (.int ((p1 &&& (2147483647 : Int32)) % (6 : Int32))), .val (.int (own_ch p2)), .val (.int (own_ch p3)), .val (.int (own_ch p4)), .val (.int (own_ch p5)), .val (.int (own_ch p6)), .val (.ref x38), .val (.int (own_ch p5)), .val (.int (0 : Int32)), .unset, .unset]) rfl ?_
            refine XS.aload X46.here hx rfl (hb hby at_147) rfl rfl ?_
            refine st48 _ ?_
            refine XS.astore X48.here hx rfl (hb hby at_152) rfl rfl (l' := #[.val (.int p1), .val (.int p2), .val (.int p3), .val (.int p4), .val (.int p5), .val (.int p6), .val (.int ((p1 &&& (2147483647 : Int32)) % (6 : Int32))), .val (.int (own_ch p2)), .val (.int (own_ch p3)), .val (.int (own_ch p4)), .val (.int (own_ch p5)), .val (.int (own_ch p6)), .val (.ref x38), .val (.int (own_ch p5)), .val (.int (0 : Int32)), .val .null, .unset]) rfl ?_
            refine XS.iload X48.here hx rfl (hb hby at_154) rfl ?_
            refine XS.ifNo X48.here hx rfl (hb hby at_156) rfl ((if0 _ _).trans (teq (by decide : (0 : Int32) = (0 : Int32))).2) ?_
            refine XS.aload X48.here hx rfl (hb hby at_159) rfl rfl ?_
            refine XS.ifnonnullNo X48.here hx rfl (hb hby at_161) rfl ?_
            refine XS.iconst X48.here hx rfl (hb hby at_164) ?_
            refine XS.goto X48.here hx rfl (pc0 := 165) (pc' := 169) rfl (hb hby at_165) (by decide) (by decide) ?_
            exact k)
          obtain ⟨fs50, hr50, hrun50, hended50, hE50⟩ := X48.leaveW hS0 (by first | exact (Nat.le_trans (Nat.le_refl _) E38.1) | (rw [q48]; exact (Nat.le_trans (Nat.le_refl _) E38.1))) (v := some (.int (1 : Int32))) (fun h => by rw [Bd.returns] at h; cases h)
          refine ⟨_, _, pre49 _ ?_, hrun50, hended50, _, _, rfl, ?_, ?_, hE50.1, hE50.2.1, hE50.2.2.1, hE50.2.2.2.mono (by decide) (by decide)⟩
          · show Steps p.tables e below (T48.setTop (mkF m 169 #[.val (.int p1), .val (.int p2), .val (.int p3), .val (.int p4), .val (.int p5), .val (.int p6), .val (.int ((p1 &&& (2147483647 : Int32)) % (6 : Int32))), .val (.int (own_ch p2)), .val (.int (own_ch p3)), .val (.int (own_ch p4)), .val (.int (own_ch p5)), .val (.int (own_ch p6)), .val (.ref x38), .val (.int (own_ch p5)), .val (.int (0 : Int32)), .val .null, .unset] [(.int (1 : Int32))])) _
            exact retN X48 hx (t := .boolean) Bd.returns (by simp) (hb hby at_169) hr50
          · show Q0 Z p1 p2 p3 p4 p5 p6 h0 n0 _ T48.heap _
            rw [q48]
            exact ⟨rfl, N48⟩
          · show CHr Z own_EL s.vm s.heap T48.vm T48.heap
            rw [q48]
            rw [hh]
            exact CR38.trans (CHv.at X48 hZ0 hEL CH38)
        obtain ⟨_, _, ⟨T51, L51, k51, n51⟩, -, X51, ⟨Lc51, hQ51, l51, y51, z51⟩, st51⟩ := Jvm.LawKit.callS X46 hx (y := (⟨"com/example/oxpecker/oxpecker/MessageTemplate", "soleParameter", "(Ljava/lang/String;)Ljava/lang/String;"⟩ : MethodName)) ho0 (mvT hZ0 (wd30 hw)) (mvT hZ0 (wd31 hw)) (mvT hZ0 (wd32 hw)) (mvT hZ0 (wd33 hw)) (by decide) (backOf (W := 0) (rmspY4 l Z a0 hw [] x38 (own_ch p2) (own_ch p3) (own_ch p4) (own_ch p5) T38.heap n0 (Nat.le_trans Z0 E38.1) S38 EN_38 (own_p1 (own_chr p2) (own_p1 (own_chr p3) (own_p1 (own_chr p4) (own_p1 (own_chr p5) own_p0)))) ⟨hc94, hc109, hc123, hc101⟩) hZ0 (wd33 hw) (wd32 hw) (by decide) (by decide)) (g := (mkF m 149 #[.val (.int p1), .val (.int p2), .val (.int p3), .val (.int p4), .val (.int p5), .val (.int p6), .val (.int ((p1 &&& (2147483647 : Int32)) % (6 : Int32))), .val (.int (own_ch p2)), .val (.int (own_ch p3)), .val (.int (own_ch p4)), .val (.int (own_ch p5)), .val (.int (own_ch p6)), .val (.ref x38), .val (.int (own_ch p5)), .val (.int (1 : Int32)), .unset, .unset] [(.ref x38)])) rfl (by rw [hml]; rfl) (argsL := [(.ref x38)]) (rest := []) (lenOf pd_spY4 rfl) rfl (by show 2 * 0 + _ ≤ _; exact Nat.le_of_eq rfl) (hb hby at_149) (fun _ _ => ⟨rfl, q46, (by decide : 3 + 2 ≤ _), (by decide : 14 + 9 ≤ _)⟩)
        dsimp only [Pt.U, Pt.locs, Pt.cells, Pt.slots] at X51 l51 y51 z51 st51 hQ51
        subst l51 y51 z51
        obtain ⟨x51, rfl, N51q, E51, S51⟩ := hQ51
        have N51 := Fr.app N46 N51q
        have EN_51 := EN_38.ext E51
        have S38_51 := S38.ext E51
        have K51 := K38.ext E51
        have CR51 := CR38.trans (CHr.ext E51 CH38)
        have CH51 := CHv.ext E51 CH38
        obtain ⟨_, _, ⟨T52, L52, k52, n52⟩, -, X52, ⟨Lc52, hQ52, l52, y52, z52⟩, st52⟩ := Jvm.LawKit.callS X51 hx (y := (⟨"com/example/oxpecker/oxpecker/MessageTemplateSoleParameterPinLaw", "make", "(ICCCCC)Ljava/lang/String;"⟩ : MethodName)) ho0 (mvT hZ0 (wd5 hw)) (mvT hZ0 (wd6 hw)) (mvT hZ0 (wd3 hw)) (mvT hZ0 (wd7 hw)) (by decide) (backOf (W := 0) (rmmk2 l Z a0 hw [] (((p1 &&& (2147483647 : Int32)) % (6 : Int32)) - (2 : Int32)) (own_ch p3) (own_ch p4) (own_ch p5) (own_ch p6) (own_ch p6) T51.heap n0 (Nat.le_trans (Nat.le_trans Z0 E38.1) E51.1) EN_51 (by rw [hn]; decide) (own_chr p3) (own_chr p4)) hZ0 (wd7 hw) (wd3 hw) (by decide) (by decide)) (g := (mkF m 184 #[.val (.int p1), .val (.int p2), .val (.int p3), .val (.int p4), .val (.int p5), .val (.int p6), .val (.int ((p1 &&& (2147483647 : Int32)) % (6 : Int32))), .val (.int (own_ch p2)), .val (.int (own_ch p3)), .val (.int (own_ch p4)), .val (.int (own_ch p5)), .val (.int (own_ch p6)), .val (.ref x38), .val (.int (own_ch p5)), .val (.int (1 : Int32)), .val (.ref x51), .unset] [(.int (own_ch p6)), (.int (own_ch p6)), (.int (own_ch p5)), (.int (own_ch p4)), (.int (own_ch p3)), (.int (((p1 &&& (2147483647 : Int32)) % (6 : Int32)) - (2 : Int32)))])) rfl (by rw [hml]; rfl) (argsL := [(.int (((p1 &&& (2147483647 : Int32)) % (6 : Int32)) - (2 : Int32))), (.int (own_ch p3)), (.int (own_ch p4)), (.int (own_ch p5)), (.int (own_ch p6)), (.int (own_ch p6))]) (rest := []) (lenOf pd_mk2 rfl) rfl (by show 2 * 0 + _ ≤ _; exact Nat.le_of_eq rfl) (hb hby at_184) (fun _ _ => ⟨rfl, rfl, (by decide : 5 + 3 ≤ _), (by decide : 23 + 14 ≤ _)⟩)
        dsimp only [Pt.U, Pt.locs, Pt.cells, Pt.slots] at X52 l52 y52 z52 st52 hQ52
        subst l52 y52 z52
        obtain ⟨x52, rfl, N52q, E52, S52⟩ := hQ52
        have N52 := Fr.app N51 N52q
        have EN_52 := EN_51.ext E52
        have S38_52 := S38_51.ext E52
        have S51_52 := S51.ext E52
        have K52 := K51.ext E52
        have CR52 := CR51.trans (CHr.ext E52 CH51)
        have CH52 := CHv.ext E52 CH51
        have hpm := (own_p1 (own_chr p3) (own_p1 (own_chr p4) own_p0))
        have SG := S51_52
        obtain ⟨tg, kg, Eg, Vg, Cg, Kg⟩ := SG
        have SW := S52
        obtain ⟨tw, kw, Ew, Vw, Cw, Kw⟩ := SW
        have EN9 := EN_52
        obtain ⟨z, fm, Sz, hz, Sf, hfm⟩ := EN9
        obtain ⟨cq53, kq53, qa53, qb53, qc53⟩ := isOf hZ0 rfl Eg
        obtain ⟨_, _, ⟨T53, L53, k53, n53⟩, -, X53, ⟨Lc53, hQ53, l53, y53, z53⟩, st53⟩ := X52.virtualBack hx (y := (⟨"java/lang/String", "equals", "(Ljava/lang/Object;)Z"⟩ : MethodName)) (z := (⟨"java/lang/String", "equals", "(Ljava/lang/Object;)Z"⟩ : MethodName)) ho0 (mvT hZ0 (wd128 hw)) (mvT hZ0 (wd129 hw)) (notFace_of_selects (args := #[]) (mvT hZ0 (wd131 hw))) (mvT hZ0 (wd131 hw)) (mvT hZ0 (wd130 hw)) (by decide) (StrChars.Road.eqW (W := 0) hZ0 heq (kI := 4) (wd9 hw) Eg Vg Cg Kg (own_cod hpm) (own_up hpm) (Nat.le_of_ble_eq_true rfl) Ew Vw Cw Kw (own_cod hpm) (own_up hpm) (Nat.le_of_ble_eq_true rfl) Sz hz (by decide) (by decide)) qa53 qc53 (g := (mkF m 198 #[.val (.int p1), .val (.int p2), .val (.int p3), .val (.int p4), .val (.int p5), .val (.int p6), .val (.int ((p1 &&& (2147483647 : Int32)) % (6 : Int32))), .val (.int (own_ch p2)), .val (.int (own_ch p3)), .val (.int (own_ch p4)), .val (.int (own_ch p5)), .val (.int (own_ch p6)), .val (.ref x38), .val (.int (own_ch p5)), .val (.int (1 : Int32)), .val (.ref x51), .val (.ref x52)] [(.ref x52), (.ref x51)])) rfl (by rw [hml]; rfl) (Steps.refl _) (argsL := [(.ref x52)]) (rest := []) (lenOf pd_eq rfl) rfl (by show 2 * 0 + _ ≤ _; exact Nat.le_of_eq rfl) (hb hby at_198) (fun _ _ => ⟨rfl, rfl, (by decide : 8 + 0 ≤ _), (by decide : 37 + 0 ≤ _)⟩)
        dsimp only [Pt.U, Pt.locs, Pt.cells, Pt.slots] at X53 l53 y53 z53 st53 hQ53
        subst l53 y53 z53
        rcases hQ53 with ⟨⟨rfl, -⟩ | ⟨-, hb53⟩, rfl, q53⟩
        rotate_left
        · exact absurd rfl hb53
        have N53 := Fr.app N52 (Fr.nil n0)
        have pre54 : ∀ t, Steps p.tables e below (T53.setTop (mkF m 209 #[.val (.int p1), .val (.int p2), .val (.int p3), .val (.int p4), .val (.int p5), .val (.int p6), .val (.int ((p1 &&& (2147483647 : Int32)) % (6 : Int32))), .val (.int (own_ch p2)), .val (.int (own_ch p3)), .val (.int (own_ch p4)), .val (.int (own_ch p5)), .val (.int (own_ch p6)), .val (.ref x38), .val (.int (own_ch p5)), .val (.int (1 : Int32)), .val (.ref x51), .val (.ref x52)] [(.int (1 : Int32))])) t → Steps p.tables e below (s₁.setTop (entryFrame m #[(.int p1), (.int p2), (.int p3), (.int p4), (.int p5), (.int p6)] maxLocals)) t := fun t k => pre47 t (by
          show Steps p.tables e below (T46.setTop (mkF m 123 #[.val (.int p1), .val (.int p2), .val (.int p3), .val (.int p4), .val (.int p5), .val (.int p6), .val (.int ((p1 &&& (2147483647 : Int32)) % (6 : Int32))), .val (.int (own_ch p2)), .val (.int (own_ch p3)), .val (.int (own_ch p4)), .val (.int (own_ch p5)), .val (.int (own_ch p6)), .val (.ref x38), .val (.int (own_ch p5)), .unset, .unset, .unset] [(.int (own_in (own_ch p4)))])) _
          refine XS.ifNo X46.here hx rfl (hb hby at_123) rfl ((if0 _ _).trans (feq hc123).1) ?_
          refine XS.iload X46.here hx rfl (hb hby at_126) rfl ?_
          refine XS.iconst X46.here hx rfl (hb hby at_128) ?_
          refine XS.icmpYes X46.here hx rfl (pc0 := 129) (pc' := 140) rfl (hb hby at_129) rfl (tlt (by rw [hn]; decide)).1 (by decide) (by decide) ?_
          refine XS.iconst X46.here hx rfl (hb hby at_140) ?_
          refine XS.goto X46.here hx rfl (pc0 := 141) (pc' := 145) rfl (hb hby at_141) (by decide) (by decide) ?_
          refine XS.istore X46.here hx rfl (hb hby at_145) rfl (l' := #[.val (.int p1), .val (.int p2), .val (.int p3), .val (.int p4), .val (.int p5), .val (.int p6), .val (.int ((p1 &&& (2147483647 : Int32)) % (6 : Int32))), .val (.int (own_ch p2)), .val (.int (own_ch p3)), .val (.int (own_ch p4)), .val (.int (own_ch p5)), .val (.int (own_ch p6)), .val (.ref x38), .val (.int (own_ch p5)), .val (.int (1 : Int32)), .unset, .unset]) rfl ?_
          refine XS.aload X46.here hx rfl (hb hby at_147) rfl rfl ?_
          refine st51 _ ?_
          refine XS.astore X51.here hx rfl (hb hby at_152) rfl rfl (l' := #[.val (.int p1), .val (.int p2), .val (.int p3), .val (.int p4), .val (.int p5), .val (.int p6), .val (.int ((p1 &&& (2147483647 : Int32)) % (6 : Int32))), .val (.int (own_ch p2)), .val (.int (own_ch p3)), .val (.int (own_ch p4)), .val (.int (own_ch p5)), .val (.int (own_ch p6)), .val (.ref x38), .val (.int (own_ch p5)), .val (.int (1 : Int32)), .val (.ref x51), .unset]) rfl ?_
          refine XS.iload X51.here hx rfl (hb hby at_154) rfl ?_
          refine XS.ifYes X51.here hx rfl (pc0 := 156) (pc' := 170) rfl (hb hby at_156) rfl ((if0 _ _).trans (feq (by decide : ¬ ((1 : Int32) = (0 : Int32)))).2) (by decide) (by decide) ?_
          refine XS.iload X51.here hx rfl (hb hby at_170) rfl ?_
          refine XS.iconst X51.here hx rfl (hb hby at_172) ?_
          refine XS.isub X51.here hx rfl (hb hby at_173) rfl ?_
          refine XS.iload X51.here hx rfl (hb hby at_174) rfl ?_
          refine XS.iload X51.here hx rfl (hb hby at_176) rfl ?_
          refine XS.iload X51.here hx rfl (hb hby at_178) rfl ?_
          refine XS.iload X51.here hx rfl (hb hby at_180) rfl ?_
          refine XS.iload X51.here hx rfl (hb hby at_182) rfl ?_
          refine st52 _ ?_
          refine XS.astore X52.here hx rfl (hb hby at_187) rfl rfl (l' := #[.val (.int p1), .val (.int p2), .val (.int p3), .val (.int p4), .val (.int p5), .val (.int p6), .val (.int ((p1 &&& (2147483647 : Int32)) % (6 : Int32))), .val (.int (own_ch p2)), .val (.int (own_ch p3)), .val (.int (own_ch p4)), .val (.int (own_ch p5)), .val (.int (own_ch p6)), .val (.ref x38), .val (.int (own_ch p5)), .val (.int (1 : Int32)), .val (.ref x51), .val (.ref x52)]) rfl ?_
          refine XS.aload X52.here hx rfl (hb hby at_189) rfl rfl ?_
          refine XS.ifnullNo X52.here hx rfl (hb hby at_191) rfl ?_
          refine XS.aload X52.here hx rfl (hb hby at_194) rfl rfl ?_
          refine XS.aload X52.here hx rfl (hb hby at_196) rfl rfl ?_
          refine st53.trans ?_
          refine XS.ifNo X53.here hx rfl (hb hby at_201) rfl ((if0 _ _).trans (feq (by decide : ¬ ((1 : Int32) = (0 : Int32)))).1) ?_
          refine XS.iconst X53.here hx rfl (hb hby at_204) ?_
          refine XS.goto X53.here hx rfl (pc0 := 205) (pc' := 209) rfl (hb hby at_205) (by decide) (by decide) ?_
          exact k)
        obtain ⟨fs55, hr55, hrun55, hended55, hE55⟩ := X53.leaveW hS0 (by first | exact (Nat.le_trans (Nat.le_trans (Nat.le_trans (Nat.le_refl _) E38.1) E51.1) E52.1) | (rw [q53]; exact (Nat.le_trans (Nat.le_trans (Nat.le_trans (Nat.le_refl _) E38.1) E51.1) E52.1))) (v := some (.int (1 : Int32))) (fun h => by rw [Bd.returns] at h; cases h)
        refine ⟨_, _, pre54 _ ?_, hrun55, hended55, _, _, rfl, ?_, ?_, hE55.1, hE55.2.1, hE55.2.2.1, hE55.2.2.2.mono (by decide) (by decide)⟩
        · show Steps p.tables e below (T53.setTop (mkF m 209 #[.val (.int p1), .val (.int p2), .val (.int p3), .val (.int p4), .val (.int p5), .val (.int p6), .val (.int ((p1 &&& (2147483647 : Int32)) % (6 : Int32))), .val (.int (own_ch p2)), .val (.int (own_ch p3)), .val (.int (own_ch p4)), .val (.int (own_ch p5)), .val (.int (own_ch p6)), .val (.ref x38), .val (.int (own_ch p5)), .val (.int (1 : Int32)), .val (.ref x51), .val (.ref x52)] [(.int (1 : Int32))])) _
          exact retN X53 hx (t := .boolean) Bd.returns (by simp) (hb hby at_209) hr55
        · show Q0 Z p1 p2 p3 p4 p5 p6 h0 n0 _ T53.heap _
          rw [q53]
          exact ⟨rfl, N53⟩
        · show CHr Z own_EL s.vm s.heap T53.vm T53.heap
          rw [q53]
          rw [hh]
          exact CR52.trans (CHv.at X53 hZ0 hEL CH52)
      obtain ⟨_, _, ⟨T56, L56, k56, n56⟩, -, X56, ⟨Lc56, hQ56, l56, y56, z56⟩, st56⟩ := Jvm.LawKit.callS X38 hx (y := (⟨"com/example/oxpecker/oxpecker/MessageTemplate", "soleParameter", "(Ljava/lang/String;)Ljava/lang/String;"⟩ : MethodName)) ho0 (mvT hZ0 (wd30 hw)) (mvT hZ0 (wd31 hw)) (mvT hZ0 (wd32 hw)) (mvT hZ0 (wd33 hw)) (by decide) (backOf (W := 0) (rmspN4 l Z a0 hw [] x38 (own_ch p2) (own_ch p3) (own_ch p4) (own_ch p5) T38.heap n0 (Nat.le_trans Z0 E38.1) S38 EN_38 (own_p1 (own_chr p2) (own_p1 (own_chr p3) (own_p1 (own_chr p4) (own_p1 (own_chr p5) own_p0)))) (fun q => by
            obtain ⟨w0, w1, w2, w3⟩ := q
            contradiction)) hZ0 (wd33 hw) (wd32 hw) (by decide) (by decide)) (g := (mkF m 149 #[.val (.int p1), .val (.int p2), .val (.int p3), .val (.int p4), .val (.int p5), .val (.int p6), .val (.int ((p1 &&& (2147483647 : Int32)) % (6 : Int32))), .val (.int (own_ch p2)), .val (.int (own_ch p3)), .val (.int (own_ch p4)), .val (.int (own_ch p5)), .val (.int (own_ch p6)), .val (.ref x38), .val (.int (own_ch p5)), .val (.int (0 : Int32)), .unset, .unset] [(.ref x38)])) rfl (by rw [hml]; rfl) (argsL := [(.ref x38)]) (rest := []) (lenOf pd_spN4 rfl) rfl (by show 2 * 0 + _ ≤ _; exact Nat.le_of_eq rfl) (hb hby at_149) (fun _ _ => ⟨rfl, rfl, (by decide : 3 + 0 ≤ _), (by decide : 14 + 0 ≤ _)⟩)
      dsimp only [Pt.U, Pt.locs, Pt.cells, Pt.slots] at X56 l56 y56 z56 st56 hQ56
      subst l56 y56 z56
      obtain ⟨rfl, N56q, q56⟩ := hQ56
      have N56 := Fr.app N38 N56q
      have pre57 : ∀ t, Steps p.tables e below (T56.setTop (mkF m 169 #[.val (.int p1), .val (.int p2), .val (.int p3), .val (.int p4), .val (.int p5), .val (.int p6), .val (.int ((p1 &&& (2147483647 : Int32)) % (6 : Int32))), .val (.int (own_ch p2)), .val (.int (own_ch p3)), .val (.int (own_ch p4)), .val (.int (own_ch p5)), .val (.int (own_ch p6)), .val (.ref x38), .val (.int (own_ch p5)), .val (.int (0 : Int32)), .val .null, .unset] [(.int (1 : Int32))])) t → Steps p.tables e below (s₁.setTop (entryFrame m #[(.int p1), (.int p2), (.int p3), (.int p4), (.int p5), (.int p6)] maxLocals)) t := fun t k => pre40 t (by
        show Steps p.tables e below (T38.setTop (mkF m 101 #[.val (.int p1), .val (.int p2), .val (.int p3), .val (.int p4), .val (.int p5), .val (.int p6), .val (.int ((p1 &&& (2147483647 : Int32)) % (6 : Int32))), .val (.int (own_ch p2)), .val (.int (own_ch p3)), .val (.int (own_ch p4)), .val (.int (own_ch p5)), .val (.int (own_ch p6)), .val (.ref x38), .val (.int (own_ch p5)), .unset, .unset, .unset] [(.int (125 : Int32)), (.int (own_ch p5))])) _
        refine XS.icmpYes X38.here hx rfl (pc0 := 101) (pc' := 144) rfl (hb hby at_101) rfl (feq hc101).2 (by decide) (by decide) ?_
        refine XS.iconst X38.here hx rfl (hb hby at_144) ?_
        refine XS.istore X38.here hx rfl (hb hby at_145) rfl (l' := #[.val (.int p1), .val (.int p2), .val (.int p3), .val (.int p4), .val (.int p5), .val (.int p6), .val (.int ((p1 &&& (2147483647 : Int32)) % (6 : Int32))), .val (.int (own_ch p2)), .val (.int (own_ch p3)), .val (.int (own_ch p4)), .val (.int (own_ch p5)), .val (.int (own_ch p6)), .val (.ref x38), .val (.int (own_ch p5)), .val (.int (0 : Int32)), .unset, .unset]) rfl ?_
        refine XS.aload X38.here hx rfl (hb hby at_147) rfl rfl ?_
        refine st56 _ ?_
        refine XS.astore X56.here hx rfl (hb hby at_152) rfl rfl (l' := #[.val (.int p1), .val (.int p2), .val (.int p3), .val (.int p4), .val (.int p5), .val (.int p6), .val (.int ((p1 &&& (2147483647 : Int32)) % (6 : Int32))), .val (.int (own_ch p2)), .val (.int (own_ch p3)), .val (.int (own_ch p4)), .val (.int (own_ch p5)), .val (.int (own_ch p6)), .val (.ref x38), .val (.int (own_ch p5)), .val (.int (0 : Int32)), .val .null, .unset]) rfl ?_
        refine XS.iload X56.here hx rfl (hb hby at_154) rfl ?_
        refine XS.ifNo X56.here hx rfl (hb hby at_156) rfl ((if0 _ _).trans (teq (by decide : (0 : Int32) = (0 : Int32))).2) ?_
        refine XS.aload X56.here hx rfl (hb hby at_159) rfl rfl ?_
        refine XS.ifnonnullNo X56.here hx rfl (hb hby at_161) rfl ?_
        refine XS.iconst X56.here hx rfl (hb hby at_164) ?_
        refine XS.goto X56.here hx rfl (pc0 := 165) (pc' := 169) rfl (hb hby at_165) (by decide) (by decide) ?_
        exact k)
      obtain ⟨fs58, hr58, hrun58, hended58, hE58⟩ := X56.leaveW hS0 (by first | exact (Nat.le_trans (Nat.le_refl _) E38.1) | (rw [q56]; exact (Nat.le_trans (Nat.le_refl _) E38.1))) (v := some (.int (1 : Int32))) (fun h => by rw [Bd.returns] at h; cases h)
      refine ⟨_, _, pre57 _ ?_, hrun58, hended58, _, _, rfl, ?_, ?_, hE58.1, hE58.2.1, hE58.2.2.1, hE58.2.2.2.mono (by decide) (by decide)⟩
      · show Steps p.tables e below (T56.setTop (mkF m 169 #[.val (.int p1), .val (.int p2), .val (.int p3), .val (.int p4), .val (.int p5), .val (.int p6), .val (.int ((p1 &&& (2147483647 : Int32)) % (6 : Int32))), .val (.int (own_ch p2)), .val (.int (own_ch p3)), .val (.int (own_ch p4)), .val (.int (own_ch p5)), .val (.int (own_ch p6)), .val (.ref x38), .val (.int (own_ch p5)), .val (.int (0 : Int32)), .val .null, .unset] [(.int (1 : Int32))])) _
        exact retN X56 hx (t := .boolean) Bd.returns (by simp) (hb hby at_169) hr58
      · show Q0 Z p1 p2 p3 p4 p5 p6 h0 n0 _ T56.heap _
        rw [q56]
        exact ⟨rfl, N56⟩
      · show CHr Z own_EL s.vm s.heap T56.vm T56.heap
        rw [q56]
        rw [hh]
        exact CR38.trans (CHv.at X56 hZ0 hEL CH38)
    obtain ⟨_, _, ⟨T59, L59, k59, n59⟩, -, X59, ⟨Lc59, hQ59, l59, y59, z59⟩, st59⟩ := Jvm.LawKit.callS X38 hx (y := (⟨"com/example/oxpecker/oxpecker/MessageTemplate", "soleParameter", "(Ljava/lang/String;)Ljava/lang/String;"⟩ : MethodName)) ho0 (mvT hZ0 (wd30 hw)) (mvT hZ0 (wd31 hw)) (mvT hZ0 (wd32 hw)) (mvT hZ0 (wd33 hw)) (by decide) (backOf (W := 0) (rmspN4 l Z a0 hw [] x38 (own_ch p2) (own_ch p3) (own_ch p4) (own_ch p5) T38.heap n0 (Nat.le_trans Z0 E38.1) S38 EN_38 (own_p1 (own_chr p2) (own_p1 (own_chr p3) (own_p1 (own_chr p4) (own_p1 (own_chr p5) own_p0)))) (fun q => by
          obtain ⟨w0, w1, w2, w3⟩ := q
          contradiction)) hZ0 (wd33 hw) (wd32 hw) (by decide) (by decide)) (g := (mkF m 149 #[.val (.int p1), .val (.int p2), .val (.int p3), .val (.int p4), .val (.int p5), .val (.int p6), .val (.int ((p1 &&& (2147483647 : Int32)) % (6 : Int32))), .val (.int (own_ch p2)), .val (.int (own_ch p3)), .val (.int (own_ch p4)), .val (.int (own_ch p5)), .val (.int (own_ch p6)), .val (.ref x38), .val (.int (own_ch p5)), .val (.int (0 : Int32)), .unset, .unset] [(.ref x38)])) rfl (by rw [hml]; rfl) (argsL := [(.ref x38)]) (rest := []) (lenOf pd_spN4 rfl) rfl (by show 2 * 0 + _ ≤ _; exact Nat.le_of_eq rfl) (hb hby at_149) (fun _ _ => ⟨rfl, rfl, (by decide : 3 + 0 ≤ _), (by decide : 14 + 0 ≤ _)⟩)
    dsimp only [Pt.U, Pt.locs, Pt.cells, Pt.slots] at X59 l59 y59 z59 st59 hQ59
    subst l59 y59 z59
    obtain ⟨rfl, N59q, q59⟩ := hQ59
    have N59 := Fr.app N38 N59q
    have pre60 : ∀ t, Steps p.tables e below (T59.setTop (mkF m 169 #[.val (.int p1), .val (.int p2), .val (.int p3), .val (.int p4), .val (.int p5), .val (.int p6), .val (.int ((p1 &&& (2147483647 : Int32)) % (6 : Int32))), .val (.int (own_ch p2)), .val (.int (own_ch p3)), .val (.int (own_ch p4)), .val (.int (own_ch p5)), .val (.int (own_ch p6)), .val (.ref x38), .val (.int (own_ch p5)), .val (.int (0 : Int32)), .val .null, .unset] [(.int (1 : Int32))])) t → Steps p.tables e below (s₁.setTop (entryFrame m #[(.int p1), (.int p2), (.int p3), (.int p4), (.int p5), (.int p6)] maxLocals)) t := fun t k => pre39 t (by
      show Steps p.tables e below (T38.setTop (mkF m 94 #[.val (.int p1), .val (.int p2), .val (.int p3), .val (.int p4), .val (.int p5), .val (.int p6), .val (.int ((p1 &&& (2147483647 : Int32)) % (6 : Int32))), .val (.int (own_ch p2)), .val (.int (own_ch p3)), .val (.int (own_ch p4)), .val (.int (own_ch p5)), .val (.int (own_ch p6)), .val (.ref x38), .val (.int (own_ch p5)), .unset, .unset, .unset] [(.int (123 : Int32)), (.int (own_ch p2))])) _
      refine XS.icmpYes X38.here hx rfl (pc0 := 94) (pc' := 144) rfl (hb hby at_94) rfl (feq hc94).2 (by decide) (by decide) ?_
      refine XS.iconst X38.here hx rfl (hb hby at_144) ?_
      refine XS.istore X38.here hx rfl (hb hby at_145) rfl (l' := #[.val (.int p1), .val (.int p2), .val (.int p3), .val (.int p4), .val (.int p5), .val (.int p6), .val (.int ((p1 &&& (2147483647 : Int32)) % (6 : Int32))), .val (.int (own_ch p2)), .val (.int (own_ch p3)), .val (.int (own_ch p4)), .val (.int (own_ch p5)), .val (.int (own_ch p6)), .val (.ref x38), .val (.int (own_ch p5)), .val (.int (0 : Int32)), .unset, .unset]) rfl ?_
      refine XS.aload X38.here hx rfl (hb hby at_147) rfl rfl ?_
      refine st59 _ ?_
      refine XS.astore X59.here hx rfl (hb hby at_152) rfl rfl (l' := #[.val (.int p1), .val (.int p2), .val (.int p3), .val (.int p4), .val (.int p5), .val (.int p6), .val (.int ((p1 &&& (2147483647 : Int32)) % (6 : Int32))), .val (.int (own_ch p2)), .val (.int (own_ch p3)), .val (.int (own_ch p4)), .val (.int (own_ch p5)), .val (.int (own_ch p6)), .val (.ref x38), .val (.int (own_ch p5)), .val (.int (0 : Int32)), .val .null, .unset]) rfl ?_
      refine XS.iload X59.here hx rfl (hb hby at_154) rfl ?_
      refine XS.ifNo X59.here hx rfl (hb hby at_156) rfl ((if0 _ _).trans (teq (by decide : (0 : Int32) = (0 : Int32))).2) ?_
      refine XS.aload X59.here hx rfl (hb hby at_159) rfl rfl ?_
      refine XS.ifnonnullNo X59.here hx rfl (hb hby at_161) rfl ?_
      refine XS.iconst X59.here hx rfl (hb hby at_164) ?_
      refine XS.goto X59.here hx rfl (pc0 := 165) (pc' := 169) rfl (hb hby at_165) (by decide) (by decide) ?_
      exact k)
    obtain ⟨fs61, hr61, hrun61, hended61, hE61⟩ := X59.leaveW hS0 (by first | exact (Nat.le_trans (Nat.le_refl _) E38.1) | (rw [q59]; exact (Nat.le_trans (Nat.le_refl _) E38.1))) (v := some (.int (1 : Int32))) (fun h => by rw [Bd.returns] at h; cases h)
    refine ⟨_, _, pre60 _ ?_, hrun61, hended61, _, _, rfl, ?_, ?_, hE61.1, hE61.2.1, hE61.2.2.1, hE61.2.2.2.mono (by decide) (by decide)⟩
    · show Steps p.tables e below (T59.setTop (mkF m 169 #[.val (.int p1), .val (.int p2), .val (.int p3), .val (.int p4), .val (.int p5), .val (.int p6), .val (.int ((p1 &&& (2147483647 : Int32)) % (6 : Int32))), .val (.int (own_ch p2)), .val (.int (own_ch p3)), .val (.int (own_ch p4)), .val (.int (own_ch p5)), .val (.int (own_ch p6)), .val (.ref x38), .val (.int (own_ch p5)), .val (.int (0 : Int32)), .val .null, .unset] [(.int (1 : Int32))])) _
      exact retN X59 hx (t := .boolean) Bd.returns (by simp) (hb hby at_169) hr61
    · show Q0 Z p1 p2 p3 p4 p5 p6 h0 n0 _ T59.heap _
      rw [q59]
      exact ⟨rfl, N59⟩
    · show CHr Z own_EL s.vm s.heap T59.vm T59.heap
      rw [q59]
      rw [hh]
      exact CR38.trans (CHv.at X59 hZ0 hEL CH38)
  · obtain ⟨_, _, ⟨T62, L62, k62, n62⟩, -, X62, ⟨Lc62, hQ62, l62, y62, z62⟩, st62⟩ := Jvm.LawKit.callS X5 hx (y := (⟨"com/example/oxpecker/oxpecker/MessageTemplateSoleParameterPinLaw", "make", "(ICCCCC)Ljava/lang/String;"⟩ : MethodName)) ho0 (mvT hZ0 (wd5 hw)) (mvT hZ0 (wd6 hw)) (mvT hZ0 (wd3 hw)) (mvT hZ0 (wd7 hw)) (by decide) (backOf (W := 0) (rmmk5 l Z a0 hw [] ((p1 &&& (2147483647 : Int32)) % (6 : Int32)) (own_ch p2) (own_ch p3) (own_ch p4) (own_ch p5) (own_ch p6) h0 n0 Z0 EN hn (own_chr p2) (own_chr p3) (own_chr p4) (own_chr p5) (own_chr p6)) hZ0 (wd7 hw) (wd3 hw) (by decide) (by decide)) (g := (mkF m 53 #[.val (.int p1), .val (.int p2), .val (.int p3), .val (.int p4), .val (.int p5), .val (.int p6), .val (.int ((p1 &&& (2147483647 : Int32)) % (6 : Int32))), .val (.int (own_ch p2)), .val (.int (own_ch p3)), .val (.int (own_ch p4)), .val (.int (own_ch p5)), .val (.int (own_ch p6)), .unset, .unset, .unset, .unset, .unset] [(.int (own_ch p6)), (.int (own_ch p5)), (.int (own_ch p4)), (.int (own_ch p3)), (.int (own_ch p2)), (.int ((p1 &&& (2147483647 : Int32)) % (6 : Int32)))])) rfl (by rw [hml]; rfl) (argsL := [(.int ((p1 &&& (2147483647 : Int32)) % (6 : Int32))), (.int (own_ch p2)), (.int (own_ch p3)), (.int (own_ch p4)), (.int (own_ch p5)), (.int (own_ch p6))]) (rest := []) (lenOf pd_mk5 rfl) rfl (by show 2 * 0 + _ ≤ _; exact Nat.le_of_eq rfl) (hb hby at_53) (fun _ _ => ⟨rfl, q5, (by decide : 0 + 3 ≤ _), (by decide : 0 + 14 ≤ _)⟩)
    dsimp only [Pt.U, Pt.locs, Pt.cells, Pt.slots] at X62 l62 y62 z62 st62 hQ62
    subst l62 y62 z62
    obtain ⟨x62, rfl, N62q, E62, S62⟩ := hQ62
    have N62 := Fr.app N5 N62q
    have EN_62 := EN.ext E62
    have K62 := (Keep.refl h0 []).ext E62
    have CR62 := (CHr.refl hCH).trans (CHr.ext E62 hCH)
    have CH62 := CHv.ext E62 hCH
    have pre63 : ∀ t, Steps p.tables e below (T62.setTop (mkF m 94 #[.val (.int p1), .val (.int p2), .val (.int p3), .val (.int p4), .val (.int p5), .val (.int p6), .val (.int ((p1 &&& (2147483647 : Int32)) % (6 : Int32))), .val (.int (own_ch p2)), .val (.int (own_ch p3)), .val (.int (own_ch p4)), .val (.int (own_ch p5)), .val (.int (own_ch p6)), .val (.ref x62), .val (.int (own_ch p6)), .unset, .unset, .unset] [(.int (123 : Int32)), (.int (own_ch p2))])) t → Steps p.tables e below (s₁.setTop (entryFrame m #[(.int p1), (.int p2), (.int p3), (.int p4), (.int p5), (.int p6)] maxLocals)) t := fun t k => pre6 t (by
      show Steps p.tables e below (T5.setTop (mkF m 53 #[.val (.int p1), .val (.int p2), .val (.int p3), .val (.int p4), .val (.int p5), .val (.int p6), .val (.int ((p1 &&& (2147483647 : Int32)) % (6 : Int32))), .val (.int (own_ch p2)), .val (.int (own_ch p3)), .val (.int (own_ch p4)), .val (.int (own_ch p5)), .val (.int (own_ch p6)), .unset, .unset, .unset, .unset, .unset] [(.int (own_ch p6)), (.int (own_ch p5)), (.int (own_ch p4)), (.int (own_ch p3)), (.int (own_ch p2)), (.int ((p1 &&& (2147483647 : Int32)) % (6 : Int32)))])) _
      refine st62 _ ?_
      refine XS.astore X62.here hx rfl (hb hby at_56) rfl rfl (l' := #[.val (.int p1), .val (.int p2), .val (.int p3), .val (.int p4), .val (.int p5), .val (.int p6), .val (.int ((p1 &&& (2147483647 : Int32)) % (6 : Int32))), .val (.int (own_ch p2)), .val (.int (own_ch p3)), .val (.int (own_ch p4)), .val (.int (own_ch p5)), .val (.int (own_ch p6)), .val (.ref x62), .unset, .unset, .unset, .unset]) rfl ?_
      refine XS.iload X62.here hx rfl (hb hby at_58) rfl ?_
      refine XS.iconst X62.here hx rfl (hb hby at_60) ?_
      refine XS.icmpYes X62.here hx rfl (pc0 := 61) (pc' := 69) rfl (hb hby at_61) rfl (feq (by rw [hn]; decide)).2 (by decide) (by decide) ?_
      refine XS.iload X62.here hx rfl (hb hby at_69) rfl ?_
      refine XS.iconst X62.here hx rfl (hb hby at_71) ?_
      refine XS.icmpYes X62.here hx rfl (pc0 := 72) (pc' := 80) rfl (hb hby at_72) rfl (feq (by rw [hn]; decide)).2 (by decide) (by decide) ?_
      refine XS.iload X62.here hx rfl (hb hby at_80) rfl ?_
      refine XS.istore X62.here hx rfl (hb hby at_82) rfl (l' := #[.val (.int p1), .val (.int p2), .val (.int p3), .val (.int p4), .val (.int p5), .val (.int p6), .val (.int ((p1 &&& (2147483647 : Int32)) % (6 : Int32))), .val (.int (own_ch p2)), .val (.int (own_ch p3)), .val (.int (own_ch p4)), .val (.int (own_ch p5)), .val (.int (own_ch p6)), .val (.ref x62), .val (.int (own_ch p6)), .unset, .unset, .unset]) rfl ?_
      refine XS.iload X62.here hx rfl (hb hby at_84) rfl ?_
      refine XS.iconst X62.here hx rfl (hb hby at_86) ?_
      refine XS.icmpNo X62.here hx rfl (hb hby at_87) rfl (flt (by rw [hn]; decide)).1 ?_
      refine XS.iload X62.here hx rfl (hb hby at_90) rfl ?_
      refine XS.bipush X62.here hx rfl (hb hby at_92) ?_
      exact k)
    by_cases hc94 : (own_ch p2) = (123 : Int32)
    · have pre64 : ∀ t, Steps p.tables e below (T62.setTop (mkF m 101 #[.val (.int p1), .val (.int p2), .val (.int p3), .val (.int p4), .val (.int p5), .val (.int p6), .val (.int ((p1 &&& (2147483647 : Int32)) % (6 : Int32))), .val (.int (own_ch p2)), .val (.int (own_ch p3)), .val (.int (own_ch p4)), .val (.int (own_ch p5)), .val (.int (own_ch p6)), .val (.ref x62), .val (.int (own_ch p6)), .unset, .unset, .unset] [(.int (125 : Int32)), (.int (own_ch p6))])) t → Steps p.tables e below (s₁.setTop (entryFrame m #[(.int p1), (.int p2), (.int p3), (.int p4), (.int p5), (.int p6)] maxLocals)) t := fun t k => pre63 t (by
        show Steps p.tables e below (T62.setTop (mkF m 94 #[.val (.int p1), .val (.int p2), .val (.int p3), .val (.int p4), .val (.int p5), .val (.int p6), .val (.int ((p1 &&& (2147483647 : Int32)) % (6 : Int32))), .val (.int (own_ch p2)), .val (.int (own_ch p3)), .val (.int (own_ch p4)), .val (.int (own_ch p5)), .val (.int (own_ch p6)), .val (.ref x62), .val (.int (own_ch p6)), .unset, .unset, .unset] [(.int (123 : Int32)), (.int (own_ch p2))])) _
        refine XS.icmpNo X62.here hx rfl (hb hby at_94) rfl (teq hc94).2 ?_
        refine XS.iload X62.here hx rfl (hb hby at_97) rfl ?_
        refine XS.bipush X62.here hx rfl (hb hby at_99) ?_
        exact k)
      by_cases hc101 : (own_ch p6) = (125 : Int32)
      · obtain ⟨_, _, ⟨T65, L65, k65, n65⟩, -, X65, ⟨Lc65, hQ65, l65, y65, z65⟩, st65⟩ := Jvm.LawKit.callS X62 hx (y := (⟨"com/example/oxpecker/oxpecker/MessageTemplateSoleParameterPinLaw", "inName", "(C)Z"⟩ : MethodName)) ho0 (mvT hZ0 (wd88 hw)) (mvT hZ0 (wd89 hw)) (mvT hZ0 (wd3 hw)) (mvT hZ0 (wd90 hw)) (by decide) (backOf (W := 0) (rmln l Z a0 hw [] (own_ch p3) T62.heap n0 (Nat.le_trans Z0 E62.1)) hZ0 (wd90 hw) (wd3 hw) (by decide) (by decide)) (g := (mkF m 106 #[.val (.int p1), .val (.int p2), .val (.int p3), .val (.int p4), .val (.int p5), .val (.int p6), .val (.int ((p1 &&& (2147483647 : Int32)) % (6 : Int32))), .val (.int (own_ch p2)), .val (.int (own_ch p3)), .val (.int (own_ch p4)), .val (.int (own_ch p5)), .val (.int (own_ch p6)), .val (.ref x62), .val (.int (own_ch p6)), .unset, .unset, .unset] [(.int (own_ch p3))])) rfl (by rw [hml]; rfl) (argsL := [(.int (own_ch p3))]) (rest := []) (lenOf pd_ln rfl) rfl (by show 2 * 0 + _ ≤ _; exact Nat.le_of_eq rfl) (hb hby at_106) (fun _ _ => ⟨rfl, rfl, (by decide : 3 + 0 ≤ _), (by decide : 14 + 0 ≤ _)⟩)
        dsimp only [Pt.U, Pt.locs, Pt.cells, Pt.slots] at X65 l65 y65 z65 st65 hQ65
        subst l65 y65 z65
        obtain ⟨rfl, N65q, q65⟩ := hQ65
        have N65 := Fr.app N62 N65q
        have pre66 : ∀ t, Steps p.tables e below (T65.setTop (mkF m 109 #[.val (.int p1), .val (.int p2), .val (.int p3), .val (.int p4), .val (.int p5), .val (.int p6), .val (.int ((p1 &&& (2147483647 : Int32)) % (6 : Int32))), .val (.int (own_ch p2)), .val (.int (own_ch p3)), .val (.int (own_ch p4)), .val (.int (own_ch p5)), .val (.int (own_ch p6)), .val (.ref x62), .val (.int (own_ch p6)), .unset, .unset, .unset] [(.int (own_in (own_ch p3)))])) t → Steps p.tables e below (s₁.setTop (entryFrame m #[(.int p1), (.int p2), (.int p3), (.int p4), (.int p5), (.int p6)] maxLocals)) t := fun t k => pre64 t (by
          show Steps p.tables e below (T62.setTop (mkF m 101 #[.val (.int p1), .val (.int p2), .val (.int p3), .val (.int p4), .val (.int p5), .val (.int p6), .val (.int ((p1 &&& (2147483647 : Int32)) % (6 : Int32))), .val (.int (own_ch p2)), .val (.int (own_ch p3)), .val (.int (own_ch p4)), .val (.int (own_ch p5)), .val (.int (own_ch p6)), .val (.ref x62), .val (.int (own_ch p6)), .unset, .unset, .unset] [(.int (125 : Int32)), (.int (own_ch p6))])) _
          refine XS.icmpNo X62.here hx rfl (hb hby at_101) rfl (teq hc101).2 ?_
          refine XS.iload X62.here hx rfl (hb hby at_104) rfl ?_
          refine st65 _ ?_
          exact k)
        by_cases hc109 : (own_in (own_ch p3)) = (0 : Int32)
        · obtain ⟨_, _, ⟨T67, L67, k67, n67⟩, -, X67, ⟨Lc67, hQ67, l67, y67, z67⟩, st67⟩ := Jvm.LawKit.callS X65 hx (y := (⟨"com/example/oxpecker/oxpecker/MessageTemplate", "soleParameter", "(Ljava/lang/String;)Ljava/lang/String;"⟩ : MethodName)) ho0 (mvT hZ0 (wd30 hw)) (mvT hZ0 (wd31 hw)) (mvT hZ0 (wd32 hw)) (mvT hZ0 (wd33 hw)) (by decide) (backOf (W := 0) (rmspN5 l Z a0 hw [] x62 (own_ch p2) (own_ch p3) (own_ch p4) (own_ch p5) (own_ch p6) T62.heap n0 (Nat.le_trans Z0 E62.1) S62 EN_62 (own_p1 (own_chr p2) (own_p1 (own_chr p3) (own_p1 (own_chr p4) (own_p1 (own_chr p5) (own_p1 (own_chr p6) own_p0))))) (fun q => by
                obtain ⟨w0, w1, w2, w3, w4⟩ := q
                contradiction)) hZ0 (wd33 hw) (wd32 hw) (by decide) (by decide)) (g := (mkF m 149 #[.val (.int p1), .val (.int p2), .val (.int p3), .val (.int p4), .val (.int p5), .val (.int p6), .val (.int ((p1 &&& (2147483647 : Int32)) % (6 : Int32))), .val (.int (own_ch p2)), .val (.int (own_ch p3)), .val (.int (own_ch p4)), .val (.int (own_ch p5)), .val (.int (own_ch p6)), .val (.ref x62), .val (.int (own_ch p6)), .val (.int (0 : Int32)), .unset, .unset] [(.ref x62)])) rfl (by rw [hml]; rfl) (argsL := [(.ref x62)]) (rest := []) (lenOf pd_spN5 rfl) rfl (by show 2 * 0 + _ ≤ _; exact Nat.le_of_eq rfl) (hb hby at_149) (fun _ _ => ⟨rfl, q65, (by decide : 3 + 0 ≤ _), (by decide : 14 + 0 ≤ _)⟩)
          dsimp only [Pt.U, Pt.locs, Pt.cells, Pt.slots] at X67 l67 y67 z67 st67 hQ67
          subst l67 y67 z67
          obtain ⟨rfl, N67q, q67⟩ := hQ67
          have N67 := Fr.app N65 N67q
          have pre68 : ∀ t, Steps p.tables e below (T67.setTop (mkF m 169 #[.val (.int p1), .val (.int p2), .val (.int p3), .val (.int p4), .val (.int p5), .val (.int p6), .val (.int ((p1 &&& (2147483647 : Int32)) % (6 : Int32))), .val (.int (own_ch p2)), .val (.int (own_ch p3)), .val (.int (own_ch p4)), .val (.int (own_ch p5)), .val (.int (own_ch p6)), .val (.ref x62), .val (.int (own_ch p6)), .val (.int (0 : Int32)), .val .null, .unset] [(.int (1 : Int32))])) t → Steps p.tables e below (s₁.setTop (entryFrame m #[(.int p1), (.int p2), (.int p3), (.int p4), (.int p5), (.int p6)] maxLocals)) t := fun t k => pre66 t (by
            show Steps p.tables e below (T65.setTop (mkF m 109 #[.val (.int p1), .val (.int p2), .val (.int p3), .val (.int p4), .val (.int p5), .val (.int p6), .val (.int ((p1 &&& (2147483647 : Int32)) % (6 : Int32))), .val (.int (own_ch p2)), .val (.int (own_ch p3)), .val (.int (own_ch p4)), .val (.int (own_ch p5)), .val (.int (own_ch p6)), .val (.ref x62), .val (.int (own_ch p6)), .unset, .unset, .unset] [(.int (own_in (own_ch p3)))])) _
            refine XS.ifYes X65.here hx rfl (pc0 := 109) (pc' := 144) rfl (hb hby at_109) rfl ((if0 _ _).trans (teq hc109).1) (by decide) (by decide) ?_
            refine XS.iconst X65.here hx rfl (hb hby at_144) ?_
            refine XS.istore X65.here hx rfl (hb hby at_145) rfl (l' := #[.val (.int p1), .val (.int p2), .val (.int p3), .val (.int p4), .val (.int p5), .val (.int p6), .val (.int ((p1 &&& (2147483647 : Int32)) % (6 : Int32))), .val (.int (own_ch p2)), .val (.int (own_ch p3)), .val (.int (own_ch p4)), .val (.int (own_ch p5)), .val (.int (own_ch p6)), .val (.ref x62), .val (.int (own_ch p6)), .val (.int (0 : Int32)), .unset, .unset]) rfl ?_
            refine XS.aload X65.here hx rfl (hb hby at_147) rfl rfl ?_
            refine st67 _ ?_
            refine XS.astore X67.here hx rfl (hb hby at_152) rfl rfl (l' := #[.val (.int p1), .val (.int p2), .val (.int p3), .val (.int p4), .val (.int p5), .val (.int p6), .val (.int ((p1 &&& (2147483647 : Int32)) % (6 : Int32))), .val (.int (own_ch p2)), .val (.int (own_ch p3)), .val (.int (own_ch p4)), .val (.int (own_ch p5)), .val (.int (own_ch p6)), .val (.ref x62), .val (.int (own_ch p6)), .val (.int (0 : Int32)), .val .null, .unset]) rfl ?_
            refine XS.iload X67.here hx rfl (hb hby at_154) rfl ?_
            refine XS.ifNo X67.here hx rfl (hb hby at_156) rfl ((if0 _ _).trans (teq (by decide : (0 : Int32) = (0 : Int32))).2) ?_
            refine XS.aload X67.here hx rfl (hb hby at_159) rfl rfl ?_
            refine XS.ifnonnullNo X67.here hx rfl (hb hby at_161) rfl ?_
            refine XS.iconst X67.here hx rfl (hb hby at_164) ?_
            refine XS.goto X67.here hx rfl (pc0 := 165) (pc' := 169) rfl (hb hby at_165) (by decide) (by decide) ?_
            exact k)
          obtain ⟨fs69, hr69, hrun69, hended69, hE69⟩ := X67.leaveW hS0 (by first | exact (Nat.le_trans (Nat.le_refl _) E62.1) | (rw [q67]; exact (Nat.le_trans (Nat.le_refl _) E62.1))) (v := some (.int (1 : Int32))) (fun h => by rw [Bd.returns] at h; cases h)
          refine ⟨_, _, pre68 _ ?_, hrun69, hended69, _, _, rfl, ?_, ?_, hE69.1, hE69.2.1, hE69.2.2.1, hE69.2.2.2.mono (by decide) (by decide)⟩
          · show Steps p.tables e below (T67.setTop (mkF m 169 #[.val (.int p1), .val (.int p2), .val (.int p3), .val (.int p4), .val (.int p5), .val (.int p6), .val (.int ((p1 &&& (2147483647 : Int32)) % (6 : Int32))), .val (.int (own_ch p2)), .val (.int (own_ch p3)), .val (.int (own_ch p4)), .val (.int (own_ch p5)), .val (.int (own_ch p6)), .val (.ref x62), .val (.int (own_ch p6)), .val (.int (0 : Int32)), .val .null, .unset] [(.int (1 : Int32))])) _
            exact retN X67 hx (t := .boolean) Bd.returns (by simp) (hb hby at_169) hr69
          · show Q0 Z p1 p2 p3 p4 p5 p6 h0 n0 _ T67.heap _
            rw [q67]
            exact ⟨rfl, N67⟩
          · show CHr Z own_EL s.vm s.heap T67.vm T67.heap
            rw [q67]
            rw [hh]
            exact CR62.trans (CHv.at X67 hZ0 hEL CH62)
        obtain ⟨_, _, ⟨T70, L70, k70, n70⟩, -, X70, ⟨Lc70, hQ70, l70, y70, z70⟩, st70⟩ := Jvm.LawKit.callS X65 hx (y := (⟨"com/example/oxpecker/oxpecker/MessageTemplateSoleParameterPinLaw", "inName", "(C)Z"⟩ : MethodName)) ho0 (mvT hZ0 (wd88 hw)) (mvT hZ0 (wd89 hw)) (mvT hZ0 (wd3 hw)) (mvT hZ0 (wd90 hw)) (by decide) (backOf (W := 0) (rmln l Z a0 hw [] (own_ch p4) T62.heap n0 (Nat.le_trans Z0 E62.1)) hZ0 (wd90 hw) (wd3 hw) (by decide) (by decide)) (g := (mkF m 120 #[.val (.int p1), .val (.int p2), .val (.int p3), .val (.int p4), .val (.int p5), .val (.int p6), .val (.int ((p1 &&& (2147483647 : Int32)) % (6 : Int32))), .val (.int (own_ch p2)), .val (.int (own_ch p3)), .val (.int (own_ch p4)), .val (.int (own_ch p5)), .val (.int (own_ch p6)), .val (.ref x62), .val (.int (own_ch p6)), .unset, .unset, .unset] [(.int (own_ch p4))])) rfl (by rw [hml]; rfl) (argsL := [(.int (own_ch p4))]) (rest := []) (lenOf pd_ln rfl) rfl (by show 2 * 0 + _ ≤ _; exact Nat.le_of_eq rfl) (hb hby at_120) (fun _ _ => ⟨rfl, q65, (by decide : 3 + 0 ≤ _), (by decide : 14 + 0 ≤ _)⟩)
        dsimp only [Pt.U, Pt.locs, Pt.cells, Pt.slots] at X70 l70 y70 z70 st70 hQ70
        subst l70 y70 z70
        obtain ⟨rfl, N70q, q70⟩ := hQ70
        have N70 := Fr.app N65 N70q
        have pre71 : ∀ t, Steps p.tables e below (T70.setTop (mkF m 123 #[.val (.int p1), .val (.int p2), .val (.int p3), .val (.int p4), .val (.int p5), .val (.int p6), .val (.int ((p1 &&& (2147483647 : Int32)) % (6 : Int32))), .val (.int (own_ch p2)), .val (.int (own_ch p3)), .val (.int (own_ch p4)), .val (.int (own_ch p5)), .val (.int (own_ch p6)), .val (.ref x62), .val (.int (own_ch p6)), .unset, .unset, .unset] [(.int (own_in (own_ch p4)))])) t → Steps p.tables e below (s₁.setTop (entryFrame m #[(.int p1), (.int p2), (.int p3), (.int p4), (.int p5), (.int p6)] maxLocals)) t := fun t k => pre66 t (by
          show Steps p.tables e below (T65.setTop (mkF m 109 #[.val (.int p1), .val (.int p2), .val (.int p3), .val (.int p4), .val (.int p5), .val (.int p6), .val (.int ((p1 &&& (2147483647 : Int32)) % (6 : Int32))), .val (.int (own_ch p2)), .val (.int (own_ch p3)), .val (.int (own_ch p4)), .val (.int (own_ch p5)), .val (.int (own_ch p6)), .val (.ref x62), .val (.int (own_ch p6)), .unset, .unset, .unset] [(.int (own_in (own_ch p3)))])) _
          refine XS.ifNo X65.here hx rfl (hb hby at_109) rfl ((if0 _ _).trans (feq hc109).1) ?_
          refine XS.iload X65.here hx rfl (hb hby at_112) rfl ?_
          refine XS.iconst X65.here hx rfl (hb hby at_114) ?_
          refine XS.icmpNo X65.here hx rfl (hb hby at_115) rfl (flt (by rw [hn]; decide)).1 ?_
          refine XS.iload X65.here hx rfl (hb hby at_118) rfl ?_
          refine st70 _ ?_
          exact k)
        by_cases hc123 : (own_in (own_ch p4)) = (0 : Int32)
        · obtain ⟨_, _, ⟨T72, L72, k72, n72⟩, -, X72, ⟨Lc72, hQ72, l72, y72, z72⟩, st72⟩ := Jvm.LawKit.callS X70 hx (y := (⟨"com/example/oxpecker/oxpecker/MessageTemplate", "soleParameter", "(Ljava/lang/String;)Ljava/lang/String;"⟩ : MethodName)) ho0 (mvT hZ0 (wd30 hw)) (mvT hZ0 (wd31 hw)) (mvT hZ0 (wd32 hw)) (mvT hZ0 (wd33 hw)) (by decide) (backOf (W := 0) (rmspN5 l Z a0 hw [] x62 (own_ch p2) (own_ch p3) (own_ch p4) (own_ch p5) (own_ch p6) T62.heap n0 (Nat.le_trans Z0 E62.1) S62 EN_62 (own_p1 (own_chr p2) (own_p1 (own_chr p3) (own_p1 (own_chr p4) (own_p1 (own_chr p5) (own_p1 (own_chr p6) own_p0))))) (fun q => by
                obtain ⟨w0, w1, w2, w3, w4⟩ := q
                contradiction)) hZ0 (wd33 hw) (wd32 hw) (by decide) (by decide)) (g := (mkF m 149 #[.val (.int p1), .val (.int p2), .val (.int p3), .val (.int p4), .val (.int p5), .val (.int p6), .val (.int ((p1 &&& (2147483647 : Int32)) % (6 : Int32))), .val (.int (own_ch p2)), .val (.int (own_ch p3)), .val (.int (own_ch p4)), .val (.int (own_ch p5)), .val (.int (own_ch p6)), .val (.ref x62), .val (.int (own_ch p6)), .val (.int (0 : Int32)), .unset, .unset] [(.ref x62)])) rfl (by rw [hml]; rfl) (argsL := [(.ref x62)]) (rest := []) (lenOf pd_spN5 rfl) rfl (by show 2 * 0 + _ ≤ _; exact Nat.le_of_eq rfl) (hb hby at_149) (fun _ _ => ⟨rfl, q70, (by decide : 3 + 0 ≤ _), (by decide : 14 + 0 ≤ _)⟩)
          dsimp only [Pt.U, Pt.locs, Pt.cells, Pt.slots] at X72 l72 y72 z72 st72 hQ72
          subst l72 y72 z72
          obtain ⟨rfl, N72q, q72⟩ := hQ72
          have N72 := Fr.app N70 N72q
          have pre73 : ∀ t, Steps p.tables e below (T72.setTop (mkF m 169 #[.val (.int p1), .val (.int p2), .val (.int p3), .val (.int p4), .val (.int p5), .val (.int p6), .val (.int ((p1 &&& (2147483647 : Int32)) % (6 : Int32))), .val (.int (own_ch p2)), .val (.int (own_ch p3)), .val (.int (own_ch p4)), .val (.int (own_ch p5)), .val (.int (own_ch p6)), .val (.ref x62), .val (.int (own_ch p6)), .val (.int (0 : Int32)), .val .null, .unset] [(.int (1 : Int32))])) t → Steps p.tables e below (s₁.setTop (entryFrame m #[(.int p1), (.int p2), (.int p3), (.int p4), (.int p5), (.int p6)] maxLocals)) t := fun t k => pre71 t (by
            show Steps p.tables e below (T70.setTop (mkF m 123 #[.val (.int p1), .val (.int p2), .val (.int p3), .val (.int p4), .val (.int p5), .val (.int p6), .val (.int ((p1 &&& (2147483647 : Int32)) % (6 : Int32))), .val (.int (own_ch p2)), .val (.int (own_ch p3)), .val (.int (own_ch p4)), .val (.int (own_ch p5)), .val (.int (own_ch p6)), .val (.ref x62), .val (.int (own_ch p6)), .unset, .unset, .unset] [(.int (own_in (own_ch p4)))])) _
            refine XS.ifYes X70.here hx rfl (pc0 := 123) (pc' := 144) rfl (hb hby at_123) rfl ((if0 _ _).trans (teq hc123).1) (by decide) (by decide) ?_
            refine XS.iconst X70.here hx rfl (hb hby at_144) ?_
            refine XS.istore X70.here hx rfl (hb hby at_145) rfl (l' := #[.val (.int p1), .val (.int p2), .val (.int p3), .val (.int p4), .val (.int p5), .val (.int p6), .val (.int ((p1 &&& (2147483647 : Int32)) % (6 : Int32))), .val (.int (own_ch p2)), .val (.int (own_ch p3)), .val (.int (own_ch p4)), .val (.int (own_ch p5)), .val (.int (own_ch p6)), .val (.ref x62), .val (.int (own_ch p6)), .val (.int (0 : Int32)), .unset, .unset]) rfl ?_
            refine XS.aload X70.here hx rfl (hb hby at_147) rfl rfl ?_
            refine st72 _ ?_
            refine XS.astore X72.here hx rfl (hb hby at_152) rfl rfl (l' := #[.val (.int p1), .val (.int p2), .val (.int p3), .val (.int p4), .val (.int p5), .val (.int p6), .val (.int ((p1 &&& (2147483647 : Int32)) % (6 : Int32))), .val (.int (own_ch p2)), .val (.int (own_ch p3)), .val (.int (own_ch p4)), .val (.int (own_ch p5)), .val (.int (own_ch p6)), .val (.ref x62), .val (.int (own_ch p6)), .val (.int (0 : Int32)), .val .null, .unset]) rfl ?_
            refine XS.iload X72.here hx rfl (hb hby at_154) rfl ?_
            refine XS.ifNo X72.here hx rfl (hb hby at_156) rfl ((if0 _ _).trans (teq (by decide : (0 : Int32) = (0 : Int32))).2) ?_
            refine XS.aload X72.here hx rfl (hb hby at_159) rfl rfl ?_
            refine XS.ifnonnullNo X72.here hx rfl (hb hby at_161) rfl ?_
            refine XS.iconst X72.here hx rfl (hb hby at_164) ?_
            refine XS.goto X72.here hx rfl (pc0 := 165) (pc' := 169) rfl (hb hby at_165) (by decide) (by decide) ?_
            exact k)
          obtain ⟨fs74, hr74, hrun74, hended74, hE74⟩ := X72.leaveW hS0 (by first | exact (Nat.le_trans (Nat.le_refl _) E62.1) | (rw [q72]; exact (Nat.le_trans (Nat.le_refl _) E62.1))) (v := some (.int (1 : Int32))) (fun h => by rw [Bd.returns] at h; cases h)
          refine ⟨_, _, pre73 _ ?_, hrun74, hended74, _, _, rfl, ?_, ?_, hE74.1, hE74.2.1, hE74.2.2.1, hE74.2.2.2.mono (by decide) (by decide)⟩
          · show Steps p.tables e below (T72.setTop (mkF m 169 #[.val (.int p1), .val (.int p2), .val (.int p3), .val (.int p4), .val (.int p5), .val (.int p6), .val (.int ((p1 &&& (2147483647 : Int32)) % (6 : Int32))), .val (.int (own_ch p2)), .val (.int (own_ch p3)), .val (.int (own_ch p4)), .val (.int (own_ch p5)), .val (.int (own_ch p6)), .val (.ref x62), .val (.int (own_ch p6)), .val (.int (0 : Int32)), .val .null, .unset] [(.int (1 : Int32))])) _
            exact retN X72 hx (t := .boolean) Bd.returns (by simp) (hb hby at_169) hr74
          · show Q0 Z p1 p2 p3 p4 p5 p6 h0 n0 _ T72.heap _
            rw [q72]
            exact ⟨rfl, N72⟩
          · show CHr Z own_EL s.vm s.heap T72.vm T72.heap
            rw [q72]
            rw [hh]
            exact CR62.trans (CHv.at X72 hZ0 hEL CH62)
        obtain ⟨_, _, ⟨T75, L75, k75, n75⟩, -, X75, ⟨Lc75, hQ75, l75, y75, z75⟩, st75⟩ := Jvm.LawKit.callS X70 hx (y := (⟨"com/example/oxpecker/oxpecker/MessageTemplateSoleParameterPinLaw", "inName", "(C)Z"⟩ : MethodName)) ho0 (mvT hZ0 (wd88 hw)) (mvT hZ0 (wd89 hw)) (mvT hZ0 (wd3 hw)) (mvT hZ0 (wd90 hw)) (by decide) (backOf (W := 0) (rmln l Z a0 hw [] (own_ch p5) T62.heap n0 (Nat.le_trans Z0 E62.1)) hZ0 (wd90 hw) (wd3 hw) (by decide) (by decide)) (g := (mkF m 134 #[.val (.int p1), .val (.int p2), .val (.int p3), .val (.int p4), .val (.int p5), .val (.int p6), .val (.int ((p1 &&& (2147483647 : Int32)) % (6 : Int32))), .val (.int (own_ch p2)), .val (.int (own_ch p3)), .val (.int (own_ch p4)), .val (.int (own_ch p5)), .val (.int (own_ch p6)), .val (.ref x62), .val (.int (own_ch p6)), .unset, .unset, .unset] [(.int (own_ch p5))])) rfl (by rw [hml]; rfl) (argsL := [(.int (own_ch p5))]) (rest := []) (lenOf pd_ln rfl) rfl (by show 2 * 0 + _ ≤ _; exact Nat.le_of_eq rfl) (hb hby at_134) (fun _ _ => ⟨rfl, q70, (by decide : 3 + 0 ≤ _), (by decide : 14 + 0 ≤ _)⟩)
        dsimp only [Pt.U, Pt.locs, Pt.cells, Pt.slots] at X75 l75 y75 z75 st75 hQ75
        subst l75 y75 z75
        obtain ⟨rfl, N75q, q75⟩ := hQ75
        have N75 := Fr.app N70 N75q
        have pre76 : ∀ t, Steps p.tables e below (T75.setTop (mkF m 137 #[.val (.int p1), .val (.int p2), .val (.int p3), .val (.int p4), .val (.int p5), .val (.int p6), .val (.int ((p1 &&& (2147483647 : Int32)) % (6 : Int32))), .val (.int (own_ch p2)), .val (.int (own_ch p3)), .val (.int (own_ch p4)), .val (.int (own_ch p5)), .val (.int (own_ch p6)), .val (.ref x62), .val (.int (own_ch p6)), .unset, .unset, .unset] [(.int (own_in (own_ch p5)))])) t → Steps p.tables e below (s₁.setTop (entryFrame m #[(.int p1), (.int p2), (.int p3), (.int p4), (.int p5), (.int p6)] maxLocals)) t := fun t k => pre71 t (by
          show Steps p.tables e below (T70.setTop (mkF m 123 #[.val (.int p1), .val (.int p2), .val (.int p3), .val (.int p4), .val (.int p5), .val (.int p6), .val (.int ((p1 &&& (2147483647 : Int32)) % (6 : Int32))), .val (.int (own_ch p2)), .val (.int (own_ch p3)), .val (.int (own_ch p4)), .val (.int (own_ch p5)), .val (.int (own_ch p6)), .val (.ref x62), .val (.int (own_ch p6)), .unset, .unset, .unset] [(.int (own_in (own_ch p4)))])) _
          refine XS.ifNo X70.here hx rfl (hb hby at_123) rfl ((if0 _ _).trans (feq hc123).1) ?_
          refine XS.iload X70.here hx rfl (hb hby at_126) rfl ?_
          refine XS.iconst X70.here hx rfl (hb hby at_128) ?_
          refine XS.icmpNo X70.here hx rfl (hb hby at_129) rfl (flt (by rw [hn]; decide)).1 ?_
          refine XS.iload X70.here hx rfl (hb hby at_132) rfl ?_
          refine st75 _ ?_
          exact k)
        by_cases hc137 : (own_in (own_ch p5)) = (0 : Int32)
        · obtain ⟨_, _, ⟨T77, L77, k77, n77⟩, -, X77, ⟨Lc77, hQ77, l77, y77, z77⟩, st77⟩ := Jvm.LawKit.callS X75 hx (y := (⟨"com/example/oxpecker/oxpecker/MessageTemplate", "soleParameter", "(Ljava/lang/String;)Ljava/lang/String;"⟩ : MethodName)) ho0 (mvT hZ0 (wd30 hw)) (mvT hZ0 (wd31 hw)) (mvT hZ0 (wd32 hw)) (mvT hZ0 (wd33 hw)) (by decide) (backOf (W := 0) (rmspN5 l Z a0 hw [] x62 (own_ch p2) (own_ch p3) (own_ch p4) (own_ch p5) (own_ch p6) T62.heap n0 (Nat.le_trans Z0 E62.1) S62 EN_62 (own_p1 (own_chr p2) (own_p1 (own_chr p3) (own_p1 (own_chr p4) (own_p1 (own_chr p5) (own_p1 (own_chr p6) own_p0))))) (fun q => by
                obtain ⟨w0, w1, w2, w3, w4⟩ := q
                contradiction)) hZ0 (wd33 hw) (wd32 hw) (by decide) (by decide)) (g := (mkF m 149 #[.val (.int p1), .val (.int p2), .val (.int p3), .val (.int p4), .val (.int p5), .val (.int p6), .val (.int ((p1 &&& (2147483647 : Int32)) % (6 : Int32))), .val (.int (own_ch p2)), .val (.int (own_ch p3)), .val (.int (own_ch p4)), .val (.int (own_ch p5)), .val (.int (own_ch p6)), .val (.ref x62), .val (.int (own_ch p6)), .val (.int (0 : Int32)), .unset, .unset] [(.ref x62)])) rfl (by rw [hml]; rfl) (argsL := [(.ref x62)]) (rest := []) (lenOf pd_spN5 rfl) rfl (by show 2 * 0 + _ ≤ _; exact Nat.le_of_eq rfl) (hb hby at_149) (fun _ _ => ⟨rfl, q75, (by decide : 3 + 0 ≤ _), (by decide : 14 + 0 ≤ _)⟩)
          dsimp only [Pt.U, Pt.locs, Pt.cells, Pt.slots] at X77 l77 y77 z77 st77 hQ77
          subst l77 y77 z77
          obtain ⟨rfl, N77q, q77⟩ := hQ77
          have N77 := Fr.app N75 N77q
          have pre78 : ∀ t, Steps p.tables e below (T77.setTop (mkF m 169 #[.val (.int p1), .val (.int p2), .val (.int p3), .val (.int p4), .val (.int p5), .val (.int p6), .val (.int ((p1 &&& (2147483647 : Int32)) % (6 : Int32))), .val (.int (own_ch p2)), .val (.int (own_ch p3)), .val (.int (own_ch p4)), .val (.int (own_ch p5)), .val (.int (own_ch p6)), .val (.ref x62), .val (.int (own_ch p6)), .val (.int (0 : Int32)), .val .null, .unset] [(.int (1 : Int32))])) t → Steps p.tables e below (s₁.setTop (entryFrame m #[(.int p1), (.int p2), (.int p3), (.int p4), (.int p5), (.int p6)] maxLocals)) t := fun t k => pre76 t (by
            show Steps p.tables e below (T75.setTop (mkF m 137 #[.val (.int p1), .val (.int p2), .val (.int p3), .val (.int p4), .val (.int p5), .val (.int p6), .val (.int ((p1 &&& (2147483647 : Int32)) % (6 : Int32))), .val (.int (own_ch p2)), .val (.int (own_ch p3)), .val (.int (own_ch p4)), .val (.int (own_ch p5)), .val (.int (own_ch p6)), .val (.ref x62), .val (.int (own_ch p6)), .unset, .unset, .unset] [(.int (own_in (own_ch p5)))])) _
            refine XS.ifYes X75.here hx rfl (pc0 := 137) (pc' := 144) rfl (hb hby at_137) rfl ((if0 _ _).trans (teq hc137).1) (by decide) (by decide) ?_
            refine XS.iconst X75.here hx rfl (hb hby at_144) ?_
            refine XS.istore X75.here hx rfl (hb hby at_145) rfl (l' := #[.val (.int p1), .val (.int p2), .val (.int p3), .val (.int p4), .val (.int p5), .val (.int p6), .val (.int ((p1 &&& (2147483647 : Int32)) % (6 : Int32))), .val (.int (own_ch p2)), .val (.int (own_ch p3)), .val (.int (own_ch p4)), .val (.int (own_ch p5)), .val (.int (own_ch p6)), .val (.ref x62), .val (.int (own_ch p6)), .val (.int (0 : Int32)), .unset, .unset]) rfl ?_
            refine XS.aload X75.here hx rfl (hb hby at_147) rfl rfl ?_
            refine st77 _ ?_
            refine XS.astore X77.here hx rfl (hb hby at_152) rfl rfl (l' := #[.val (.int p1), .val (.int p2), .val (.int p3), .val (.int p4), .val (.int p5), .val (.int p6), .val (.int ((p1 &&& (2147483647 : Int32)) % (6 : Int32))), .val (.int (own_ch p2)), .val (.int (own_ch p3)), .val (.int (own_ch p4)), .val (.int (own_ch p5)), .val (.int (own_ch p6)), .val (.ref x62), .val (.int (own_ch p6)), .val (.int (0 : Int32)), .val .null, .unset]) rfl ?_
            refine XS.iload X77.here hx rfl (hb hby at_154) rfl ?_
            refine XS.ifNo X77.here hx rfl (hb hby at_156) rfl ((if0 _ _).trans (teq (by decide : (0 : Int32) = (0 : Int32))).2) ?_
            refine XS.aload X77.here hx rfl (hb hby at_159) rfl rfl ?_
            refine XS.ifnonnullNo X77.here hx rfl (hb hby at_161) rfl ?_
            refine XS.iconst X77.here hx rfl (hb hby at_164) ?_
            refine XS.goto X77.here hx rfl (pc0 := 165) (pc' := 169) rfl (hb hby at_165) (by decide) (by decide) ?_
            exact k)
          obtain ⟨fs79, hr79, hrun79, hended79, hE79⟩ := X77.leaveW hS0 (by first | exact (Nat.le_trans (Nat.le_refl _) E62.1) | (rw [q77]; exact (Nat.le_trans (Nat.le_refl _) E62.1))) (v := some (.int (1 : Int32))) (fun h => by rw [Bd.returns] at h; cases h)
          refine ⟨_, _, pre78 _ ?_, hrun79, hended79, _, _, rfl, ?_, ?_, hE79.1, hE79.2.1, hE79.2.2.1, hE79.2.2.2.mono (by decide) (by decide)⟩
          · show Steps p.tables e below (T77.setTop (mkF m 169 #[.val (.int p1), .val (.int p2), .val (.int p3), .val (.int p4), .val (.int p5), .val (.int p6), .val (.int ((p1 &&& (2147483647 : Int32)) % (6 : Int32))), .val (.int (own_ch p2)), .val (.int (own_ch p3)), .val (.int (own_ch p4)), .val (.int (own_ch p5)), .val (.int (own_ch p6)), .val (.ref x62), .val (.int (own_ch p6)), .val (.int (0 : Int32)), .val .null, .unset] [(.int (1 : Int32))])) _
            exact retN X77 hx (t := .boolean) Bd.returns (by simp) (hb hby at_169) hr79
          · show Q0 Z p1 p2 p3 p4 p5 p6 h0 n0 _ T77.heap _
            rw [q77]
            exact ⟨rfl, N77⟩
          · show CHr Z own_EL s.vm s.heap T77.vm T77.heap
            rw [q77]
            rw [hh]
            exact CR62.trans (CHv.at X77 hZ0 hEL CH62)
        obtain ⟨_, _, ⟨T80, L80, k80, n80⟩, -, X80, ⟨Lc80, hQ80, l80, y80, z80⟩, st80⟩ := Jvm.LawKit.callS X75 hx (y := (⟨"com/example/oxpecker/oxpecker/MessageTemplate", "soleParameter", "(Ljava/lang/String;)Ljava/lang/String;"⟩ : MethodName)) ho0 (mvT hZ0 (wd30 hw)) (mvT hZ0 (wd31 hw)) (mvT hZ0 (wd32 hw)) (mvT hZ0 (wd33 hw)) (by decide) (backOf (W := 0) (rmspY5 l Z a0 hw [] x62 (own_ch p2) (own_ch p3) (own_ch p4) (own_ch p5) (own_ch p6) T62.heap n0 (Nat.le_trans Z0 E62.1) S62 EN_62 (own_p1 (own_chr p2) (own_p1 (own_chr p3) (own_p1 (own_chr p4) (own_p1 (own_chr p5) (own_p1 (own_chr p6) own_p0))))) ⟨hc94, hc109, hc123, hc137, hc101⟩) hZ0 (wd33 hw) (wd32 hw) (by decide) (by decide)) (g := (mkF m 149 #[.val (.int p1), .val (.int p2), .val (.int p3), .val (.int p4), .val (.int p5), .val (.int p6), .val (.int ((p1 &&& (2147483647 : Int32)) % (6 : Int32))), .val (.int (own_ch p2)), .val (.int (own_ch p3)), .val (.int (own_ch p4)), .val (.int (own_ch p5)), .val (.int (own_ch p6)), .val (.ref x62), .val (.int (own_ch p6)), .val (.int (1 : Int32)), .unset, .unset] [(.ref x62)])) rfl (by rw [hml]; rfl) (argsL := [(.ref x62)]) (rest := []) (lenOf pd_spY5 rfl) rfl (by show 2 * 0 + _ ≤ _; exact Nat.le_of_eq rfl) (hb hby at_149) (fun _ _ => ⟨rfl, q75, (by decide : 3 + 2 ≤ _), (by decide : 14 + 9 ≤ _)⟩)
        dsimp only [Pt.U, Pt.locs, Pt.cells, Pt.slots] at X80 l80 y80 z80 st80 hQ80
        subst l80 y80 z80
        obtain ⟨x80, rfl, N80q, E80, S80⟩ := hQ80
        have N80 := Fr.app N75 N80q
        have EN_80 := EN_62.ext E80
        have S62_80 := S62.ext E80
        have K80 := K62.ext E80
        have CR80 := CR62.trans (CHr.ext E80 CH62)
        have CH80 := CHv.ext E80 CH62
        obtain ⟨_, _, ⟨T81, L81, k81, n81⟩, -, X81, ⟨Lc81, hQ81, l81, y81, z81⟩, st81⟩ := Jvm.LawKit.callS X80 hx (y := (⟨"com/example/oxpecker/oxpecker/MessageTemplateSoleParameterPinLaw", "make", "(ICCCCC)Ljava/lang/String;"⟩ : MethodName)) ho0 (mvT hZ0 (wd5 hw)) (mvT hZ0 (wd6 hw)) (mvT hZ0 (wd3 hw)) (mvT hZ0 (wd7 hw)) (by decide) (backOf (W := 0) (rmmk3 l Z a0 hw [] (((p1 &&& (2147483647 : Int32)) % (6 : Int32)) - (2 : Int32)) (own_ch p3) (own_ch p4) (own_ch p5) (own_ch p6) (own_ch p6) T80.heap n0 (Nat.le_trans (Nat.le_trans Z0 E62.1) E80.1) EN_80 (by rw [hn]; decide) (own_chr p3) (own_chr p4) (own_chr p5)) hZ0 (wd7 hw) (wd3 hw) (by decide) (by decide)) (g := (mkF m 184 #[.val (.int p1), .val (.int p2), .val (.int p3), .val (.int p4), .val (.int p5), .val (.int p6), .val (.int ((p1 &&& (2147483647 : Int32)) % (6 : Int32))), .val (.int (own_ch p2)), .val (.int (own_ch p3)), .val (.int (own_ch p4)), .val (.int (own_ch p5)), .val (.int (own_ch p6)), .val (.ref x62), .val (.int (own_ch p6)), .val (.int (1 : Int32)), .val (.ref x80), .unset] [(.int (own_ch p6)), (.int (own_ch p6)), (.int (own_ch p5)), (.int (own_ch p4)), (.int (own_ch p3)), (.int (((p1 &&& (2147483647 : Int32)) % (6 : Int32)) - (2 : Int32)))])) rfl (by rw [hml]; rfl) (argsL := [(.int (((p1 &&& (2147483647 : Int32)) % (6 : Int32)) - (2 : Int32))), (.int (own_ch p3)), (.int (own_ch p4)), (.int (own_ch p5)), (.int (own_ch p6)), (.int (own_ch p6))]) (rest := []) (lenOf pd_mk3 rfl) rfl (by show 2 * 0 + _ ≤ _; exact Nat.le_of_eq rfl) (hb hby at_184) (fun _ _ => ⟨rfl, rfl, (by decide : 5 + 3 ≤ _), (by decide : 23 + 14 ≤ _)⟩)
        dsimp only [Pt.U, Pt.locs, Pt.cells, Pt.slots] at X81 l81 y81 z81 st81 hQ81
        subst l81 y81 z81
        obtain ⟨x81, rfl, N81q, E81, S81⟩ := hQ81
        have N81 := Fr.app N80 N81q
        have EN_81 := EN_80.ext E81
        have S62_81 := S62_80.ext E81
        have S80_81 := S80.ext E81
        have K81 := K80.ext E81
        have CR81 := CR80.trans (CHr.ext E81 CH80)
        have CH81 := CHv.ext E81 CH80
        have hpm := (own_p1 (own_chr p3) (own_p1 (own_chr p4) (own_p1 (own_chr p5) own_p0)))
        have SG := S80_81
        obtain ⟨tg, kg, Eg, Vg, Cg, Kg⟩ := SG
        have SW := S81
        obtain ⟨tw, kw, Ew, Vw, Cw, Kw⟩ := SW
        have EN9 := EN_81
        obtain ⟨z, fm, Sz, hz, Sf, hfm⟩ := EN9
        obtain ⟨cq82, kq82, qa82, qb82, qc82⟩ := isOf hZ0 rfl Eg
        obtain ⟨_, _, ⟨T82, L82, k82, n82⟩, -, X82, ⟨Lc82, hQ82, l82, y82, z82⟩, st82⟩ := X81.virtualBack hx (y := (⟨"java/lang/String", "equals", "(Ljava/lang/Object;)Z"⟩ : MethodName)) (z := (⟨"java/lang/String", "equals", "(Ljava/lang/Object;)Z"⟩ : MethodName)) ho0 (mvT hZ0 (wd128 hw)) (mvT hZ0 (wd129 hw)) (notFace_of_selects (args := #[]) (mvT hZ0 (wd131 hw))) (mvT hZ0 (wd131 hw)) (mvT hZ0 (wd130 hw)) (by decide) (StrChars.Road.eqW (W := 0) hZ0 heq (kI := 4) (wd9 hw) Eg Vg Cg Kg (own_cod hpm) (own_up hpm) (Nat.le_of_ble_eq_true rfl) Ew Vw Cw Kw (own_cod hpm) (own_up hpm) (Nat.le_of_ble_eq_true rfl) Sz hz (by decide) (by decide)) qa82 qc82 (g := (mkF m 198 #[.val (.int p1), .val (.int p2), .val (.int p3), .val (.int p4), .val (.int p5), .val (.int p6), .val (.int ((p1 &&& (2147483647 : Int32)) % (6 : Int32))), .val (.int (own_ch p2)), .val (.int (own_ch p3)), .val (.int (own_ch p4)), .val (.int (own_ch p5)), .val (.int (own_ch p6)), .val (.ref x62), .val (.int (own_ch p6)), .val (.int (1 : Int32)), .val (.ref x80), .val (.ref x81)] [(.ref x81), (.ref x80)])) rfl (by rw [hml]; rfl) (Steps.refl _) (argsL := [(.ref x81)]) (rest := []) (lenOf pd_eq rfl) rfl (by show 2 * 0 + _ ≤ _; exact Nat.le_of_eq rfl) (hb hby at_198) (fun _ _ => ⟨rfl, rfl, (by decide : 8 + 0 ≤ _), (by decide : 37 + 0 ≤ _)⟩)
        dsimp only [Pt.U, Pt.locs, Pt.cells, Pt.slots] at X82 l82 y82 z82 st82 hQ82
        subst l82 y82 z82
        rcases hQ82 with ⟨⟨rfl, -⟩ | ⟨-, hb82⟩, rfl, q82⟩
        rotate_left
        · exact absurd rfl hb82
        have N82 := Fr.app N81 (Fr.nil n0)
        have pre83 : ∀ t, Steps p.tables e below (T82.setTop (mkF m 209 #[.val (.int p1), .val (.int p2), .val (.int p3), .val (.int p4), .val (.int p5), .val (.int p6), .val (.int ((p1 &&& (2147483647 : Int32)) % (6 : Int32))), .val (.int (own_ch p2)), .val (.int (own_ch p3)), .val (.int (own_ch p4)), .val (.int (own_ch p5)), .val (.int (own_ch p6)), .val (.ref x62), .val (.int (own_ch p6)), .val (.int (1 : Int32)), .val (.ref x80), .val (.ref x81)] [(.int (1 : Int32))])) t → Steps p.tables e below (s₁.setTop (entryFrame m #[(.int p1), (.int p2), (.int p3), (.int p4), (.int p5), (.int p6)] maxLocals)) t := fun t k => pre76 t (by
          show Steps p.tables e below (T75.setTop (mkF m 137 #[.val (.int p1), .val (.int p2), .val (.int p3), .val (.int p4), .val (.int p5), .val (.int p6), .val (.int ((p1 &&& (2147483647 : Int32)) % (6 : Int32))), .val (.int (own_ch p2)), .val (.int (own_ch p3)), .val (.int (own_ch p4)), .val (.int (own_ch p5)), .val (.int (own_ch p6)), .val (.ref x62), .val (.int (own_ch p6)), .unset, .unset, .unset] [(.int (own_in (own_ch p5)))])) _
          refine XS.ifNo X75.here hx rfl (hb hby at_137) rfl ((if0 _ _).trans (feq hc137).1) ?_
          refine XS.iconst X75.here hx rfl (hb hby at_140) ?_
          refine XS.goto X75.here hx rfl (pc0 := 141) (pc' := 145) rfl (hb hby at_141) (by decide) (by decide) ?_
          refine XS.istore X75.here hx rfl (hb hby at_145) rfl (l' := #[.val (.int p1), .val (.int p2), .val (.int p3), .val (.int p4), .val (.int p5), .val (.int p6), .val (.int ((p1 &&& (2147483647 : Int32)) % (6 : Int32))), .val (.int (own_ch p2)), .val (.int (own_ch p3)), .val (.int (own_ch p4)), .val (.int (own_ch p5)), .val (.int (own_ch p6)), .val (.ref x62), .val (.int (own_ch p6)), .val (.int (1 : Int32)), .unset, .unset]) rfl ?_
          refine XS.aload X75.here hx rfl (hb hby at_147) rfl rfl ?_
          refine st80 _ ?_
          refine XS.astore X80.here hx rfl (hb hby at_152) rfl rfl (l' := #[.val (.int p1), .val (.int p2), .val (.int p3), .val (.int p4), .val (.int p5), .val (.int p6), .val (.int ((p1 &&& (2147483647 : Int32)) % (6 : Int32))), .val (.int (own_ch p2)), .val (.int (own_ch p3)), .val (.int (own_ch p4)), .val (.int (own_ch p5)), .val (.int (own_ch p6)), .val (.ref x62), .val (.int (own_ch p6)), .val (.int (1 : Int32)), .val (.ref x80), .unset]) rfl ?_
          refine XS.iload X80.here hx rfl (hb hby at_154) rfl ?_
          refine XS.ifYes X80.here hx rfl (pc0 := 156) (pc' := 170) rfl (hb hby at_156) rfl ((if0 _ _).trans (feq (by decide : ¬ ((1 : Int32) = (0 : Int32)))).2) (by decide) (by decide) ?_
          refine XS.iload X80.here hx rfl (hb hby at_170) rfl ?_
          refine XS.iconst X80.here hx rfl (hb hby at_172) ?_
          refine XS.isub X80.here hx rfl (hb hby at_173) rfl ?_
          refine XS.iload X80.here hx rfl (hb hby at_174) rfl ?_
          refine XS.iload X80.here hx rfl (hb hby at_176) rfl ?_
          refine XS.iload X80.here hx rfl (hb hby at_178) rfl ?_
          refine XS.iload X80.here hx rfl (hb hby at_180) rfl ?_
          refine XS.iload X80.here hx rfl (hb hby at_182) rfl ?_
          refine st81 _ ?_
          refine XS.astore X81.here hx rfl (hb hby at_187) rfl rfl (l' := #[.val (.int p1), .val (.int p2), .val (.int p3), .val (.int p4), .val (.int p5), .val (.int p6), .val (.int ((p1 &&& (2147483647 : Int32)) % (6 : Int32))), .val (.int (own_ch p2)), .val (.int (own_ch p3)), .val (.int (own_ch p4)), .val (.int (own_ch p5)), .val (.int (own_ch p6)), .val (.ref x62), .val (.int (own_ch p6)), .val (.int (1 : Int32)), .val (.ref x80), .val (.ref x81)]) rfl ?_
          refine XS.aload X81.here hx rfl (hb hby at_189) rfl rfl ?_
          refine XS.ifnullNo X81.here hx rfl (hb hby at_191) rfl ?_
          refine XS.aload X81.here hx rfl (hb hby at_194) rfl rfl ?_
          refine XS.aload X81.here hx rfl (hb hby at_196) rfl rfl ?_
          refine st82.trans ?_
          refine XS.ifNo X82.here hx rfl (hb hby at_201) rfl ((if0 _ _).trans (feq (by decide : ¬ ((1 : Int32) = (0 : Int32)))).1) ?_
          refine XS.iconst X82.here hx rfl (hb hby at_204) ?_
          refine XS.goto X82.here hx rfl (pc0 := 205) (pc' := 209) rfl (hb hby at_205) (by decide) (by decide) ?_
          exact k)
        obtain ⟨fs84, hr84, hrun84, hended84, hE84⟩ := X82.leaveW hS0 (by first | exact (Nat.le_trans (Nat.le_trans (Nat.le_trans (Nat.le_refl _) E62.1) E80.1) E81.1) | (rw [q82]; exact (Nat.le_trans (Nat.le_trans (Nat.le_trans (Nat.le_refl _) E62.1) E80.1) E81.1))) (v := some (.int (1 : Int32))) (fun h => by rw [Bd.returns] at h; cases h)
        refine ⟨_, _, pre83 _ ?_, hrun84, hended84, _, _, rfl, ?_, ?_, hE84.1, hE84.2.1, hE84.2.2.1, hE84.2.2.2.mono (by decide) (by decide)⟩
        · show Steps p.tables e below (T82.setTop (mkF m 209 #[.val (.int p1), .val (.int p2), .val (.int p3), .val (.int p4), .val (.int p5), .val (.int p6), .val (.int ((p1 &&& (2147483647 : Int32)) % (6 : Int32))), .val (.int (own_ch p2)), .val (.int (own_ch p3)), .val (.int (own_ch p4)), .val (.int (own_ch p5)), .val (.int (own_ch p6)), .val (.ref x62), .val (.int (own_ch p6)), .val (.int (1 : Int32)), .val (.ref x80), .val (.ref x81)] [(.int (1 : Int32))])) _
          exact retN X82 hx (t := .boolean) Bd.returns (by simp) (hb hby at_209) hr84
        · show Q0 Z p1 p2 p3 p4 p5 p6 h0 n0 _ T82.heap _
          rw [q82]
          exact ⟨rfl, N82⟩
        · show CHr Z own_EL s.vm s.heap T82.vm T82.heap
          rw [q82]
          rw [hh]
          exact CR81.trans (CHv.at X82 hZ0 hEL CH81)
      obtain ⟨_, _, ⟨T85, L85, k85, n85⟩, -, X85, ⟨Lc85, hQ85, l85, y85, z85⟩, st85⟩ := Jvm.LawKit.callS X62 hx (y := (⟨"com/example/oxpecker/oxpecker/MessageTemplate", "soleParameter", "(Ljava/lang/String;)Ljava/lang/String;"⟩ : MethodName)) ho0 (mvT hZ0 (wd30 hw)) (mvT hZ0 (wd31 hw)) (mvT hZ0 (wd32 hw)) (mvT hZ0 (wd33 hw)) (by decide) (backOf (W := 0) (rmspN5 l Z a0 hw [] x62 (own_ch p2) (own_ch p3) (own_ch p4) (own_ch p5) (own_ch p6) T62.heap n0 (Nat.le_trans Z0 E62.1) S62 EN_62 (own_p1 (own_chr p2) (own_p1 (own_chr p3) (own_p1 (own_chr p4) (own_p1 (own_chr p5) (own_p1 (own_chr p6) own_p0))))) (fun q => by
            obtain ⟨w0, w1, w2, w3, w4⟩ := q
            contradiction)) hZ0 (wd33 hw) (wd32 hw) (by decide) (by decide)) (g := (mkF m 149 #[.val (.int p1), .val (.int p2), .val (.int p3), .val (.int p4), .val (.int p5), .val (.int p6), .val (.int ((p1 &&& (2147483647 : Int32)) % (6 : Int32))), .val (.int (own_ch p2)), .val (.int (own_ch p3)), .val (.int (own_ch p4)), .val (.int (own_ch p5)), .val (.int (own_ch p6)), .val (.ref x62), .val (.int (own_ch p6)), .val (.int (0 : Int32)), .unset, .unset] [(.ref x62)])) rfl (by rw [hml]; rfl) (argsL := [(.ref x62)]) (rest := []) (lenOf pd_spN5 rfl) rfl (by show 2 * 0 + _ ≤ _; exact Nat.le_of_eq rfl) (hb hby at_149) (fun _ _ => ⟨rfl, rfl, (by decide : 3 + 0 ≤ _), (by decide : 14 + 0 ≤ _)⟩)
      dsimp only [Pt.U, Pt.locs, Pt.cells, Pt.slots] at X85 l85 y85 z85 st85 hQ85
      subst l85 y85 z85
      obtain ⟨rfl, N85q, q85⟩ := hQ85
      have N85 := Fr.app N62 N85q
      have pre86 : ∀ t, Steps p.tables e below (T85.setTop (mkF m 169 #[.val (.int p1), .val (.int p2), .val (.int p3), .val (.int p4), .val (.int p5), .val (.int p6), .val (.int ((p1 &&& (2147483647 : Int32)) % (6 : Int32))), .val (.int (own_ch p2)), .val (.int (own_ch p3)), .val (.int (own_ch p4)), .val (.int (own_ch p5)), .val (.int (own_ch p6)), .val (.ref x62), .val (.int (own_ch p6)), .val (.int (0 : Int32)), .val .null, .unset] [(.int (1 : Int32))])) t → Steps p.tables e below (s₁.setTop (entryFrame m #[(.int p1), (.int p2), (.int p3), (.int p4), (.int p5), (.int p6)] maxLocals)) t := fun t k => pre64 t (by
        show Steps p.tables e below (T62.setTop (mkF m 101 #[.val (.int p1), .val (.int p2), .val (.int p3), .val (.int p4), .val (.int p5), .val (.int p6), .val (.int ((p1 &&& (2147483647 : Int32)) % (6 : Int32))), .val (.int (own_ch p2)), .val (.int (own_ch p3)), .val (.int (own_ch p4)), .val (.int (own_ch p5)), .val (.int (own_ch p6)), .val (.ref x62), .val (.int (own_ch p6)), .unset, .unset, .unset] [(.int (125 : Int32)), (.int (own_ch p6))])) _
        refine XS.icmpYes X62.here hx rfl (pc0 := 101) (pc' := 144) rfl (hb hby at_101) rfl (feq hc101).2 (by decide) (by decide) ?_
        refine XS.iconst X62.here hx rfl (hb hby at_144) ?_
        refine XS.istore X62.here hx rfl (hb hby at_145) rfl (l' := #[.val (.int p1), .val (.int p2), .val (.int p3), .val (.int p4), .val (.int p5), .val (.int p6), .val (.int ((p1 &&& (2147483647 : Int32)) % (6 : Int32))), .val (.int (own_ch p2)), .val (.int (own_ch p3)), .val (.int (own_ch p4)), .val (.int (own_ch p5)), .val (.int (own_ch p6)), .val (.ref x62), .val (.int (own_ch p6)), .val (.int (0 : Int32)), .unset, .unset]) rfl ?_
        refine XS.aload X62.here hx rfl (hb hby at_147) rfl rfl ?_
        refine st85 _ ?_
        refine XS.astore X85.here hx rfl (hb hby at_152) rfl rfl (l' := #[.val (.int p1), .val (.int p2), .val (.int p3), .val (.int p4), .val (.int p5), .val (.int p6), .val (.int ((p1 &&& (2147483647 : Int32)) % (6 : Int32))), .val (.int (own_ch p2)), .val (.int (own_ch p3)), .val (.int (own_ch p4)), .val (.int (own_ch p5)), .val (.int (own_ch p6)), .val (.ref x62), .val (.int (own_ch p6)), .val (.int (0 : Int32)), .val .null, .unset]) rfl ?_
        refine XS.iload X85.here hx rfl (hb hby at_154) rfl ?_
        refine XS.ifNo X85.here hx rfl (hb hby at_156) rfl ((if0 _ _).trans (teq (by decide : (0 : Int32) = (0 : Int32))).2) ?_
        refine XS.aload X85.here hx rfl (hb hby at_159) rfl rfl ?_
        refine XS.ifnonnullNo X85.here hx rfl (hb hby at_161) rfl ?_
        refine XS.iconst X85.here hx rfl (hb hby at_164) ?_
        refine XS.goto X85.here hx rfl (pc0 := 165) (pc' := 169) rfl (hb hby at_165) (by decide) (by decide) ?_
        exact k)
      obtain ⟨fs87, hr87, hrun87, hended87, hE87⟩ := X85.leaveW hS0 (by first | exact (Nat.le_trans (Nat.le_refl _) E62.1) | (rw [q85]; exact (Nat.le_trans (Nat.le_refl _) E62.1))) (v := some (.int (1 : Int32))) (fun h => by rw [Bd.returns] at h; cases h)
      refine ⟨_, _, pre86 _ ?_, hrun87, hended87, _, _, rfl, ?_, ?_, hE87.1, hE87.2.1, hE87.2.2.1, hE87.2.2.2.mono (by decide) (by decide)⟩
      · show Steps p.tables e below (T85.setTop (mkF m 169 #[.val (.int p1), .val (.int p2), .val (.int p3), .val (.int p4), .val (.int p5), .val (.int p6), .val (.int ((p1 &&& (2147483647 : Int32)) % (6 : Int32))), .val (.int (own_ch p2)), .val (.int (own_ch p3)), .val (.int (own_ch p4)), .val (.int (own_ch p5)), .val (.int (own_ch p6)), .val (.ref x62), .val (.int (own_ch p6)), .val (.int (0 : Int32)), .val .null, .unset] [(.int (1 : Int32))])) _
        exact retN X85 hx (t := .boolean) Bd.returns (by simp) (hb hby at_169) hr87
      · show Q0 Z p1 p2 p3 p4 p5 p6 h0 n0 _ T85.heap _
        rw [q85]
        exact ⟨rfl, N85⟩
      · show CHr Z own_EL s.vm s.heap T85.vm T85.heap
        rw [q85]
        rw [hh]
        exact CR62.trans (CHv.at X85 hZ0 hEL CH62)
    obtain ⟨_, _, ⟨T88, L88, k88, n88⟩, -, X88, ⟨Lc88, hQ88, l88, y88, z88⟩, st88⟩ := Jvm.LawKit.callS X62 hx (y := (⟨"com/example/oxpecker/oxpecker/MessageTemplate", "soleParameter", "(Ljava/lang/String;)Ljava/lang/String;"⟩ : MethodName)) ho0 (mvT hZ0 (wd30 hw)) (mvT hZ0 (wd31 hw)) (mvT hZ0 (wd32 hw)) (mvT hZ0 (wd33 hw)) (by decide) (backOf (W := 0) (rmspN5 l Z a0 hw [] x62 (own_ch p2) (own_ch p3) (own_ch p4) (own_ch p5) (own_ch p6) T62.heap n0 (Nat.le_trans Z0 E62.1) S62 EN_62 (own_p1 (own_chr p2) (own_p1 (own_chr p3) (own_p1 (own_chr p4) (own_p1 (own_chr p5) (own_p1 (own_chr p6) own_p0))))) (fun q => by
          obtain ⟨w0, w1, w2, w3, w4⟩ := q
          contradiction)) hZ0 (wd33 hw) (wd32 hw) (by decide) (by decide)) (g := (mkF m 149 #[.val (.int p1), .val (.int p2), .val (.int p3), .val (.int p4), .val (.int p5), .val (.int p6), .val (.int ((p1 &&& (2147483647 : Int32)) % (6 : Int32))), .val (.int (own_ch p2)), .val (.int (own_ch p3)), .val (.int (own_ch p4)), .val (.int (own_ch p5)), .val (.int (own_ch p6)), .val (.ref x62), .val (.int (own_ch p6)), .val (.int (0 : Int32)), .unset, .unset] [(.ref x62)])) rfl (by rw [hml]; rfl) (argsL := [(.ref x62)]) (rest := []) (lenOf pd_spN5 rfl) rfl (by show 2 * 0 + _ ≤ _; exact Nat.le_of_eq rfl) (hb hby at_149) (fun _ _ => ⟨rfl, rfl, (by decide : 3 + 0 ≤ _), (by decide : 14 + 0 ≤ _)⟩)
    dsimp only [Pt.U, Pt.locs, Pt.cells, Pt.slots] at X88 l88 y88 z88 st88 hQ88
    subst l88 y88 z88
    obtain ⟨rfl, N88q, q88⟩ := hQ88
    have N88 := Fr.app N62 N88q
    have pre89 : ∀ t, Steps p.tables e below (T88.setTop (mkF m 169 #[.val (.int p1), .val (.int p2), .val (.int p3), .val (.int p4), .val (.int p5), .val (.int p6), .val (.int ((p1 &&& (2147483647 : Int32)) % (6 : Int32))), .val (.int (own_ch p2)), .val (.int (own_ch p3)), .val (.int (own_ch p4)), .val (.int (own_ch p5)), .val (.int (own_ch p6)), .val (.ref x62), .val (.int (own_ch p6)), .val (.int (0 : Int32)), .val .null, .unset] [(.int (1 : Int32))])) t → Steps p.tables e below (s₁.setTop (entryFrame m #[(.int p1), (.int p2), (.int p3), (.int p4), (.int p5), (.int p6)] maxLocals)) t := fun t k => pre63 t (by
      show Steps p.tables e below (T62.setTop (mkF m 94 #[.val (.int p1), .val (.int p2), .val (.int p3), .val (.int p4), .val (.int p5), .val (.int p6), .val (.int ((p1 &&& (2147483647 : Int32)) % (6 : Int32))), .val (.int (own_ch p2)), .val (.int (own_ch p3)), .val (.int (own_ch p4)), .val (.int (own_ch p5)), .val (.int (own_ch p6)), .val (.ref x62), .val (.int (own_ch p6)), .unset, .unset, .unset] [(.int (123 : Int32)), (.int (own_ch p2))])) _
      refine XS.icmpYes X62.here hx rfl (pc0 := 94) (pc' := 144) rfl (hb hby at_94) rfl (feq hc94).2 (by decide) (by decide) ?_
      refine XS.iconst X62.here hx rfl (hb hby at_144) ?_
      refine XS.istore X62.here hx rfl (hb hby at_145) rfl (l' := #[.val (.int p1), .val (.int p2), .val (.int p3), .val (.int p4), .val (.int p5), .val (.int p6), .val (.int ((p1 &&& (2147483647 : Int32)) % (6 : Int32))), .val (.int (own_ch p2)), .val (.int (own_ch p3)), .val (.int (own_ch p4)), .val (.int (own_ch p5)), .val (.int (own_ch p6)), .val (.ref x62), .val (.int (own_ch p6)), .val (.int (0 : Int32)), .unset, .unset]) rfl ?_
      refine XS.aload X62.here hx rfl (hb hby at_147) rfl rfl ?_
      refine st88 _ ?_
      refine XS.astore X88.here hx rfl (hb hby at_152) rfl rfl (l' := #[.val (.int p1), .val (.int p2), .val (.int p3), .val (.int p4), .val (.int p5), .val (.int p6), .val (.int ((p1 &&& (2147483647 : Int32)) % (6 : Int32))), .val (.int (own_ch p2)), .val (.int (own_ch p3)), .val (.int (own_ch p4)), .val (.int (own_ch p5)), .val (.int (own_ch p6)), .val (.ref x62), .val (.int (own_ch p6)), .val (.int (0 : Int32)), .val .null, .unset]) rfl ?_
      refine XS.iload X88.here hx rfl (hb hby at_154) rfl ?_
      refine XS.ifNo X88.here hx rfl (hb hby at_156) rfl ((if0 _ _).trans (teq (by decide : (0 : Int32) = (0 : Int32))).2) ?_
      refine XS.aload X88.here hx rfl (hb hby at_159) rfl rfl ?_
      refine XS.ifnonnullNo X88.here hx rfl (hb hby at_161) rfl ?_
      refine XS.iconst X88.here hx rfl (hb hby at_164) ?_
      refine XS.goto X88.here hx rfl (pc0 := 165) (pc' := 169) rfl (hb hby at_165) (by decide) (by decide) ?_
      exact k)
    obtain ⟨fs90, hr90, hrun90, hended90, hE90⟩ := X88.leaveW hS0 (by first | exact (Nat.le_trans (Nat.le_refl _) E62.1) | (rw [q88]; exact (Nat.le_trans (Nat.le_refl _) E62.1))) (v := some (.int (1 : Int32))) (fun h => by rw [Bd.returns] at h; cases h)
    refine ⟨_, _, pre89 _ ?_, hrun90, hended90, _, _, rfl, ?_, ?_, hE90.1, hE90.2.1, hE90.2.2.1, hE90.2.2.2.mono (by decide) (by decide)⟩
    · show Steps p.tables e below (T88.setTop (mkF m 169 #[.val (.int p1), .val (.int p2), .val (.int p3), .val (.int p4), .val (.int p5), .val (.int p6), .val (.int ((p1 &&& (2147483647 : Int32)) % (6 : Int32))), .val (.int (own_ch p2)), .val (.int (own_ch p3)), .val (.int (own_ch p4)), .val (.int (own_ch p5)), .val (.int (own_ch p6)), .val (.ref x62), .val (.int (own_ch p6)), .val (.int (0 : Int32)), .val .null, .unset] [(.int (1 : Int32))])) _
      exact retN X88 hx (t := .boolean) Bd.returns (by simp) (hb hby at_169) hr90
    · show Q0 Z p1 p2 p3 p4 p5 p6 h0 n0 _ T88.heap _
      rw [q88]
      exact ⟨rfl, N88⟩
    · show CHr Z own_EL s.vm s.heap T88.vm T88.heap
      rw [q88]
      rw [hh]
      exact CR62.trans (CHv.at X88 hZ0 hEL CH62)

set_option maxRecDepth 65536 in
set_option maxHeartbeats 40000000 in
theorem comes_1 {Post : Tables → Env → Array Value → State → Outcome → State → Prop} (hpost : ∀ tb e args s v u, (limb_1_1.after args s (.returned v) u = true ∧ limb_1_2.after args s (.returned v) u = true ∧ True) → FramedW s (.returned v) u (Jvm.fieldLocs frame_1_writes args s ++ Jvm.arrayLocs frame_1_arrays args s ++ Jvm.staticLocs frame_1_statics s) 32 1152 → Post tb e args s (.returned v) u) :
    ArmFor flags0 classFile x code maxLocals ret World_1 tables_1 room_1 Calls_1 rest_1 Pre_1 Post := by
  intro l hfl _ _ p e ha hc hk s m args below hf hA hF happ hP
  obtain ⟨hcalls, hrest, hpre⟩ := hP
  obtain ⟨-, -, -, hnamed, -, -, -, hat⟩ := (Spec.applies_iff hf).mp happ
  obtain ⟨hg, hn⟩ := and_e (Cond.before_iff.mp (show (Jvm.Cond.and given_1 narrow_1).before args s = true from hpre))
  obtain ⟨gg0, gr0⟩ := and_e hg
  obtain ⟨gg1, gr1⟩ := and_e gr0
  obtain ⟨gg2, gr2⟩ := and_e gr1
  obtain ⟨gg3, gr3⟩ := and_e gr2
  obtain ⟨gg4, gr4⟩ := and_e gr3
  obtain ⟨gg5, gr5⟩ := and_e gr4
  obtain ⟨w0, w1, w2, w3, w4, w5, rfl⟩ : ∃ w0 w1 w2 w3 w4 w5 : Value, args = #[w0, w1, w2, w3, w4, w5] := by
    have hs : args.size = 6 := by simpa [Cond.value, given_1] using gg0
    obtain ⟨L⟩ := args
    match L, hs with
    | [w0, w1, w2, w3, w4, w5], _ => exact ⟨w0, w1, w2, w3, w4, w5, rfl⟩
  have hw := fun d (hd : d ∈ tables_1) => atoms_spec (ws := Jvm.Cond.code x code maxLocals ret :: tables_1) hat d (List.mem_cons_of_mem _ hd)
  have hfit : Fit s := fun {y c} hc i hi => by
    obtain ⟨ha, rfl⟩ := Array.getElem?_eq_some_iff.mp hc
    have q := List.all_eq_true.mp ((Array.all_eq_true_iff_forall_mem.mp hF) _ (Array.getElem_mem ha)) i (List.mem_range.mpr hi)
    simpa [Array.getElem?_eq_getElem hi] using q
  obtain ⟨hsets, hown0⟩ := atoms_of _ (rest_1_c_eq ▸ (show rest_1_c.before _ s = true from hrest))
  have hr0 := Cond.before_iff.mp hown0
  obtain ⟨i0, ei0⟩ := is_v gg1
  obtain rfl : w0 = (.int i0) := Option.some.inj ei0
  obtain ⟨i1, ei1⟩ := is_v gg2
  obtain rfl : w1 = (.int i1) := Option.some.inj ei1
  obtain ⟨i2, ei2⟩ := is_v gg3
  obtain rfl : w2 = (.int i2) := Option.some.inj ei2
  obtain ⟨i3, ei3⟩ := is_v gg4
  obtain rfl : w3 = (.int i3) := Option.some.inj ei3
  obtain ⟨i4, ei4⟩ := is_v gg5
  obtain rfl : w4 = (.int i4) := Option.some.inj ei4
  obtain ⟨i5, ei5⟩ := is_v gr5
  obtain rfl : w5 = (.int i5) := Option.some.inj ei5
  obtain ⟨z, evz⟩ := is_v (Cond.before_iff.mp (hsets _ (List.mem_of_getElem? (i := 1) rfl)))
  have Sz := Sta.start evz (Or.inl (hsets _ (List.mem_of_getElem? (i := 0) rfl)))
  have hz : ¬ z = 0 := gotF (Cond.eq_ints evz (Term.int_eval 0)) (not_v (Cond.before_iff.mp (hsets _ (List.mem_of_getElem? (i := 2) rfl))))
  obtain ⟨fm, evf, hfm⟩ := isR_v (Cond.before_iff.mp (hsets _ (List.mem_of_getElem? (i := 8) rfl)))
  have Sf := Sta.start evf (Or.inl (hsets _ (List.mem_of_getElem? (i := 7) rfl)))
  have EN : own_env s s.heap := ⟨z, fm, Sz, hz, Sf, hfm⟩
  have hCH : CHv s own_EL s.vm s.heap := CHv.start (own_EW hw) (fun p hp => by
    cases List.mem_singleton.mp hp
    exact hcalls.1 _ (List.mem_of_getElem? (i := 0) rfl)) (hsets _ (List.mem_of_getElem? (i := 2) rfl)) (hw _ (List.mem_of_getElem? (i := 23) rfl)) (hw _ (List.mem_of_getElem? (i := 9) rfl))
  obtain ⟨n, o, h1, h2, h3, _, L, rfl, ⟨rfl, N⟩, hcr, hq⟩ := rm0 l s _ hw tables_1 i0 i1 i2 i3 i4 i5 s.heap s.heap.size (Nat.le_refl _) EN p e ha hc hk s m _ below hf ((Spec.applies_iff_loose hf).mp happ).1 ⟨rfl, State.Warmed39.refl s, rfl, hCH⟩ trivial
  refine ⟨n, _, h1, h2, h3, hpost _ _ _ _ _ _ ⟨Cond.after_iff.mpr rfl, Cond.after_iff.mpr (eq_i res_at (Term.int_eval (1)) rfl), trivial⟩ ⟨hq.1, hq.2.1, hq.2.2.1, (hq.2.2.2.sift fun y hy => Or.inr (N y hy)).mono (by decide) (by decide)⟩⟩
theorem main_1_1 : Claimed_1_1 := comes_1 fun _ _ _ _ _ _ h hF => ⟨h.1, hF⟩
theorem main_1_2 : Claimed_1_2 := comes_1 fun _ _ _ _ _ _ h hF => ⟨h.2.1, hF⟩
end Jvm.Pilot.@@N@@
namespace Jvm.Pilot.@@N@@
open Jvm Jvm.ClassFile Sem Op Lib Jvm.Free Jvm.Stand Jvm.Pilot.@@N@@.Jvm.D
/-! MADE BY PROGRAM (witnessworld.py) out of the Statement's table words and the real class files: 23 classes; the members and pool entries that the words name. The judged class is class 1, her method 4. -/
namespace start1
open Jvm.ClassFile
def u (s : String) : CpInfo := .utf8 (stringToUtf16 s)
/-- a pool by its gaps: so many unusable entries, then the entry; so many at the end -/
def gap : Nat → List CpInfo → List CpInfo
  | 0, r => r
  | n + 1, r => .unusable :: gap n r
def poolList (es : List (Nat × CpInfo)) (last : Nat) : List CpInfo := es.foldr (fun e r => gap e.1 (e.2 :: r)) (gap last [])
def pool (es : List (Nat × CpInfo)) (last : Nat) : Array CpInfo := ⟨poolList es last⟩
def fileOf (pool : Array CpInfo) (this : Nat) (attrs : Array Attribute := #[]) (ms : Array MethodInfo := #[]) (fl : Nat := 33) (sup : Nat := 0) (ifs : Array Nat := #[]) (fds : Array FieldInfo := #[]) : ClassFile where
  minorVersion := 0
  majorVersion := 65
  constantPool := pool
  accessFlags := fl
  thisClass := this
  superClass := sup
  interfaces := ifs
  fields := fds
  methods := ms
  attributes := attrs
def plain (name : String) (sup : Option ClassId) : Class where
  name := name
  kind := .ordinary
  loader := none
  accessFlags := 33
  super := sup
  interfaces := #[]
  cf := none
  fields := #[]
  methods := #[]
  instanceTypes := #[]
  staticTypes := #[]
  resolved := #[]
  callSites := []
  init := .initialized
  statics := none
  mirror := none

def pool0 : Array CpInfo := pool [(5, u "<init>"), (0, u "()V"), (1, .class_ 10), (1, u "java/lang/Object")] 113

def k0c0 : Code := { maxStack := 0, maxLocals := 1, code := object_method_1_code, exceptionTable := #[], attributes := #[] }
def k0m0 : Method := { name := "<init>", desc := "()V", sig := { parameters := [], returnType := none }, accessFlags := 1, code := some k0c0 }
/-- java/lang/Object -/
def k0 : Class := { plain "java/lang/Object" none with
  accessFlags := 33
  interfaces := #[]
  cf := some (fileOf pool0 8 #[] #[{ accessFlags := 1, nameIndex := 5, descriptorIndex := 6, attributes := #[] }] 33 0 #[] #[])
  fields := #[]
  methods := #[k0m0]
  instanceTypes := #[]
  staticTypes := #[]
  resolved := Array.replicate 124 none
  statics := none }

def pool1 : Array CpInfo := pool [(2, .class_ 4), (1, u "java/lang/Object"), (0, u "<init>"), (0, u "()V"), (0, .class_ 8), (0, u "java/lang/String"), (0, .methodref 7 10), (0, .nameAndType 5 11), (0, u "([C)V"), (0, .integer 2147483647), (0, .methodref 14 15), (0, .class_ 16), (0, .nameAndType 17 18), (0, u "com/example/oxpecker/oxpecker/MessageTemplateSoleParameterPinLaw"), (0, u "ch"), (0, u "(I)C"), (0, .methodref 14 20), (0, .nameAndType 21 22), (0, u "make"), (0, u "(ICCCCC)Ljava/lang/String;"), (0, .methodref 14 24), (0, .nameAndType 25 26), (0, u "inName"), (0, u "(C)Z"), (0, .methodref 28 29), (0, .class_ 30), (0, .nameAndType 31 32), (0, u "com/example/oxpecker/oxpecker/MessageTemplate"), (0, u "soleParameter"), (0, u "(Ljava/lang/String;)Ljava/lang/String;"), (0, .methodref 7 34), (0, .nameAndType 35 36), (0, u "equals"), (0, u "(Ljava/lang/Object;)Z"), (3, u "law"), (0, u "(IIIIII)Z")] 2

def k1m0 : Method := { name := "<init>", desc := "()V", sig := { parameters := [], returnType := none }, accessFlags := 1, code := none }
def k1c1 : Code := { maxStack := 2, maxLocals := 2, code := method_2_code, exceptionTable := #[], attributes := #[] }
def k1m1 : Method := { name := "ch", desc := "(I)C", sig := { parameters := [.int], returnType := some .char }, accessFlags := 10, code := some k1c1 }
def k1c2 : Code := { maxStack := 2, maxLocals := 1, code := method_3_code, exceptionTable := #[], attributes := #[] }
def k1m2 : Method := { name := "inName", desc := "(C)Z", sig := { parameters := [.char], returnType := some .boolean }, accessFlags := 10, code := some k1c2 }
def k1c3 : Code := { maxStack := 6, maxLocals := 6, code := method_4_code, exceptionTable := #[], attributes := #[] }
def k1m3 : Method := { name := "make", desc := "(ICCCCC)Ljava/lang/String;", sig := { parameters := [.int, .char, .char, .char, .char, .char], returnType := some (.object "java/lang/String") }, accessFlags := 10, code := some k1c3 }
def k1c4 : Code := { maxStack := 6, maxLocals := 17, code := code, exceptionTable := #[], attributes := #[] }
def k1m4 : Method := { name := "law", desc := "(IIIIII)Z", sig := { parameters := [.int, .int, .int, .int, .int, .int], returnType := some .boolean }, accessFlags := 9, code := some k1c4 }
/-- com/example/oxpecker/oxpecker/MessageTemplateSoleParameterPinLaw -/
def k1 : Class := { plain "com/example/oxpecker/oxpecker/MessageTemplateSoleParameterPinLaw" (some 0) with
  accessFlags := 49
  interfaces := #[]
  cf := some (fileOf pool1 14 #[] #[{ accessFlags := 1, nameIndex := 5, descriptorIndex := 6, attributes := #[] }, { accessFlags := 10, nameIndex := 17, descriptorIndex := 18, attributes := #[] }, { accessFlags := 10, nameIndex := 25, descriptorIndex := 26, attributes := #[] }, { accessFlags := 10, nameIndex := 21, descriptorIndex := 22, attributes := #[] }, { accessFlags := 9, nameIndex := 40, descriptorIndex := 41, attributes := #[] }] 49 2 #[] #[])
  fields := #[]
  methods := #[k1m0, k1m1, k1m2, k1m3, k1m4]
  instanceTypes := #[]
  staticTypes := #[]
  resolved := Array.replicate 44 none
  statics := none }

def pool2 : Array CpInfo := pool [(1, .class_ 2), (0, u "java/io/Serializable"), (0, .class_ 4), (0, u "java/lang/Object")] 2

/-- java/io/Serializable -/
def k2 : Class := { plain "java/io/Serializable" (some 0) with
  accessFlags := 1537
  interfaces := #[]
  cf := some (fileOf pool2 1 #[] #[] 1537 3 #[] #[])
  fields := #[]
  methods := #[]
  instanceTypes := #[]
  staticTypes := #[]
  resolved := Array.replicate 7 none
  statics := none }

def pool3 : Array CpInfo := pool [(1, .class_ 2), (0, u "java/lang/Comparable"), (0, .class_ 4), (0, u "java/lang/Object")] 7

/-- java/lang/Comparable -/
def k3 : Class := { plain "java/lang/Comparable" (some 0) with
  accessFlags := 1537
  interfaces := #[]
  cf := some (fileOf pool3 1 #[] #[] 1537 3 #[] #[])
  fields := #[]
  methods := #[]
  instanceTypes := #[]
  staticTypes := #[]
  resolved := Array.replicate 12 none
  statics := none }

def pool4 : Array CpInfo := pool [(2, .class_ 4), (1, u "java/lang/CharSequence"), (42, .class_ 48), (0, u "java/lang/CharSequence$1CodePointIterator"), (10, .class_ 60), (0, u "java/lang/CharSequence$1CharIterator"), (5, .class_ 67), (0, u "java/lang/Object")] 63

/-- java/lang/CharSequence -/
def k4 : Class := { plain "java/lang/CharSequence" (some 0) with
  accessFlags := 1537
  interfaces := #[]
  cf := some (fileOf pool4 2 #[.nestMembers #[47, 59]] #[] 1537 66 #[] #[])
  fields := #[]
  methods := #[]
  instanceTypes := #[]
  staticTypes := #[]
  resolved := Array.replicate 131 none
  statics := none }

def pool5 : Array CpInfo := pool [(1, .class_ 2), (0, u "java/lang/constant/Constable"), (0, .class_ 4), (0, u "java/lang/Object")] 6

/-- java/lang/constant/Constable -/
def k5 : Class := { plain "java/lang/constant/Constable" (some 0) with
  accessFlags := 1537
  interfaces := #[]
  cf := some (fileOf pool5 1 #[] #[] 1537 3 #[] #[])
  fields := #[]
  methods := #[]
  instanceTypes := #[]
  staticTypes := #[]
  resolved := Array.replicate 11 none
  statics := none }

def pool6 : Array CpInfo := pool [(1, .class_ 2), (0, u "java/lang/constant/ConstantDesc"), (0, .class_ 4), (0, u "java/lang/Object")] 32

/-- java/lang/constant/ConstantDesc -/
def k6 : Class := { plain "java/lang/constant/ConstantDesc" (some 0) with
  accessFlags := 1537
  interfaces := #[]
  cf := some (fileOf pool6 1 #[] #[] 1537 3 #[] #[])
  fields := #[]
  methods := #[]
  instanceTypes := #[]
  staticTypes := #[]
  resolved := Array.replicate 37 none
  statics := none }

def pool7 : Array CpInfo := pool [(1, .methodref 2 3), (0, .class_ 4), (0, .nameAndType 5 6), (0, u "java/lang/Object"), (0, u "<init>"), (0, u "()V"), (0, .string 8), (0, u ""), (0, .fieldref 10 11), (0, .class_ 12), (0, .nameAndType 13 14), (0, u "java/lang/String"), (0, u "value"), (0, u "[B"), (0, .fieldref 10 16), (0, .nameAndType 17 18), (0, u "coder"), (0, u "B"), (2, u "hash"), (0, u "I"), (2, u "hashIsZero"), (0, u "Z"), (0, .methodref 10 28), (0, .nameAndType 5 29), (0, u "([CIILjava/lang/Void;)V"), (8, .fieldref 10 39), (0, .nameAndType 40 26), (0, u "COMPACT_STRINGS"), (1, .class_ 44), (1, u "java/lang/StringUTF16"), (0, u "compress"), (1, .methodref 42 48), (0, .nameAndType 49 50), (0, u "coderFromArrayLen"), (0, u "([BI)B"), (56, .class_ 109), (1, u "java/lang/StringLatin1"), (32, u "()Z"), (34, .methodref 42 178), (0, .nameAndType 45 179), (0, u "([CII)[B"), (31, u "([BB)V"), (122, u "()I"), (0, .methodref 10 336), (0, .nameAndType 17 337), (0, u "()B"), (25, u "([BI)C"), (27, u "(II)V"), (35, u "(I)C"), (64, .methodref 10 493), (0, .nameAndType 494 142), (0, u "isLatin1"), (0, .methodref 107 496), (0, .nameAndType 497 363), (0, u "charAt"), (3, u "checkIndex"), (3, .methodref 10 506), (0, .nameAndType 507 334), (0, u "length"), (5, u "checkFromToIndex"), (7, .methodref 10 522), (0, .nameAndType 523 524), (0, u "checkBoundsBeginEnd"), (0, u "(III)V"), (16, .methodref 107 542), (0, .nameAndType 543 544), (0, u "equals"), (0, u "([B[B)Z"), (28, u "(Ljava/lang/Object;)Z"), (1, .class_ 576), (0, u "java/lang/CharSequence"), (22, u "CASE_INSENSITIVE_ORDER"), (0, u "Ljava/util/Comparator;"), (82, u "substring"), (0, u "(II)Ljava/lang/String;"), (0, .methodref 107 686), (0, .nameAndType 687 688), (0, u "newString"), (0, u "([BII)Ljava/lang/String;"), (3, u "isEmpty"), (317, u "([C)V"), (42, .fieldref 1054 1055), (0, .class_ 1056), (0, .nameAndType 1057 1058), (0, u "jdk/internal/util/Preconditions"), (0, u "SIOOBE_FORMATTER"), (0, u "Ljava/util/function/BiFunction;"), (0, .methodref 1054 1060), (0, .nameAndType 501 1061), (0, u "(IILjava/util/function/BiFunction;)I"), (0, .methodref 1054 1063), (0, .nameAndType 513 1064), (0, u "(IIILjava/util/function/BiFunction;)I"), (36, u "serialPersistentFields"), (0, u "[Ljava/io/ObjectStreamField;"), (0, .class_ 1104), (0, u "java/lang/String$CaseInsensitiveComparator"), (1, .class_ 1107), (0, u "java/io/Serializable"), (0, .class_ 1109), (0, u "java/lang/Comparable"), (0, .class_ 1111), (0, u "java/lang/constant/Constable"), (0, .class_ 1113), (0, u "java/lang/constant/ConstantDesc"), (2, u "serialVersionUID"), (0, u "J"), (3, u "REPL"), (0, u "C"), (2, u "LATIN1"), (1, u "UTF16")] 323

def k7m0 : Method := { name := "<init>", desc := "()V", sig := { parameters := [], returnType := none }, accessFlags := 1, code := none }
def k7c1 : Code := { maxStack := 5, maxLocals := 2, code := jdk_42_method_3_code, exceptionTable := #[], attributes := #[] }
def k7m1 : Method := { name := "<init>", desc := "([C)V", sig := { parameters := [(.array .char)], returnType := none }, accessFlags := 1, code := some k7c1 }
def k7c2 : Code := { maxStack := 2, maxLocals := 1, code := jdk_42_method_54_code, exceptionTable := #[], attributes := #[] }
def k7m2 : Method := { name := "length", desc := "()I", sig := { parameters := [], returnType := some .int }, accessFlags := 1, code := some k7c2 }
def k7c3 : Code := { maxStack := 1, maxLocals := 1, code := jdk_42_method_55_code, exceptionTable := #[], attributes := #[] }
def k7m3 : Method := { name := "isEmpty", desc := "()Z", sig := { parameters := [], returnType := some .boolean }, accessFlags := 1, code := some k7c3 }
def k7c4 : Code := { maxStack := 2, maxLocals := 2, code := jdk_42_method_56_code, exceptionTable := #[], attributes := #[] }
def k7m4 : Method := { name := "charAt", desc := "(I)C", sig := { parameters := [.int], returnType := some .char }, accessFlags := 1, code := some k7c4 }
def k7c5 : Code := { maxStack := 2, maxLocals := 3, code := jdk_42_method_66_code, exceptionTable := #[], attributes := #[] }
def k7m5 : Method := { name := "equals", desc := "(Ljava/lang/Object;)Z", sig := { parameters := [(.object "java/lang/Object")], returnType := some .boolean }, accessFlags := 1, code := some k7c5 }
def k7c6 : Code := { maxStack := 3, maxLocals := 5, code := jdk_42_method_92_code, exceptionTable := #[], attributes := #[] }
def k7m6 : Method := { name := "substring", desc := "(II)Ljava/lang/String;", sig := { parameters := [.int, .int], returnType := some (.object "java/lang/String") }, accessFlags := 1, code := some k7c6 }
def k7c7 : Code := { maxStack := 4, maxLocals := 6, code := jdk_42_method_149_code, exceptionTable := #[], attributes := #[] }
def k7m7 : Method := { name := "<init>", desc := "([CIILjava/lang/Void;)V", sig := { parameters := [(.array .char), .int, .int, (.object "java/lang/Void")], returnType := none }, accessFlags := 2, code := some k7c7 }
def k7c8 : Code := { maxStack := 2, maxLocals := 3, code := jdk_42_method_151_code, exceptionTable := #[], attributes := #[] }
def k7m8 : Method := { name := "<init>", desc := "([BB)V", sig := { parameters := [(.array .byte), .byte], returnType := none }, accessFlags := 0, code := some k7c8 }
def k7c9 : Code := { maxStack := 1, maxLocals := 1, code := jdk_42_method_152_code, exceptionTable := #[], attributes := #[] }
def k7m9 : Method := { name := "coder", desc := "()B", sig := { parameters := [], returnType := some .byte }, accessFlags := 0, code := some k7c9 }
def k7c10 : Code := { maxStack := 1, maxLocals := 1, code := jdk_42_method_154_code, exceptionTable := #[], attributes := #[] }
def k7m10 : Method := { name := "isLatin1", desc := "()Z", sig := { parameters := [], returnType := some .boolean }, accessFlags := 0, code := some k7c10 }
def k7c11 : Code := { maxStack := 3, maxLocals := 2, code := jdk_42_method_155_code, exceptionTable := #[], attributes := #[] }
def k7m11 : Method := { name := "checkIndex", desc := "(II)V", sig := { parameters := [.int, .int], returnType := none }, accessFlags := 8, code := some k7c11 }
def k7c12 : Code := { maxStack := 4, maxLocals := 3, code := jdk_42_method_158_code, exceptionTable := #[], attributes := #[] }
def k7m12 : Method := { name := "checkBoundsBeginEnd", desc := "(III)V", sig := { parameters := [.int, .int, .int], returnType := none }, accessFlags := 8, code := some k7c12 }
/-- java/lang/String -/
def k7 : Class := { plain "java/lang/String" (some 0) with
  accessFlags := 49
  interfaces := #[2, 3, 4, 5, 6]
  cf := some (fileOf pool7 10 #[.nestMembers #[1103]] #[{ accessFlags := 1, nameIndex := 5, descriptorIndex := 6, attributes := #[] }, { accessFlags := 1, nameIndex := 5, descriptorIndex := 1010, attributes := #[] }, { accessFlags := 1, nameIndex := 507, descriptorIndex := 334, attributes := #[] }, { accessFlags := 1, nameIndex := 692, descriptorIndex := 142, attributes := #[] }, { accessFlags := 1, nameIndex := 497, descriptorIndex := 427, attributes := #[] }, { accessFlags := 1, nameIndex := 543, descriptorIndex := 573, attributes := #[] }, { accessFlags := 1, nameIndex := 683, descriptorIndex := 684, attributes := #[] }, { accessFlags := 2, nameIndex := 5, descriptorIndex := 29, attributes := #[] }, { accessFlags := 0, nameIndex := 5, descriptorIndex := 211, attributes := #[] }, { accessFlags := 0, nameIndex := 17, descriptorIndex := 337, attributes := #[] }, { accessFlags := 0, nameIndex := 494, descriptorIndex := 142, attributes := #[] }, { accessFlags := 8, nameIndex := 501, descriptorIndex := 391, attributes := #[] }, { accessFlags := 8, nameIndex := 523, descriptorIndex := 524, attributes := #[] }] 49 2 #[1106, 1108, 575, 1110, 1112] #[{ accessFlags := 18, nameIndex := 13, descriptorIndex := 14, attributes := #[] }, { accessFlags := 18, nameIndex := 17, descriptorIndex := 18, attributes := #[] }, { accessFlags := 2, nameIndex := 21, descriptorIndex := 22, attributes := #[] }, { accessFlags := 2, nameIndex := 25, descriptorIndex := 26, attributes := #[] }, { accessFlags := 26, nameIndex := 1116, descriptorIndex := 1117, attributes := #[] }, { accessFlags := 24, nameIndex := 40, descriptorIndex := 26, attributes := #[] }, { accessFlags := 26, nameIndex := 1101, descriptorIndex := 1102, attributes := #[] }, { accessFlags := 26, nameIndex := 1121, descriptorIndex := 1122, attributes := #[] }, { accessFlags := 25, nameIndex := 599, descriptorIndex := 600, attributes := #[] }, { accessFlags := 24, nameIndex := 1125, descriptorIndex := 18, attributes := #[] }, { accessFlags := 24, nameIndex := 1127, descriptorIndex := 18, attributes := #[] }])
  fields := #[{ name := "value", type := (.array .byte), accessFlags := 18, slot := 0, constantValue := 0 }, { name := "coder", type := .byte, accessFlags := 18, slot := 1, constantValue := 0 }, { name := "hash", type := .int, accessFlags := 2, slot := 2, constantValue := 0 }, { name := "hashIsZero", type := .boolean, accessFlags := 2, slot := 3, constantValue := 0 }, { name := "serialVersionUID", type := .long, accessFlags := 26, slot := 0, constantValue := 0 }, { name := "COMPACT_STRINGS", type := .boolean, accessFlags := 24, slot := 1, constantValue := 0 }, { name := "serialPersistentFields", type := (.array (.object "java/io/ObjectStreamField")), accessFlags := 26, slot := 2, constantValue := 0 }, { name := "REPL", type := .char, accessFlags := 26, slot := 3, constantValue := 0 }, { name := "CASE_INSENSITIVE_ORDER", type := (.object "java/util/Comparator"), accessFlags := 25, slot := 4, constantValue := 0 }, { name := "LATIN1", type := .byte, accessFlags := 24, slot := 5, constantValue := 0 }, { name := "UTF16", type := .byte, accessFlags := 24, slot := 6, constantValue := 0 }]
  methods := #[k7m0, k7m1, k7m2, k7m3, k7m4, k7m5, k7m6, k7m7, k7m8, k7m9, k7m10, k7m11, k7m12]
  instanceTypes := #[(.array .byte), .byte, .int, .boolean]
  staticTypes := #[.long, .boolean, (.array (.object "java/io/ObjectStreamField")), .char, (.object "java/util/Comparator"), .byte, .byte]
  resolved := Array.replicate 1451 none
  statics := some 0 }

def pool8 : Array CpInfo := pool [(2, .class_ 4), (1, u "java/lang/Object"), (0, u "<init>"), (0, u "()V"), (1, .class_ 10), (1, u "java/lang/String"), (3, .class_ 16), (1, u "com/example/oxpecker/oxpecker/MessageTemplate"), (2, .methodref 8 20), (0, .nameAndType 21 22), (0, u "length"), (0, u "()I"), (0, .methodref 14 24), (0, .nameAndType 25 26), (0, u "parameterEnd"), (0, u "(Ljava/lang/String;I)I"), (4, .methodref 8 32), (0, .nameAndType 33 34), (0, u "substring"), (0, u "(II)Ljava/lang/String;"), (22, .methodref 8 58), (0, .nameAndType 59 60), (0, u "isEmpty"), (0, u "()Z"), (0, .methodref 8 62), (0, .nameAndType 63 64), (0, u "charAt"), (0, u "(I)C"), (19, u "(Ljava/lang/String;)Ljava/lang/String;"), (6, .methodref 14 92), (0, .nameAndType 93 94), (0, u "isInName"), (0, u "(C)Z"), (5, u "ESCAPED"), (0, u "Ljava/lang/String;"), (7, u "soleParameter")] 6

def k8m0 : Method := { name := "<init>", desc := "()V", sig := { parameters := [], returnType := none }, accessFlags := 2, code := none }
def k8c1 : Code := { maxStack := 4, maxLocals := 2, code := prog_5_method_4_code, exceptionTable := #[], attributes := #[] }
def k8m1 : Method := { name := "soleParameter", desc := "(Ljava/lang/String;)Ljava/lang/String;", sig := { parameters := [(.object "java/lang/String")], returnType := some (.object "java/lang/String") }, accessFlags := 8, code := some k8c1 }
def k8c2 : Code := { maxStack := 3, maxLocals := 4, code := prog_5_method_9_code, exceptionTable := #[], attributes := #[] }
def k8m2 : Method := { name := "parameterEnd", desc := "(Ljava/lang/String;I)I", sig := { parameters := [(.object "java/lang/String"), .int], returnType := some .int }, accessFlags := 10, code := some k8c2 }
def k8c3 : Code := { maxStack := 2, maxLocals := 1, code := prog_5_method_10_code, exceptionTable := #[], attributes := #[] }
def k8m3 : Method := { name := "isInName", desc := "(C)Z", sig := { parameters := [.char], returnType := some .boolean }, accessFlags := 10, code := some k8c3 }
/-- com/example/oxpecker/oxpecker/MessageTemplate -/
def k8 : Class := { plain "com/example/oxpecker/oxpecker/MessageTemplate" (some 0) with
  accessFlags := 48
  interfaces := #[]
  cf := some (fileOf pool8 14 #[] #[{ accessFlags := 2, nameIndex := 5, descriptorIndex := 6, attributes := #[] }, { accessFlags := 8, nameIndex := 109, descriptorIndex := 84, attributes := #[] }, { accessFlags := 10, nameIndex := 25, descriptorIndex := 26, attributes := #[] }, { accessFlags := 10, nameIndex := 93, descriptorIndex := 94, attributes := #[] }] 48 2 #[] #[{ accessFlags := 26, nameIndex := 100, descriptorIndex := 101, attributes := #[] }])
  fields := #[{ name := "ESCAPED", type := (.object "java/lang/String"), accessFlags := 26, slot := 0, constantValue := 0 }]
  methods := #[k8m0, k8m1, k8m2, k8m3]
  instanceTypes := #[]
  staticTypes := #[(.object "java/lang/String")]
  resolved := Array.replicate 116 none
  statics := none }

def pool9 : Array CpInfo := pool [(6, .class_ 8), (1, u "java/lang/Object"), (0, u "<init>"), (0, u "()V"), (1, .class_ 14), (1, u "java/lang/StringUTF16"), (31, u "$assertionsDisabled"), (0, u "Z"), (13, u "HI_BYTE_SHIFT"), (0, u "I"), (2, u "LO_BYTE_SHIFT"), (49, .methodref 12 116), (0, .nameAndType 117 118), (0, u "compress"), (0, u "([CI[BII)I"), (3, u "([CII)[B"), (138, u "coderFromArrayLen"), (0, u "([BI)B"), (106, .class_ 371), (1, u "java/lang/StringUTF16$LinesSpliterator"), (58, u "MAX_LENGTH"), (196, .class_ 628), (0, u "java/lang/StringUTF16$CodePointsSpliterator"), (0, .class_ 630), (0, u "java/lang/StringUTF16$CharsSpliterator")] 4

def k9m0 : Method := { name := "<init>", desc := "()V", sig := { parameters := [], returnType := none }, accessFlags := 0, code := none }
def k9c1 : Code := { maxStack := 2, maxLocals := 2, code := jdk_52_method_15_code, exceptionTable := #[], attributes := #[] }
def k9m1 : Method := { name := "coderFromArrayLen", desc := "([BI)B", sig := { parameters := [(.array .byte), .int], returnType := some .byte }, accessFlags := 8, code := some k9c1 }
def k9c2 : Code := { maxStack := 5, maxLocals := 6, code := jdk_52_method_16_code, exceptionTable := #[], attributes := #[] }
def k9m2 : Method := { name := "compress", desc := "([CII)[B", sig := { parameters := [(.array .char), .int, .int], returnType := some (.array .byte) }, accessFlags := 9, code := some k9c2 }
def k9c3 : Code := { maxStack := 3, maxLocals := 7, code := jdk_52_method_21_code, exceptionTable := #[], attributes := #[] }
def k9m3 : Method := { name := "compress", desc := "([CI[BII)I", sig := { parameters := [(.array .char), .int, (.array .byte), .int, .int], returnType := some .int }, accessFlags := 9, code := some k9c3 }
/-- java/lang/StringUTF16 -/
def k9 : Class := { plain "java/lang/StringUTF16" (some 0) with
  accessFlags := 48
  interfaces := #[]
  cf := some (fileOf pool9 12 #[.nestMembers #[627, 629, 369]] #[{ accessFlags := 0, nameIndex := 9, descriptorIndex := 10, attributes := #[] }, { accessFlags := 8, nameIndex := 261, descriptorIndex := 262, attributes := #[] }, { accessFlags := 9, nameIndex := 117, descriptorIndex := 122, attributes := #[] }, { accessFlags := 9, nameIndex := 117, descriptorIndex := 118, attributes := #[] }] 48 6 #[] #[{ accessFlags := 26, nameIndex := 61, descriptorIndex := 62, attributes := #[] }, { accessFlags := 26, nameIndex := 65, descriptorIndex := 62, attributes := #[] }, { accessFlags := 24, nameIndex := 430, descriptorIndex := 62, attributes := #[] }, { accessFlags := 4120, nameIndex := 46, descriptorIndex := 47, attributes := #[] }])
  fields := #[{ name := "HI_BYTE_SHIFT", type := .int, accessFlags := 26, slot := 0, constantValue := 0 }, { name := "LO_BYTE_SHIFT", type := .int, accessFlags := 26, slot := 1, constantValue := 0 }, { name := "MAX_LENGTH", type := .int, accessFlags := 24, slot := 2, constantValue := 0 }, { name := "$assertionsDisabled", type := .boolean, accessFlags := 4120, slot := 3, constantValue := 0 }]
  methods := #[k9m0, k9m1, k9m2, k9m3]
  instanceTypes := #[]
  staticTypes := #[.int, .int, .int, .boolean]
  resolved := Array.replicate 635 none
  statics := none }

def pool10 : Array CpInfo := pool [(1, .class_ 2), (0, u "java/lang/String"), (1, .class_ 6), (1, u "java/lang/Object"), (0, u "<init>"), (0, u "()V"), (0, .methodref 1 10), (0, .nameAndType 11 12), (0, u "checkIndex"), (0, u "(II)V"), (1, .class_ 16), (1, u "java/lang/StringLatin1"), (36, u "([BI)C"), (58, .methodref 1 113), (0, .nameAndType 7 114), (0, u "([BB)V"), (6, u "$assertionsDisabled"), (0, u "Z"), (8, .class_ 133), (1, u "java/util/Arrays"), (62, u "newString"), (0, u "([BII)Ljava/lang/String;"), (23, .class_ 223), (1, u "java/lang/StringLatin1$LinesSpliterator"), (8, .methodref 131 233), (0, .nameAndType 234 235), (0, u "copyOfRange"), (0, u "([BII)[B"), (16, u "charAt"), (28, u "equals"), (0, u "([B[B)Z"), (107, .class_ 391), (0, u "java/lang/StringLatin1$CharsSpliterator")] 3

def k10m0 : Method := { name := "<init>", desc := "()V", sig := { parameters := [], returnType := none }, accessFlags := 0, code := none }
def k10c1 : Code := { maxStack := 2, maxLocals := 2, code := jdk_43_method_2_code, exceptionTable := #[], attributes := #[] }
def k10m1 : Method := { name := "charAt", desc := "([BI)C", sig := { parameters := [(.array .byte), .int], returnType := some .char }, accessFlags := 9, code := some k10c1 }
def k10c2 : Code := { maxStack := 3, maxLocals := 3, code := jdk_43_method_13_code, exceptionTable := #[], attributes := #[] }
def k10m2 : Method := { name := "equals", desc := "([B[B)Z", sig := { parameters := [(.array .byte), (.array .byte)], returnType := some .boolean }, accessFlags := 9, code := some k10c2 }
def k10c3 : Code := { maxStack := 6, maxLocals := 3, code := jdk_43_method_47_code, exceptionTable := #[], attributes := #[] }
def k10m3 : Method := { name := "newString", desc := "([BII)Ljava/lang/String;", sig := { parameters := [(.array .byte), .int, .int], returnType := some (.object "java/lang/String") }, accessFlags := 9, code := some k10c3 }
/-- java/lang/StringLatin1 -/
def k10 : Class := { plain "java/lang/StringLatin1" (some 0) with
  accessFlags := 48
  interfaces := #[]
  cf := some (fileOf pool10 14 #[.nestMembers #[390, 221]] #[{ accessFlags := 0, nameIndex := 7, descriptorIndex := 8, attributes := #[] }, { accessFlags := 9, nameIndex := 252, descriptorIndex := 53, attributes := #[] }, { accessFlags := 9, nameIndex := 281, descriptorIndex := 282, attributes := #[] }, { accessFlags := 9, nameIndex := 196, descriptorIndex := 197, attributes := #[] }] 48 4 #[] #[{ accessFlags := 4120, nameIndex := 121, descriptorIndex := 122, attributes := #[] }])
  fields := #[{ name := "$assertionsDisabled", type := .boolean, accessFlags := 4120, slot := 0, constantValue := 0 }]
  methods := #[k10m0, k10m1, k10m2, k10m3]
  instanceTypes := #[]
  staticTypes := #[.boolean]
  resolved := Array.replicate 395 none
  statics := none }

def pool11 : Array CpInfo := pool [(2, .class_ 4), (1, u "java/lang/Object"), (0, u "<init>"), (0, u "()V"), (17, .class_ 26), (1, u "jdk/internal/util/Preconditions"), (6, u "checkIndex"), (13, u "checkFromToIndex"), (7, .class_ 56), (0, u "jdk/internal/util/Preconditions$4"), (57, .class_ 115), (0, u "jdk/internal/util/Preconditions$1"), (7, u "SIOOBE_FORMATTER"), (0, u "Ljava/util/function/BiFunction;"), (0, .class_ 126), (0, u "jdk/internal/util/Preconditions$2"), (3, u "AIOOBE_FORMATTER"), (0, .class_ 132), (0, u "jdk/internal/util/Preconditions$3"), (3, u "IOOBE_FORMATTER"), (41, u "(IILjava/util/function/BiFunction;)I"), (4, u "(IIILjava/util/function/BiFunction;)I")] 10

def k11m0 : Method := { name := "<init>", desc := "()V", sig := { parameters := [], returnType := none }, accessFlags := 1, code := none }
def k11c1 : Code := { maxStack := 3, maxLocals := 3, code := jdk_41_method_11_code, exceptionTable := #[], attributes := #[] }
def k11m1 : Method := { name := "checkIndex", desc := "(IILjava/util/function/BiFunction;)I", sig := { parameters := [.int, .int, (.object "java/util/function/BiFunction")], returnType := some .int }, accessFlags := 9, code := some k11c1 }
def k11c2 : Code := { maxStack := 4, maxLocals := 4, code := jdk_41_method_12_code, exceptionTable := #[], attributes := #[] }
def k11m2 : Method := { name := "checkFromToIndex", desc := "(IIILjava/util/function/BiFunction;)I", sig := { parameters := [.int, .int, .int, (.object "java/util/function/BiFunction")], returnType := some .int }, accessFlags := 9, code := some k11c2 }
/-- jdk/internal/util/Preconditions -/
def k11 : Class := { plain "jdk/internal/util/Preconditions" (some 0) with
  accessFlags := 33
  interfaces := #[]
  cf := some (fileOf pool11 24 #[.nestMembers #[55, 131, 125, 114]] #[{ accessFlags := 1, nameIndex := 5, descriptorIndex := 6, attributes := #[] }, { accessFlags := 9, nameIndex := 33, descriptorIndex := 178, attributes := #[] }, { accessFlags := 9, nameIndex := 47, descriptorIndex := 183, attributes := #[] }] 33 2 #[] #[{ accessFlags := 25, nameIndex := 123, descriptorIndex := 124, attributes := #[] }, { accessFlags := 25, nameIndex := 130, descriptorIndex := 124, attributes := #[] }, { accessFlags := 25, nameIndex := 136, descriptorIndex := 124, attributes := #[] }])
  fields := #[{ name := "SIOOBE_FORMATTER", type := (.object "java/util/function/BiFunction"), accessFlags := 25, slot := 0, constantValue := 0 }, { name := "AIOOBE_FORMATTER", type := (.object "java/util/function/BiFunction"), accessFlags := 25, slot := 1, constantValue := 0 }, { name := "IOOBE_FORMATTER", type := (.object "java/util/function/BiFunction"), accessFlags := 25, slot := 2, constantValue := 0 }]
  methods := #[k11m0, k11m1, k11m2]
  instanceTypes := #[]
  staticTypes := #[(.object "java/util/function/BiFunction"), (.object "java/util/function/BiFunction"), (.object "java/util/function/BiFunction")]
  resolved := Array.replicate 194 none
  statics := some 1 }

def pool12 : Array CpInfo := pool [(2, .class_ 4), (1, u "java/lang/Object"), (0, u "<init>"), (0, u "()V"), (7, .class_ 16), (1, u "java/util/Arrays"), (57, .class_ 76), (1, u "java/util/Arrays$NaturalOrder"), (36, .class_ 115), (1, u "java/util/Arrays$LegacyMergeSort"), (1, u "Z"), (21, u "copyOfRange"), (10, .methodref 151 152), (0, .class_ 153), (0, .nameAndType 154 155), (0, u "java/lang/System"), (0, u "arraycopy"), (0, u "(Ljava/lang/Object;ILjava/lang/Object;II)V"), (148, .methodref 305 306), (0, .class_ 307), (0, .nameAndType 308 309), (0, u "java/lang/Math"), (0, u "min"), (0, u "(II)I"), (29, .methodref 14 340), (0, .nameAndType 341 342), (0, u "copyOfRangeByte"), (0, u "([BII)[B"), (0, .methodref 14 344), (0, .nameAndType 345 346), (0, u "checkLength"), (0, u "(II)V"), (28, .class_ 376), (0, u "java/util/Arrays$ArrayList"), (68, u "$assertionsDisabled"), (269, u "MIN_ARRAY_SORT_GRAN"), (0, u "I"), (2, u "INSERTIONSORT_THRESHOLD"), (255, .class_ 976), (0, u "java/util/Arrays$ArrayItr")] 52

def k12m0 : Method := { name := "<init>", desc := "()V", sig := { parameters := [], returnType := none }, accessFlags := 2, code := none }
def k12c1 : Code := { maxStack := 4, maxLocals := 2, code := jdk_65_method_131_code, exceptionTable := #[], attributes := #[] }
def k12m1 : Method := { name := "checkLength", desc := "(II)V", sig := { parameters := [.int, .int], returnType := none }, accessFlags := 10, code := some k12c1 }
def k12c2 : Code := { maxStack := 3, maxLocals := 3, code := jdk_65_method_132_code, exceptionTable := #[], attributes := #[] }
def k12m2 : Method := { name := "copyOfRange", desc := "([BII)[B", sig := { parameters := [(.array .byte), .int, .int], returnType := some (.array .byte) }, accessFlags := 9, code := some k12c2 }
def k12c3 : Code := { maxStack := 6, maxLocals := 5, code := jdk_65_method_133_code, exceptionTable := #[], attributes := #[] }
def k12m3 : Method := { name := "copyOfRangeByte", desc := "([BII)[B", sig := { parameters := [(.array .byte), .int, .int], returnType := some (.array .byte) }, accessFlags := 10, code := some k12c3 }
/-- java/util/Arrays -/
def k12 : Class := { plain "java/util/Arrays" (some 0) with
  accessFlags := 49
  interfaces := #[]
  cf := some (fileOf pool12 14 #[.nestMembers #[975, 375, 113, 74]] #[{ accessFlags := 2, nameIndex := 5, descriptorIndex := 6, attributes := #[] }, { accessFlags := 10, nameIndex := 345, descriptorIndex := 346, attributes := #[] }, { accessFlags := 9, nameIndex := 139, descriptorIndex := 342, attributes := #[] }, { accessFlags := 10, nameIndex := 341, descriptorIndex := 342, attributes := #[] }] 49 2 #[] #[{ accessFlags := 26, nameIndex := 715, descriptorIndex := 716, attributes := #[] }, { accessFlags := 26, nameIndex := 719, descriptorIndex := 716, attributes := #[] }, { accessFlags := 4120, nameIndex := 445, descriptorIndex := 117, attributes := #[] }])
  fields := #[{ name := "MIN_ARRAY_SORT_GRAN", type := .int, accessFlags := 26, slot := 0, constantValue := 0 }, { name := "INSERTIONSORT_THRESHOLD", type := .int, accessFlags := 26, slot := 1, constantValue := 0 }, { name := "$assertionsDisabled", type := .boolean, accessFlags := 4120, slot := 2, constantValue := 0 }]
  methods := #[k12m0, k12m1, k12m2, k12m3]
  instanceTypes := #[]
  staticTypes := #[.int, .int, .boolean]
  resolved := Array.replicate 1029 none
  statics := none }

def pool13 : Array CpInfo := pool [(1, .class_ 2), (0, u "java/lang/Math"), (1, .class_ 6), (1, u "java/lang/Object"), (0, u "<init>"), (0, u "()V"), (89, .class_ 100), (1, u "java/lang/Math$RandomNumberGeneratorHolder"), (71, u "negativeZeroFloatBits"), (0, u "J"), (2, u "negativeZeroDoubleBits"), (24, u "min"), (43, u "$assertionsDisabled"), (0, u "Z"), (88, u "(II)I"), (2, u "twoToTheDoubleScaleDown"), (0, u "D"), (4, u "twoToTheDoubleScaleUp"), (9, u "E"), (3, u "PI"), (2, u "TAU"), (2, u "DEGREES_TO_RADIANS"), (0, u "RADIANS_TO_DEGREES")] 94

def k13m0 : Method := { name := "<init>", desc := "()V", sig := { parameters := [], returnType := none }, accessFlags := 2, code := none }
def k13c1 : Code := { maxStack := 2, maxLocals := 2, code := jdk_29_method_69_code, exceptionTable := #[], attributes := #[] }
def k13m1 : Method := { name := "min", desc := "(II)I", sig := { parameters := [.int, .int], returnType := some .int }, accessFlags := 9, code := some k13c1 }
/-- java/lang/Math -/
def k13 : Class := { plain "java/lang/Math" (some 0) with
  accessFlags := 49
  interfaces := #[]
  cf := some (fileOf pool13 1 #[.nestMembers #[98]] #[{ accessFlags := 2, nameIndex := 7, descriptorIndex := 8, attributes := #[] }, { accessFlags := 9, nameIndex := 201, descriptorIndex := 335, attributes := #[] }] 49 4 #[] #[{ accessFlags := 25, nameIndex := 354, descriptorIndex := 339, attributes := #[] }, { accessFlags := 25, nameIndex := 358, descriptorIndex := 339, attributes := #[] }, { accessFlags := 25, nameIndex := 361, descriptorIndex := 339, attributes := #[] }, { accessFlags := 26, nameIndex := 364, descriptorIndex := 339, attributes := #[] }, { accessFlags := 26, nameIndex := 365, descriptorIndex := 339, attributes := #[] }, { accessFlags := 26, nameIndex := 172, descriptorIndex := 173, attributes := #[] }, { accessFlags := 26, nameIndex := 176, descriptorIndex := 173, attributes := #[] }, { accessFlags := 8, nameIndex := 344, descriptorIndex := 339, attributes := #[] }, { accessFlags := 8, nameIndex := 338, descriptorIndex := 339, attributes := #[] }, { accessFlags := 4120, nameIndex := 245, descriptorIndex := 246, attributes := #[] }])
  fields := #[{ name := "E", type := .double, accessFlags := 25, slot := 0, constantValue := 0 }, { name := "PI", type := .double, accessFlags := 25, slot := 1, constantValue := 0 }, { name := "TAU", type := .double, accessFlags := 25, slot := 2, constantValue := 0 }, { name := "DEGREES_TO_RADIANS", type := .double, accessFlags := 26, slot := 3, constantValue := 0 }, { name := "RADIANS_TO_DEGREES", type := .double, accessFlags := 26, slot := 4, constantValue := 0 }, { name := "negativeZeroFloatBits", type := .long, accessFlags := 26, slot := 5, constantValue := 0 }, { name := "negativeZeroDoubleBits", type := .long, accessFlags := 26, slot := 6, constantValue := 0 }, { name := "twoToTheDoubleScaleUp", type := .double, accessFlags := 8, slot := 7, constantValue := 0 }, { name := "twoToTheDoubleScaleDown", type := .double, accessFlags := 8, slot := 8, constantValue := 0 }, { name := "$assertionsDisabled", type := .boolean, accessFlags := 4120, slot := 9, constantValue := 0 }]
  methods := #[k13m0, k13m1]
  instanceTypes := #[]
  staticTypes := #[.double, .double, .double, .double, .double, .long, .long, .double, .double, .boolean]
  resolved := Array.replicate 460 none
  statics := none }

def pool14 : Array CpInfo := pool [(2, .class_ 4), (1, u "java/lang/Object"), (0, u "<init>"), (0, u "()V"), (1, .class_ 10), (1, u "java/lang/System"), (0, u "allowSecurityManager"), (0, u "I"), (16, u "cons"), (0, u "Ljava/io/Console;"), (77, .class_ 110), (1, u "java/lang/System$CallersHolder"), (43, u "initialErrStream"), (0, u "Ljava/io/PrintStream;"), (19, u "security"), (0, u "Ljava/lang/SecurityManager;"), (31, .class_ 209), (0, u "java/lang/System$1"), (7, u "props"), (0, u "Ljava/util/Properties;"), (2, u "lineSeparator"), (0, u "Ljava/lang/String;"), (96, .class_ 321), (1, u "java/lang/System$LoggerFinder"), (5, .class_ 328), (0, u "java/lang/System$Logger"), (67, u "err"), (2, u "out"), (91, u "notSupportedJnuEncoding"), (15, u "in"), (17, u "initialIn"), (0, u "Ljava/io/InputStream;"), (35, u "bootLayer"), (0, u "Ljava/lang/ModuleLayer;"), (99, .class_ 664), (0, u "java/lang/System$2"), (9, u "NEVER"), (2, u "MAYBE"), (49, u "arraycopy"), (0, u "(Ljava/lang/Object;ILjava/lang/Object;II)V"), (72, .class_ 802), (0, u "java/lang/System$Logger$Level")] 31

def k14m0 : Method := { name := "<init>", desc := "()V", sig := { parameters := [], returnType := none }, accessFlags := 2, code := none }
def k14m1 : Method := { name := "arraycopy", desc := "(Ljava/lang/Object;ILjava/lang/Object;II)V", sig := { parameters := [(.object "java/lang/Object"), .int, (.object "java/lang/Object"), .int, .int], returnType := none }, accessFlags := 265, code := none }
/-- java/lang/System -/
def k14 : Class := { plain "java/lang/System" (some 0) with
  accessFlags := 49
  interfaces := #[]
  cf := some (fileOf pool14 8 #[.nestMembers #[319, 327, 801, 108, 663, 208]] #[{ accessFlags := 2, nameIndex := 5, descriptorIndex := 6, attributes := #[] }, { accessFlags := 265, nameIndex := 727, descriptorIndex := 728, attributes := #[] }] 49 2 #[] #[{ accessFlags := 25, nameIndex := 507, descriptorIndex := 526, attributes := #[] }, { accessFlags := 25, nameIndex := 399, descriptorIndex := 155, attributes := #[] }, { accessFlags := 25, nameIndex := 396, descriptorIndex := 155, attributes := #[] }, { accessFlags := 10, nameIndex := 525, descriptorIndex := 526, attributes := #[] }, { accessFlags := 26, nameIndex := 674, descriptorIndex := 12, attributes := #[] }, { accessFlags := 26, nameIndex := 677, descriptorIndex := 12, attributes := #[] }, { accessFlags := 10, nameIndex := 11, descriptorIndex := 12, attributes := #[] }, { accessFlags := 74, nameIndex := 175, descriptorIndex := 176, attributes := #[] }, { accessFlags := 10, nameIndex := 491, descriptorIndex := 222, attributes := #[] }, { accessFlags := 74, nameIndex := 29, descriptorIndex := 30, attributes := #[] }, { accessFlags := 74, nameIndex := 154, descriptorIndex := 155, attributes := #[] }, { accessFlags := 10, nameIndex := 217, descriptorIndex := 218, attributes := #[] }, { accessFlags := 10, nameIndex := 221, descriptorIndex := 222, attributes := #[] }, { accessFlags := 8, nameIndex := 562, descriptorIndex := 563, attributes := #[] }])
  fields := #[{ name := "in", type := (.object "java/io/InputStream"), accessFlags := 25, slot := 0, constantValue := 0 }, { name := "out", type := (.object "java/io/PrintStream"), accessFlags := 25, slot := 1, constantValue := 0 }, { name := "err", type := (.object "java/io/PrintStream"), accessFlags := 25, slot := 2, constantValue := 0 }, { name := "initialIn", type := (.object "java/io/InputStream"), accessFlags := 10, slot := 3, constantValue := 0 }, { name := "NEVER", type := .int, accessFlags := 26, slot := 4, constantValue := 0 }, { name := "MAYBE", type := .int, accessFlags := 26, slot := 5, constantValue := 0 }, { name := "allowSecurityManager", type := .int, accessFlags := 10, slot := 6, constantValue := 0 }, { name := "security", type := (.object "java/lang/SecurityManager"), accessFlags := 74, slot := 7, constantValue := 0 }, { name := "notSupportedJnuEncoding", type := (.object "java/lang/String"), accessFlags := 10, slot := 8, constantValue := 0 }, { name := "cons", type := (.object "java/io/Console"), accessFlags := 74, slot := 9, constantValue := 0 }, { name := "initialErrStream", type := (.object "java/io/PrintStream"), accessFlags := 74, slot := 10, constantValue := 0 }, { name := "props", type := (.object "java/util/Properties"), accessFlags := 10, slot := 11, constantValue := 0 }, { name := "lineSeparator", type := (.object "java/lang/String"), accessFlags := 10, slot := 12, constantValue := 0 }, { name := "bootLayer", type := (.object "java/lang/ModuleLayer"), accessFlags := 8, slot := 13, constantValue := 0 }]
  methods := #[k14m0, k14m1]
  instanceTypes := #[]
  staticTypes := #[(.object "java/io/InputStream"), (.object "java/io/PrintStream"), (.object "java/io/PrintStream"), (.object "java/io/InputStream"), .int, .int, .int, (.object "java/lang/SecurityManager"), (.object "java/lang/String"), (.object "java/io/Console"), (.object "java/io/PrintStream"), (.object "java/util/Properties"), (.object "java/lang/String"), (.object "java/lang/ModuleLayer")]
  resolved := Array.replicate 834 none
  statics := none }

def pool15 : Array CpInfo := pool [(9, u "<init>"), (6, .class_ 18), (1, u "java/lang/Object"), (0, u "()V"), (1, .class_ 23), (1, u "jdk/internal/util/ArraysSupport"), (0, u "LOG2_ARRAY_LONG_INDEX_SCALE"), (0, u "I"), (2, u "U"), (0, u "Ljdk/internal/misc/Unsafe;"), (8, u "BIG_ENDIAN"), (0, u "Z"), (8, u "LOG2_BYTE_BIT_SIZE"), (4, u "LOG2_ARRAY_INT_INDEX_SCALE"), (54, u "JLA"), (0, u "Ljdk/internal/access/JavaLangAccess;"), (11, u "LOG2_ARRAY_BOOLEAN_INDEX_SCALE"), (9, u "LOG2_ARRAY_BYTE_INDEX_SCALE"), (5, u "LOG2_ARRAY_CHAR_INDEX_SCALE"), (5, u "LOG2_ARRAY_SHORT_INDEX_SCALE"), (18, u "LOG2_ARRAY_FLOAT_INDEX_SCALE"), (24, u "LOG2_ARRAY_DOUBLE_INDEX_SCALE"), (89, u "T_BOOLEAN"), (2, u "T_CHAR"), (1, u "T_FLOAT"), (1, u "T_DOUBLE"), (1, u "T_BYTE"), (1, u "T_SHORT"), (1, u "T_INT"), (1, u "T_LONG"), (1, u "SOFT_MAX_ARRAY_LENGTH")] 83

def k15m0 : Method := { name := "<init>", desc := "()V", sig := { parameters := [], returnType := none }, accessFlags := 2, code := none }
/-- jdk/internal/util/ArraysSupport -/
def k15 : Class := { plain "jdk/internal/util/ArraysSupport" (some 0) with
  accessFlags := 33
  interfaces := #[]
  cf := some (fileOf pool15 21 #[] #[{ accessFlags := 2, nameIndex := 9, descriptorIndex := 19, attributes := #[] }] 33 16 #[] #[{ accessFlags := 24, nameIndex := 28, descriptorIndex := 29, attributes := #[] }, { accessFlags := 26, nameIndex := 38, descriptorIndex := 39, attributes := #[] }, { accessFlags := 25, nameIndex := 121, descriptorIndex := 25, attributes := #[] }, { accessFlags := 25, nameIndex := 131, descriptorIndex := 25, attributes := #[] }, { accessFlags := 25, nameIndex := 137, descriptorIndex := 25, attributes := #[] }, { accessFlags := 25, nameIndex := 143, descriptorIndex := 25, attributes := #[] }, { accessFlags := 25, nameIndex := 53, descriptorIndex := 25, attributes := #[] }, { accessFlags := 25, nameIndex := 24, descriptorIndex := 25, attributes := #[] }, { accessFlags := 25, nameIndex := 162, descriptorIndex := 25, attributes := #[] }, { accessFlags := 25, nameIndex := 187, descriptorIndex := 25, attributes := #[] }, { accessFlags := 26, nameIndex := 48, descriptorIndex := 25, attributes := #[] }, { accessFlags := 25, nameIndex := 277, descriptorIndex := 25, attributes := #[] }, { accessFlags := 25, nameIndex := 280, descriptorIndex := 25, attributes := #[] }, { accessFlags := 25, nameIndex := 282, descriptorIndex := 25, attributes := #[] }, { accessFlags := 25, nameIndex := 284, descriptorIndex := 25, attributes := #[] }, { accessFlags := 25, nameIndex := 286, descriptorIndex := 25, attributes := #[] }, { accessFlags := 25, nameIndex := 288, descriptorIndex := 25, attributes := #[] }, { accessFlags := 25, nameIndex := 290, descriptorIndex := 25, attributes := #[] }, { accessFlags := 25, nameIndex := 292, descriptorIndex := 25, attributes := #[] }, { accessFlags := 26, nameIndex := 108, descriptorIndex := 109, attributes := #[] }, { accessFlags := 25, nameIndex := 294, descriptorIndex := 25, attributes := #[] }])
  fields := #[{ name := "U", type := (.object "jdk/internal/misc/Unsafe"), accessFlags := 24, slot := 0, constantValue := 0 }, { name := "BIG_ENDIAN", type := .boolean, accessFlags := 26, slot := 1, constantValue := 0 }, { name := "LOG2_ARRAY_BOOLEAN_INDEX_SCALE", type := .int, accessFlags := 25, slot := 2, constantValue := 0 }, { name := "LOG2_ARRAY_BYTE_INDEX_SCALE", type := .int, accessFlags := 25, slot := 3, constantValue := 0 }, { name := "LOG2_ARRAY_CHAR_INDEX_SCALE", type := .int, accessFlags := 25, slot := 4, constantValue := 0 }, { name := "LOG2_ARRAY_SHORT_INDEX_SCALE", type := .int, accessFlags := 25, slot := 5, constantValue := 0 }, { name := "LOG2_ARRAY_INT_INDEX_SCALE", type := .int, accessFlags := 25, slot := 6, constantValue := 0 }, { name := "LOG2_ARRAY_LONG_INDEX_SCALE", type := .int, accessFlags := 25, slot := 7, constantValue := 0 }, { name := "LOG2_ARRAY_FLOAT_INDEX_SCALE", type := .int, accessFlags := 25, slot := 8, constantValue := 0 }, { name := "LOG2_ARRAY_DOUBLE_INDEX_SCALE", type := .int, accessFlags := 25, slot := 9, constantValue := 0 }, { name := "LOG2_BYTE_BIT_SIZE", type := .int, accessFlags := 26, slot := 10, constantValue := 0 }, { name := "T_BOOLEAN", type := .int, accessFlags := 25, slot := 11, constantValue := 0 }, { name := "T_CHAR", type := .int, accessFlags := 25, slot := 12, constantValue := 0 }, { name := "T_FLOAT", type := .int, accessFlags := 25, slot := 13, constantValue := 0 }, { name := "T_DOUBLE", type := .int, accessFlags := 25, slot := 14, constantValue := 0 }, { name := "T_BYTE", type := .int, accessFlags := 25, slot := 15, constantValue := 0 }, { name := "T_SHORT", type := .int, accessFlags := 25, slot := 16, constantValue := 0 }, { name := "T_INT", type := .int, accessFlags := 25, slot := 17, constantValue := 0 }, { name := "T_LONG", type := .int, accessFlags := 25, slot := 18, constantValue := 0 }, { name := "JLA", type := (.object "jdk/internal/access/JavaLangAccess"), accessFlags := 26, slot := 19, constantValue := 0 }, { name := "SOFT_MAX_ARRAY_LENGTH", type := .int, accessFlags := 25, slot := 20, constantValue := 0 }]
  methods := #[k15m0]
  instanceTypes := #[]
  staticTypes := #[(.object "jdk/internal/misc/Unsafe"), .boolean, .int, .int, .int, .int, .int, .int, .int, .int, .int, .int, .int, .int, .int, .int, .int, .int, .int, (.object "jdk/internal/access/JavaLangAccess"), .int]
  resolved := Array.replicate 378 none
  statics := none }

def pool16 : Array CpInfo := pool [(1, u "java/lang/Cloneable"), (0, .class_ 1), (0, u "java/lang/Object"), (0, .class_ 3)] 3

/-- java/lang/Cloneable -/
def k16 : Class := { plain "java/lang/Cloneable" (some 0) with
  accessFlags := 1537
  interfaces := #[]
  cf := some (fileOf pool16 2 #[] #[] 1537 4 #[] #[])
  fields := #[]
  methods := #[]
  instanceTypes := #[]
  staticTypes := #[]
  resolved := Array.replicate 8 none
  statics := none }

/-- the primitive byte -/
def k17 : Class := { plain "byte" none with kind := .primitive 'B', accessFlags := 0x411 }
/-- [B -/
def k18 : Class := { plain "[B" (some 0) with kind := .array 17 .byte, interfaces := #[16, 2], accessFlags := 1041 }

/-- the primitive char -/
def k19 : Class := { plain "char" none with kind := .primitive 'C', accessFlags := 0x411 }
/-- [C -/
def k20 : Class := { plain "[C" (some 0) with kind := .array 19 .char, interfaces := #[16, 2], accessFlags := 1041 }

/-- the primitive int -/
def k21 : Class := { plain "int" none with kind := .primitive 'I', accessFlags := 0x411 }
/-- [I -/
def k22 : Class := { plain "[I" (some 0) with kind := .array 21 .int, interfaces := #[16, 2], accessFlags := 1041 }

def heap : Heap := #[{ cls := 7, slots := #[.long 0, .int 1, .null, .int 0, .null, .int 0, .int 0], vm := .statics 7 },
  { cls := 11, slots := #[.null, .null, .null], vm := .statics 11 }]
def classes : Array Class := #[k0, k1, k2, k3, k4, k5, k6, k7, k8, k9, k10, k11, k12, k13, k14, k15, k16, k17, k18, k19, k20, k21, k22]
def interned : List (Array UInt16 × Addr) := []
def slotsUsed : Nat := 10
def theMethod : MethodId := ⟨1, 4⟩
def args0 : Array Value := #[.int 5, .int 6, .int 7, .int 8, .int 9, .int 10]
def aboutOver (below : List Frame) : State where
  vm := { classes := classes, interned := interned.toArray }
  heap := heap
  slotsUsed := slotsUsed
  threads := #[{ frames := .invoking theMethod args0 :: below }]
def below0 : List Frame := [.native { method := ⟨0, 0⟩, args := #[] }]
def about1 : State := aboutOver below0
def p0 : Program := .bare "" "" ""
def e0 : Env := launch0.env 0 0 0
theorem w_frames : about1.frames = Frame.invoking theMethod args0 :: below0 := rfl
set_option maxRecDepth 65536 in
theorem w_args : argsFit about1.vm theMethod args0 = true := by decide +kernel
set_option maxRecDepth 65536 in
theorem w_heap : heapFits about1 = true := by decide +kernel
set_option maxRecDepth 65536 in
theorem w_runnable : about1.curStatus? = some .runnable := by decide +kernel
set_option maxRecDepth 65536 in
theorem w_alone : about1.alone = true := by decide +kernel
set_option maxRecDepth 65536 in
theorem w_named : about1.methodNamed? x = some theMethod := by decide +kernel
set_option maxRecDepth 65536 in
theorem w_hears : about1.hears theMethod below0 = true := by decide +kernel
set_option maxRecDepth 65536 in
theorem w_ripe : about1.ripe theMethod args0 below0 = true := by decide +kernel
theorem w_running : about1.status = .running := rfl
set_option maxRecDepth 65536 in
theorem w_room : about1.hasRoom e0.platform room_1 = true :=
  launch0.hasRoom_least _ room_1 (by decide +kernel) (by decide +kernel) (by decide +kernel) (by decide +kernel) (by decide +kernel) (by decide +kernel)
theorem allAtoms_all (ts : List Jvm.Cond) (a : Array Jvm.Value) (st : Jvm.State) : (allAtoms ts).before a st = ts.all (fun c => c.before a st) := by
  induction ts with
  | nil => rfl
  | cons c t ih =>
    show (Jvm.Cond.and c (allAtoms t)).before a st = _
    rw [Jvm.Cond.before_and, ih, List.all_cons]
def words1 : List Jvm.Cond := Jvm.Cond.code x code maxLocals ret :: tables_1
/-- a 'code' word, met by the world's own term for the bytes: nothing is compared byte by byte -/
theorem code_word {y : MethodName} {bytes : ByteArray} {mx : Nat} {rt : Option FieldType} {a : Array Value} {s : State} {m : MethodId} {meth : Method} {c : Code} (h1 : s.methodNamed? y = some m) (h2 : s.vm.method? m = some meth) (h3 : meth.code = some c) (h4 : c.code = bytes)
    (h5 : (c.maxLocals == mx && c.exceptionTable.isEmpty && decide (c.maxStack ≤ mostOperands) && decide (meth.sig.returnType = rt) && !meth.locks && decide (parseMethodDescriptor y.desc = some meth.sig)) = true) : (Jvm.Cond.code y bytes mx rt).before a s = true := by
  simp only [Bool.and_eq_true, beq_iff_eq, Bool.not_eq_true', decide_eq_true_eq] at h5
  obtain ⟨⟨⟨⟨⟨g1, g2⟩, g3⟩, g4⟩, g5⟩, g6⟩ := h5
  simp [Cond.before, Cond.holds, Cond.value, h1, h2, h3, h4, g1, g2, g3, g4, g5, g6]
def isCode : Jvm.Cond → Bool
  | .code _ _ _ _ => true
  | _ => false
theorem all_split {L : List Jvm.Cond} {P : Jvm.Cond → Bool} (h1 : L.all (fun c => isCode c || P c) = true) (h2 : ∀ c ∈ L.filter isCode, P c = true) : L.all P = true := by
  refine List.all_eq_true.mpr fun c hc => ?_
  have h := List.all_eq_true.mp h1 c hc
  rcases Bool.eq_false_or_eq_true (isCode c) with hi | hi
  · exact h2 c (List.mem_filter.mpr ⟨hc, hi⟩)
  · simpa [hi] using h
set_option maxRecDepth 65536 in
theorem w_c0 : (Jvm.Cond.code x code maxLocals ret).before args0 about1 = true := code_word (m := ⟨1, 4⟩) (meth := k1m4) (c := k1c4) (by decide +kernel) rfl rfl rfl (by decide +kernel)
set_option maxRecDepth 65536 in
theorem w_c1 : (Jvm.Cond.code ({ cls := "com/example/oxpecker/oxpecker/MessageTemplateSoleParameterPinLaw", name := "ch", desc := "(I)C" } : Jvm.MethodName) method_2_code (2 : Nat) (Option.some Jvm.ClassFile.FieldType.char)).before args0 about1 = true := code_word (m := ⟨1, 1⟩) (meth := k1m1) (c := k1c1) (by decide +kernel) rfl rfl rfl (by decide +kernel)
set_option maxRecDepth 65536 in
theorem w_c2 : (Jvm.Cond.code ({ cls := "com/example/oxpecker/oxpecker/MessageTemplateSoleParameterPinLaw", name := "make", desc := "(ICCCCC)Ljava/lang/String;" } : Jvm.MethodName) method_4_code (6 : Nat) (Option.some (Jvm.ClassFile.FieldType.object "java/lang/String"))).before args0 about1 = true := code_word (m := ⟨1, 3⟩) (meth := k1m3) (c := k1c3) (by decide +kernel) rfl rfl rfl (by decide +kernel)
set_option maxRecDepth 65536 in
theorem w_c3 : (Jvm.Cond.code ({ cls := "java/lang/String", name := "<init>", desc := "([C)V" } : Jvm.MethodName) jdk_42_method_3_code (2 : Nat) (Option.none : Option Jvm.ClassFile.FieldType)).before args0 about1 = true := code_word (m := ⟨7, 1⟩) (meth := k7m1) (c := k7c1) (by decide +kernel) rfl rfl rfl (by decide +kernel)
set_option maxRecDepth 65536 in
theorem w_c4 : (Jvm.Cond.code ({ cls := "java/lang/String", name := "<init>", desc := "([CIILjava/lang/Void;)V" } : Jvm.MethodName) jdk_42_method_149_code (6 : Nat) (Option.none : Option Jvm.ClassFile.FieldType)).before args0 about1 = true := code_word (m := ⟨7, 7⟩) (meth := k7m7) (c := k7c7) (by decide +kernel) rfl rfl rfl (by decide +kernel)
set_option maxRecDepth 65536 in
theorem w_c5 : (Jvm.Cond.code ({ cls := "java/lang/Object", name := "<init>", desc := "()V" } : Jvm.MethodName) object_method_1_code (1 : Nat) (Option.none : Option Jvm.ClassFile.FieldType)).before args0 about1 = true := code_word (m := ⟨0, 0⟩) (meth := k0m0) (c := k0c0) (by decide +kernel) rfl rfl rfl (by decide +kernel)
set_option maxRecDepth 65536 in
theorem w_c6 : (Jvm.Cond.code ({ cls := "com/example/oxpecker/oxpecker/MessageTemplate", name := "soleParameter", desc := "(Ljava/lang/String;)Ljava/lang/String;" } : Jvm.MethodName) prog_5_method_4_code (2 : Nat) (Option.some (Jvm.ClassFile.FieldType.object "java/lang/String"))).before args0 about1 = true := code_word (m := ⟨8, 1⟩) (meth := k8m1) (c := k8c1) (by decide +kernel) rfl rfl rfl (by decide +kernel)
set_option maxRecDepth 65536 in
theorem w_c7 : (Jvm.Cond.code ({ cls := "java/lang/String", name := "isEmpty", desc := "()Z" } : Jvm.MethodName) jdk_42_method_55_code (1 : Nat) (Option.some Jvm.ClassFile.FieldType.boolean)).before args0 about1 = true := code_word (m := ⟨7, 3⟩) (meth := k7m3) (c := k7c3) (by decide +kernel) rfl rfl rfl (by decide +kernel)
set_option maxRecDepth 65536 in
theorem w_c8 : (Jvm.Cond.code ({ cls := "java/lang/StringUTF16", name := "compress", desc := "([CII)[B" } : Jvm.MethodName) jdk_52_method_16_code (6 : Nat) (Option.some (Jvm.ClassFile.FieldType.array Jvm.ClassFile.FieldType.byte))).before args0 about1 = true := code_word (m := ⟨9, 2⟩) (meth := k9m2) (c := k9c2) (by decide +kernel) rfl rfl rfl (by decide +kernel)
set_option maxRecDepth 65536 in
theorem w_c9 : (Jvm.Cond.code ({ cls := "java/lang/StringUTF16", name := "compress", desc := "([CI[BII)I" } : Jvm.MethodName) jdk_52_method_21_code (7 : Nat) (Option.some Jvm.ClassFile.FieldType.int)).before args0 about1 = true := code_word (m := ⟨9, 3⟩) (meth := k9m3) (c := k9c3) (by decide +kernel) rfl rfl rfl (by decide +kernel)
set_option maxRecDepth 65536 in
theorem w_c10 : (Jvm.Cond.code ({ cls := "java/lang/StringUTF16", name := "coderFromArrayLen", desc := "([BI)B" } : Jvm.MethodName) jdk_52_method_15_code (2 : Nat) (Option.some Jvm.ClassFile.FieldType.byte)).before args0 about1 = true := code_word (m := ⟨9, 1⟩) (meth := k9m1) (c := k9c1) (by decide +kernel) rfl rfl rfl (by decide +kernel)
set_option maxRecDepth 65536 in
theorem w_c11 : (Jvm.Cond.code ({ cls := "com/example/oxpecker/oxpecker/MessageTemplate", name := "parameterEnd", desc := "(Ljava/lang/String;I)I" } : Jvm.MethodName) prog_5_method_9_code (4 : Nat) (Option.some Jvm.ClassFile.FieldType.int)).before args0 about1 = true := code_word (m := ⟨8, 2⟩) (meth := k8m2) (c := k8c2) (by decide +kernel) rfl rfl rfl (by decide +kernel)
set_option maxRecDepth 65536 in
theorem w_c12 : (Jvm.Cond.code ({ cls := "java/lang/String", name := "charAt", desc := "(I)C" } : Jvm.MethodName) jdk_42_method_56_code (2 : Nat) (Option.some Jvm.ClassFile.FieldType.char)).before args0 about1 = true := code_word (m := ⟨7, 4⟩) (meth := k7m4) (c := k7c4) (by decide +kernel) rfl rfl rfl (by decide +kernel)
set_option maxRecDepth 65536 in
theorem w_c13 : (Jvm.Cond.code ({ cls := "java/lang/String", name := "isLatin1", desc := "()Z" } : Jvm.MethodName) jdk_42_method_154_code (1 : Nat) (Option.some Jvm.ClassFile.FieldType.boolean)).before args0 about1 = true := code_word (m := ⟨7, 10⟩) (meth := k7m10) (c := k7c10) (by decide +kernel) rfl rfl rfl (by decide +kernel)
set_option maxRecDepth 65536 in
theorem w_c14 : (Jvm.Cond.code ({ cls := "java/lang/StringLatin1", name := "charAt", desc := "([BI)C" } : Jvm.MethodName) jdk_43_method_2_code (2 : Nat) (Option.some Jvm.ClassFile.FieldType.char)).before args0 about1 = true := code_word (m := ⟨10, 1⟩) (meth := k10m1) (c := k10c1) (by decide +kernel) rfl rfl rfl (by decide +kernel)
set_option maxRecDepth 65536 in
theorem w_c15 : (Jvm.Cond.code ({ cls := "java/lang/String", name := "checkIndex", desc := "(II)V" } : Jvm.MethodName) jdk_42_method_155_code (2 : Nat) (Option.none : Option Jvm.ClassFile.FieldType)).before args0 about1 = true := code_word (m := ⟨7, 11⟩) (meth := k7m11) (c := k7c11) (by decide +kernel) rfl rfl rfl (by decide +kernel)
set_option maxRecDepth 65536 in
theorem w_c16 : (Jvm.Cond.code ({ cls := "jdk/internal/util/Preconditions", name := "checkIndex", desc := "(IILjava/util/function/BiFunction;)I" } : Jvm.MethodName) jdk_41_method_11_code (3 : Nat) (Option.some Jvm.ClassFile.FieldType.int)).before args0 about1 = true := code_word (m := ⟨11, 1⟩) (meth := k11m1) (c := k11c1) (by decide +kernel) rfl rfl rfl (by decide +kernel)
set_option maxRecDepth 65536 in
theorem w_c17 : (Jvm.Cond.code ({ cls := "java/lang/String", name := "length", desc := "()I" } : Jvm.MethodName) jdk_42_method_54_code (1 : Nat) (Option.some Jvm.ClassFile.FieldType.int)).before args0 about1 = true := code_word (m := ⟨7, 2⟩) (meth := k7m2) (c := k7c2) (by decide +kernel) rfl rfl rfl (by decide +kernel)
set_option maxRecDepth 65536 in
theorem w_c18 : (Jvm.Cond.code ({ cls := "java/lang/String", name := "coder", desc := "()B" } : Jvm.MethodName) jdk_42_method_152_code (1 : Nat) (Option.some Jvm.ClassFile.FieldType.byte)).before args0 about1 = true := code_word (m := ⟨7, 9⟩) (meth := k7m9) (c := k7c9) (by decide +kernel) rfl rfl rfl (by decide +kernel)
set_option maxRecDepth 65536 in
theorem w_c19 : (Jvm.Cond.code ({ cls := "com/example/oxpecker/oxpecker/MessageTemplate", name := "isInName", desc := "(C)Z" } : Jvm.MethodName) prog_5_method_10_code (1 : Nat) (Option.some Jvm.ClassFile.FieldType.boolean)).before args0 about1 = true := code_word (m := ⟨8, 3⟩) (meth := k8m3) (c := k8c3) (by decide +kernel) rfl rfl rfl (by decide +kernel)
set_option maxRecDepth 65536 in
theorem w_c20 : (Jvm.Cond.code ({ cls := "com/example/oxpecker/oxpecker/MessageTemplateSoleParameterPinLaw", name := "inName", desc := "(C)Z" } : Jvm.MethodName) method_3_code (1 : Nat) (Option.some Jvm.ClassFile.FieldType.boolean)).before args0 about1 = true := code_word (m := ⟨1, 2⟩) (meth := k1m2) (c := k1c2) (by decide +kernel) rfl rfl rfl (by decide +kernel)
set_option maxRecDepth 65536 in
theorem w_c21 : (Jvm.Cond.code ({ cls := "java/lang/String", name := "substring", desc := "(II)Ljava/lang/String;" } : Jvm.MethodName) jdk_42_method_92_code (5 : Nat) (Option.some (Jvm.ClassFile.FieldType.object "java/lang/String"))).before args0 about1 = true := code_word (m := ⟨7, 6⟩) (meth := k7m6) (c := k7c6) (by decide +kernel) rfl rfl rfl (by decide +kernel)
set_option maxRecDepth 65536 in
theorem w_c22 : (Jvm.Cond.code ({ cls := "java/lang/String", name := "checkBoundsBeginEnd", desc := "(III)V" } : Jvm.MethodName) jdk_42_method_158_code (3 : Nat) (Option.none : Option Jvm.ClassFile.FieldType)).before args0 about1 = true := code_word (m := ⟨7, 12⟩) (meth := k7m12) (c := k7c12) (by decide +kernel) rfl rfl rfl (by decide +kernel)
set_option maxRecDepth 65536 in
theorem w_c23 : (Jvm.Cond.code ({ cls := "jdk/internal/util/Preconditions", name := "checkFromToIndex", desc := "(IIILjava/util/function/BiFunction;)I" } : Jvm.MethodName) jdk_41_method_12_code (4 : Nat) (Option.some Jvm.ClassFile.FieldType.int)).before args0 about1 = true := code_word (m := ⟨11, 2⟩) (meth := k11m2) (c := k11c2) (by decide +kernel) rfl rfl rfl (by decide +kernel)
set_option maxRecDepth 65536 in
theorem w_c24 : (Jvm.Cond.code ({ cls := "java/lang/StringLatin1", name := "newString", desc := "([BII)Ljava/lang/String;" } : Jvm.MethodName) jdk_43_method_47_code (3 : Nat) (Option.some (Jvm.ClassFile.FieldType.object "java/lang/String"))).before args0 about1 = true := code_word (m := ⟨10, 3⟩) (meth := k10m3) (c := k10c3) (by decide +kernel) rfl rfl rfl (by decide +kernel)
set_option maxRecDepth 65536 in
theorem w_c25 : (Jvm.Cond.code ({ cls := "java/util/Arrays", name := "copyOfRange", desc := "([BII)[B" } : Jvm.MethodName) jdk_65_method_132_code (3 : Nat) (Option.some (Jvm.ClassFile.FieldType.array Jvm.ClassFile.FieldType.byte))).before args0 about1 = true := code_word (m := ⟨12, 2⟩) (meth := k12m2) (c := k12c2) (by decide +kernel) rfl rfl rfl (by decide +kernel)
set_option maxRecDepth 65536 in
theorem w_c26 : (Jvm.Cond.code ({ cls := "java/util/Arrays", name := "copyOfRangeByte", desc := "([BII)[B" } : Jvm.MethodName) jdk_65_method_133_code (5 : Nat) (Option.some (Jvm.ClassFile.FieldType.array Jvm.ClassFile.FieldType.byte))).before args0 about1 = true := code_word (m := ⟨12, 3⟩) (meth := k12m3) (c := k12c3) (by decide +kernel) rfl rfl rfl (by decide +kernel)
set_option maxRecDepth 65536 in
theorem w_c27 : (Jvm.Cond.code ({ cls := "java/util/Arrays", name := "checkLength", desc := "(II)V" } : Jvm.MethodName) jdk_65_method_131_code (2 : Nat) (Option.none : Option Jvm.ClassFile.FieldType)).before args0 about1 = true := code_word (m := ⟨12, 1⟩) (meth := k12m1) (c := k12c1) (by decide +kernel) rfl rfl rfl (by decide +kernel)
set_option maxRecDepth 65536 in
theorem w_c28 : (Jvm.Cond.code ({ cls := "java/lang/Math", name := "min", desc := "(II)I" } : Jvm.MethodName) jdk_29_method_69_code (2 : Nat) (Option.some Jvm.ClassFile.FieldType.int)).before args0 about1 = true := code_word (m := ⟨13, 1⟩) (meth := k13m1) (c := k13c1) (by decide +kernel) rfl rfl rfl (by decide +kernel)
set_option maxRecDepth 65536 in
theorem w_c29 : (Jvm.Cond.code ({ cls := "java/lang/String", name := "<init>", desc := "([BB)V" } : Jvm.MethodName) jdk_42_method_151_code (3 : Nat) (Option.none : Option Jvm.ClassFile.FieldType)).before args0 about1 = true := code_word (m := ⟨7, 8⟩) (meth := k7m8) (c := k7c8) (by decide +kernel) rfl rfl rfl (by decide +kernel)
set_option maxRecDepth 65536 in
theorem w_c30 : (Jvm.Cond.code ({ cls := "java/lang/String", name := "equals", desc := "(Ljava/lang/Object;)Z" } : Jvm.MethodName) jdk_42_method_66_code (3 : Nat) (Option.some Jvm.ClassFile.FieldType.boolean)).before args0 about1 = true := code_word (m := ⟨7, 5⟩) (meth := k7m5) (c := k7c5) (by decide +kernel) rfl rfl rfl (by decide +kernel)
set_option maxRecDepth 65536 in
theorem w_c31 : (Jvm.Cond.code ({ cls := "java/lang/StringLatin1", name := "equals", desc := "([B[B)Z" } : Jvm.MethodName) jdk_43_method_13_code (3 : Nat) (Option.some Jvm.ClassFile.FieldType.boolean)).before args0 about1 = true := code_word (m := ⟨10, 2⟩) (meth := k10m2) (c := k10c2) (by decide +kernel) rfl rfl rfl (by decide +kernel)
def codes1 : List Jvm.Cond := [Jvm.Cond.code x code maxLocals ret, Jvm.Cond.code ({ cls := "com/example/oxpecker/oxpecker/MessageTemplateSoleParameterPinLaw", name := "ch", desc := "(I)C" } : Jvm.MethodName) method_2_code (2 : Nat) (Option.some Jvm.ClassFile.FieldType.char), Jvm.Cond.code ({ cls := "com/example/oxpecker/oxpecker/MessageTemplateSoleParameterPinLaw", name := "make", desc := "(ICCCCC)Ljava/lang/String;" } : Jvm.MethodName) method_4_code (6 : Nat) (Option.some (Jvm.ClassFile.FieldType.object "java/lang/String")), Jvm.Cond.code ({ cls := "java/lang/String", name := "<init>", desc := "([C)V" } : Jvm.MethodName) jdk_42_method_3_code (2 : Nat) (Option.none : Option Jvm.ClassFile.FieldType), Jvm.Cond.code ({ cls := "java/lang/String", name := "<init>", desc := "([CIILjava/lang/Void;)V" } : Jvm.MethodName) jdk_42_method_149_code (6 : Nat) (Option.none : Option Jvm.ClassFile.FieldType), Jvm.Cond.code ({ cls := "java/lang/Object", name := "<init>", desc := "()V" } : Jvm.MethodName) object_method_1_code (1 : Nat) (Option.none : Option Jvm.ClassFile.FieldType), Jvm.Cond.code ({ cls := "com/example/oxpecker/oxpecker/MessageTemplate", name := "soleParameter", desc := "(Ljava/lang/String;)Ljava/lang/String;" } : Jvm.MethodName) prog_5_method_4_code (2 : Nat) (Option.some (Jvm.ClassFile.FieldType.object "java/lang/String")), Jvm.Cond.code ({ cls := "java/lang/String", name := "isEmpty", desc := "()Z" } : Jvm.MethodName) jdk_42_method_55_code (1 : Nat) (Option.some Jvm.ClassFile.FieldType.boolean), Jvm.Cond.code ({ cls := "java/lang/StringUTF16", name := "compress", desc := "([CII)[B" } : Jvm.MethodName) jdk_52_method_16_code (6 : Nat) (Option.some (Jvm.ClassFile.FieldType.array Jvm.ClassFile.FieldType.byte)), Jvm.Cond.code ({ cls := "java/lang/StringUTF16", name := "compress", desc := "([CI[BII)I" } : Jvm.MethodName) jdk_52_method_21_code (7 : Nat) (Option.some Jvm.ClassFile.FieldType.int), Jvm.Cond.code ({ cls := "java/lang/StringUTF16", name := "coderFromArrayLen", desc := "([BI)B" } : Jvm.MethodName) jdk_52_method_15_code (2 : Nat) (Option.some Jvm.ClassFile.FieldType.byte), Jvm.Cond.code ({ cls := "com/example/oxpecker/oxpecker/MessageTemplate", name := "parameterEnd", desc := "(Ljava/lang/String;I)I" } : Jvm.MethodName) prog_5_method_9_code (4 : Nat) (Option.some Jvm.ClassFile.FieldType.int), Jvm.Cond.code ({ cls := "java/lang/String", name := "charAt", desc := "(I)C" } : Jvm.MethodName) jdk_42_method_56_code (2 : Nat) (Option.some Jvm.ClassFile.FieldType.char), Jvm.Cond.code ({ cls := "java/lang/String", name := "isLatin1", desc := "()Z" } : Jvm.MethodName) jdk_42_method_154_code (1 : Nat) (Option.some Jvm.ClassFile.FieldType.boolean), Jvm.Cond.code ({ cls := "java/lang/StringLatin1", name := "charAt", desc := "([BI)C" } : Jvm.MethodName) jdk_43_method_2_code (2 : Nat) (Option.some Jvm.ClassFile.FieldType.char), Jvm.Cond.code ({ cls := "java/lang/String", name := "checkIndex", desc := "(II)V" } : Jvm.MethodName) jdk_42_method_155_code (2 : Nat) (Option.none : Option Jvm.ClassFile.FieldType), Jvm.Cond.code ({ cls := "jdk/internal/util/Preconditions", name := "checkIndex", desc := "(IILjava/util/function/BiFunction;)I" } : Jvm.MethodName) jdk_41_method_11_code (3 : Nat) (Option.some Jvm.ClassFile.FieldType.int), Jvm.Cond.code ({ cls := "java/lang/String", name := "length", desc := "()I" } : Jvm.MethodName) jdk_42_method_54_code (1 : Nat) (Option.some Jvm.ClassFile.FieldType.int), Jvm.Cond.code ({ cls := "java/lang/String", name := "coder", desc := "()B" } : Jvm.MethodName) jdk_42_method_152_code (1 : Nat) (Option.some Jvm.ClassFile.FieldType.byte), Jvm.Cond.code ({ cls := "com/example/oxpecker/oxpecker/MessageTemplate", name := "isInName", desc := "(C)Z" } : Jvm.MethodName) prog_5_method_10_code (1 : Nat) (Option.some Jvm.ClassFile.FieldType.boolean), Jvm.Cond.code ({ cls := "com/example/oxpecker/oxpecker/MessageTemplateSoleParameterPinLaw", name := "inName", desc := "(C)Z" } : Jvm.MethodName) method_3_code (1 : Nat) (Option.some Jvm.ClassFile.FieldType.boolean), Jvm.Cond.code ({ cls := "java/lang/String", name := "substring", desc := "(II)Ljava/lang/String;" } : Jvm.MethodName) jdk_42_method_92_code (5 : Nat) (Option.some (Jvm.ClassFile.FieldType.object "java/lang/String")), Jvm.Cond.code ({ cls := "java/lang/String", name := "checkBoundsBeginEnd", desc := "(III)V" } : Jvm.MethodName) jdk_42_method_158_code (3 : Nat) (Option.none : Option Jvm.ClassFile.FieldType), Jvm.Cond.code ({ cls := "jdk/internal/util/Preconditions", name := "checkFromToIndex", desc := "(IIILjava/util/function/BiFunction;)I" } : Jvm.MethodName) jdk_41_method_12_code (4 : Nat) (Option.some Jvm.ClassFile.FieldType.int), Jvm.Cond.code ({ cls := "java/lang/StringLatin1", name := "newString", desc := "([BII)Ljava/lang/String;" } : Jvm.MethodName) jdk_43_method_47_code (3 : Nat) (Option.some (Jvm.ClassFile.FieldType.object "java/lang/String")), Jvm.Cond.code ({ cls := "java/util/Arrays", name := "copyOfRange", desc := "([BII)[B" } : Jvm.MethodName) jdk_65_method_132_code (3 : Nat) (Option.some (Jvm.ClassFile.FieldType.array Jvm.ClassFile.FieldType.byte)), Jvm.Cond.code ({ cls := "java/util/Arrays", name := "copyOfRangeByte", desc := "([BII)[B" } : Jvm.MethodName) jdk_65_method_133_code (5 : Nat) (Option.some (Jvm.ClassFile.FieldType.array Jvm.ClassFile.FieldType.byte)), Jvm.Cond.code ({ cls := "java/util/Arrays", name := "checkLength", desc := "(II)V" } : Jvm.MethodName) jdk_65_method_131_code (2 : Nat) (Option.none : Option Jvm.ClassFile.FieldType), Jvm.Cond.code ({ cls := "java/lang/Math", name := "min", desc := "(II)I" } : Jvm.MethodName) jdk_29_method_69_code (2 : Nat) (Option.some Jvm.ClassFile.FieldType.int), Jvm.Cond.code ({ cls := "java/lang/String", name := "<init>", desc := "([BB)V" } : Jvm.MethodName) jdk_42_method_151_code (3 : Nat) (Option.none : Option Jvm.ClassFile.FieldType), Jvm.Cond.code ({ cls := "java/lang/String", name := "equals", desc := "(Ljava/lang/Object;)Z" } : Jvm.MethodName) jdk_42_method_66_code (3 : Nat) (Option.some Jvm.ClassFile.FieldType.boolean), Jvm.Cond.code ({ cls := "java/lang/StringLatin1", name := "equals", desc := "([B[B)Z" } : Jvm.MethodName) jdk_43_method_13_code (3 : Nat) (Option.some Jvm.ClassFile.FieldType.boolean)]
set_option maxRecDepth 65536 in
theorem codes_eq : words1.filter isCode = codes1 := rfl
theorem w_codes : ∀ c ∈ words1.filter isCode, c.before args0 about1 = true := by
  rw [codes_eq]
  intro c hc
  simp only [codes1, List.mem_cons, List.not_mem_nil, or_false] at hc
  rcases hc with rfl | rfl | rfl | rfl | rfl | rfl | rfl | rfl | rfl | rfl | rfl | rfl | rfl | rfl | rfl | rfl | rfl | rfl | rfl | rfl | rfl | rfl | rfl | rfl | rfl | rfl | rfl | rfl | rfl | rfl | rfl | rfl
  · exact w_c0
  · exact w_c1
  · exact w_c2
  · exact w_c3
  · exact w_c4
  · exact w_c5
  · exact w_c6
  · exact w_c7
  · exact w_c8
  · exact w_c9
  · exact w_c10
  · exact w_c11
  · exact w_c12
  · exact w_c13
  · exact w_c14
  · exact w_c15
  · exact w_c16
  · exact w_c17
  · exact w_c18
  · exact w_c19
  · exact w_c20
  · exact w_c21
  · exact w_c22
  · exact w_c23
  · exact w_c24
  · exact w_c25
  · exact w_c26
  · exact w_c27
  · exact w_c28
  · exact w_c29
  · exact w_c30
  · exact w_c31
set_option maxRecDepth 65536 in
theorem w_t1 : (words1.take 24).all (fun c => isCode c || c.before args0 about1) = true := by decide +kernel
set_option maxRecDepth 65536 in
theorem w_t2 : ((words1.drop 24).take 24).all (fun c => isCode c || c.before args0 about1) = true := by decide +kernel
set_option maxRecDepth 65536 in
theorem w_t3 : (((words1.drop 24).drop 24).take 24).all (fun c => isCode c || c.before args0 about1) = true := by decide +kernel
set_option maxRecDepth 65536 in
theorem w_t4 : ((((words1.drop 24).drop 24).drop 24).take 24).all (fun c => isCode c || c.before args0 about1) = true := by decide +kernel
set_option maxRecDepth 65536 in
theorem w_t5 : (((((words1.drop 24).drop 24).drop 24).drop 24).take 24).all (fun c => isCode c || c.before args0 about1) = true := by decide +kernel
set_option maxRecDepth 65536 in
theorem w_t6 : (((((words1.drop 24).drop 24).drop 24).drop 24).drop 24).all (fun c => isCode c || c.before args0 about1) = true := by decide +kernel
theorem w_tables : (allAtoms (Jvm.Cond.code x code maxLocals ret :: tables_1)).before args0 about1 = true := by
  rw [allAtoms_all]
  show words1.all (fun c => c.before args0 about1) = true
  refine all_split ?_ w_codes
  rw [← List.take_append_drop 24 words1, List.all_append, w_t1, ← List.take_append_drop 24 (words1.drop 24), List.all_append, w_t2, ← List.take_append_drop 24 ((words1.drop 24).drop 24), List.all_append, w_t3, ← List.take_append_drop 24 (((words1.drop 24).drop 24).drop 24), List.all_append, w_t4, ← List.take_append_drop 24 ((((words1.drop 24).drop 24).drop 24).drop 24), List.all_append, w_t5, w_t6]
  rfl
set_option maxRecDepth 65536 in
theorem w_rest : rest_1_c.before args0 about1 = true := by decide +kernel
set_option maxRecDepth 65536 in
theorem w_case : (Jvm.Cond.and given_1 narrow_1).before args0 about1 = true := by decide +kernel
set_option maxRecDepth 65536 in
theorem w_consts : constsHeld consts_1 about1 := Jvm.Lit.constsHeldB_iff.mp (by decide +kernel)
theorem w_applies : (headSpec (Jvm.Cond.code x code maxLocals ret :: tables_1) room_1).applies x e0.platform about1 = true :=
  (Spec.applies_iff w_frames).mpr ⟨w_running, w_runnable, w_alone, w_named, w_hears, w_ripe, w_room, w_tables⟩
theorem atStart : AtStart classFile x code maxLocals ret World_1 tables_1 room_1 Calls_1 rest_1 Pre_1 launch0 p0 e0 about1 theMethod args0 below0 :=
  ⟨lists_1, trivial, launch0.admits_env _ _ _, launch0.least_env, fairChoices_fair.cas, fairChoices_fair.clock, w_frames, w_args, w_heap, w_applies, ⟨w_consts, trivial⟩, w_rest, w_case⟩
end start1
theorem witness_1 : WitnessClaimed_1 := ⟨start1.p0, start1.e0, start1.about1, start1.theMethod, start1.args0, start1.below0, start1.atStart⟩
end Jvm.Pilot.@@N@@
