import JvmDerived
import JvmDerived.Pilot.@@N@@Statement
import JvmDerived.Pilot.@@N@@Code
set_option linter.unusedVariables false
set_option linter.unusedSimpArgs false
namespace Jvm.Pilot.@@N@@
open Jvm Jvm.ClassFile Sem Op Lib Jvm.Free Jvm.Stand Jvm.LawKit Jvm.RoadKit Bundle Jvm.Pilot.@@N@@.Jvm.D
theorem own_cat {v : Value} (h : v.isRef = true) : v.category = 1 := by rcases ref_cases h with rfl | ⟨_, rfl⟩ <;> rfl
theorem own_store {l : Array Slot} {i : Nat} {v : Value} {o : Slot} (ho : One o) (hv : v.category = 1) (hold : l[i]? = some o := by rfl) : storeLocals l i v = some (l.setIfInBounds i (.val v)) := XS.store1 hold ho hv

def own_val (u : Nat → Value) (t : Int32) : Value := if t < 0 then .null else if t < 21 then u t.toNatClampNeg else .null
theorem own_val_neg {u : Nat → Value} {t : Int32} (h : t < 0) : own_val u t = .null := by simp [own_val, h]
theorem own_val_in {u : Nat → Value} {t : Int32} (h : ¬ t < 0) (h2 : t < 21) : own_val u t = u t.toNatClampNeg := by simp [own_val, h, h2]
theorem own_val_out {u : Nat → Value} {t : Int32} (h : ¬ t < 21) : own_val u t = .null := by unfold own_val; split <;> rfl

def own_ok (Z : State) (h0 : Heap) (w2 : Addr) (cl : Cell) (u : Nat → Value) : Prop := Sta Z h0 "com/example/cafelens/cafelens/classfile/ConstantKind" "BY_TAG" "[Lcom/example/cafelens/cafelens/classfile/ConstantKind;" (.ref w2) ∧ Arr Z h0 w2 cl (.object "com/example/cafelens/cafelens/classfile/ConstantKind") ∧ cl.slots.size = (21 : Int32).toNatClampNeg ∧ (∀ i, i < 21 → cl.slots[i]? = some (u i)) ∧ (∀ i, i < 21 → (u i).isRef = true) ∧ u 0 = .null ∧ u 2 = .null ∧ u 13 = .null ∧ u 14 = .null ∧ Sta Z h0 "com/example/cafelens/cafelens/classfile/ConstantKind" "UTF8" "Lcom/example/cafelens/cafelens/classfile/ConstantKind;" (u 1) ∧ Sta Z h0 "com/example/cafelens/cafelens/classfile/ConstantKind" "INTEGER" "Lcom/example/cafelens/cafelens/classfile/ConstantKind;" (u 3) ∧ Sta Z h0 "com/example/cafelens/cafelens/classfile/ConstantKind" "FLOAT" "Lcom/example/cafelens/cafelens/classfile/ConstantKind;" (u 4) ∧ Sta Z h0 "com/example/cafelens/cafelens/classfile/ConstantKind" "LONG" "Lcom/example/cafelens/cafelens/classfile/ConstantKind;" (u 5) ∧ Sta Z h0 "com/example/cafelens/cafelens/classfile/ConstantKind" "DOUBLE" "Lcom/example/cafelens/cafelens/classfile/ConstantKind;" (u 6) ∧ Sta Z h0 "com/example/cafelens/cafelens/classfile/ConstantKind" "CLASS" "Lcom/example/cafelens/cafelens/classfile/ConstantKind;" (u 7) ∧ Sta Z h0 "com/example/cafelens/cafelens/classfile/ConstantKind" "STRING" "Lcom/example/cafelens/cafelens/classfile/ConstantKind;" (u 8) ∧ Sta Z h0 "com/example/cafelens/cafelens/classfile/ConstantKind" "FIELDREF" "Lcom/example/cafelens/cafelens/classfile/ConstantKind;" (u 9) ∧ Sta Z h0 "com/example/cafelens/cafelens/classfile/ConstantKind" "METHODREF" "Lcom/example/cafelens/cafelens/classfile/ConstantKind;" (u 10) ∧ Sta Z h0 "com/example/cafelens/cafelens/classfile/ConstantKind" "INTERFACE_METHODREF" "Lcom/example/cafelens/cafelens/classfile/ConstantKind;" (u 11) ∧ Sta Z h0 "com/example/cafelens/cafelens/classfile/ConstantKind" "NAME_AND_TYPE" "Lcom/example/cafelens/cafelens/classfile/ConstantKind;" (u 12) ∧ Sta Z h0 "com/example/cafelens/cafelens/classfile/ConstantKind" "METHOD_HANDLE" "Lcom/example/cafelens/cafelens/classfile/ConstantKind;" (u 15) ∧ Sta Z h0 "com/example/cafelens/cafelens/classfile/ConstantKind" "METHOD_TYPE" "Lcom/example/cafelens/cafelens/classfile/ConstantKind;" (u 16) ∧ Sta Z h0 "com/example/cafelens/cafelens/classfile/ConstantKind" "DYNAMIC" "Lcom/example/cafelens/cafelens/classfile/ConstantKind;" (u 17) ∧ Sta Z h0 "com/example/cafelens/cafelens/classfile/ConstantKind" "INVOKE_DYNAMIC" "Lcom/example/cafelens/cafelens/classfile/ConstantKind;" (u 18) ∧ Sta Z h0 "com/example/cafelens/cafelens/classfile/ConstantKind" "MODULE" "Lcom/example/cafelens/cafelens/classfile/ConstantKind;" (u 19) ∧ Sta Z h0 "com/example/cafelens/cafelens/classfile/ConstantKind" "PACKAGE" "Lcom/example/cafelens/cafelens/classfile/ConstantKind;" (u 20)
theorem own_val_ref {Z : State} {h0 : Heap} {w2 : Addr} {cl : Cell} {u : Nat → Value} (OK : own_ok Z h0 w2 cl u) (t : Int32) : (own_val u t).isRef = true := by
  obtain ⟨SB, AB, szB, U, hu, u0, u2, u13, u14, S1, S3, S4, S5, S6, S7, S8, S9, S10, S11, S12, S15, S16, S17, S18, S19, S20⟩ := OK
  by_cases h : t < 0
  · rw [own_val_neg h]; rfl
  by_cases h2 : t < 21
  · rw [own_val_in h h2]
    refine hu _ ?_
    rw [Int32.lt_iff_toInt_lt] at h h2
    have e1 : (0 : Int32).toInt = 0 := rfl
    have e2 : (21 : Int32).toInt = 21 := rfl
    have e3 : t.toNatClampNeg = t.toInt.toNat := rfl
    omega
  · rw [own_val_out h2]; rfl
theorem own_val_none {Z : State} {h0 : Heap} {w2 : Addr} {cl : Cell} {u : Nat → Value} (OK : own_ok Z h0 w2 cl u) {t : Int32} (n1 : ¬ t = (1 : Int32)) (n3 : ¬ t = (3 : Int32)) (n4 : ¬ t = (4 : Int32)) (n5 : ¬ t = (5 : Int32)) (n6 : ¬ t = (6 : Int32)) (n7 : ¬ t = (7 : Int32)) (n8 : ¬ t = (8 : Int32)) (n9 : ¬ t = (9 : Int32)) (n10 : ¬ t = (10 : Int32)) (n11 : ¬ t = (11 : Int32)) (n12 : ¬ t = (12 : Int32)) (n15 : ¬ t = (15 : Int32)) (n16 : ¬ t = (16 : Int32)) (n17 : ¬ t = (17 : Int32)) (n18 : ¬ t = (18 : Int32)) (n19 : ¬ t = (19 : Int32)) (n20 : ¬ t = (20 : Int32)) : own_val u t = .null := by
  obtain ⟨SB, AB, szB, U, hu, u0, u2, u13, u14, S1, S3, S4, S5, S6, S7, S8, S9, S10, S11, S12, S15, S16, S17, S18, S19, S20⟩ := OK
  by_cases h : t < 0
  · exact own_val_neg h
  by_cases h2 : t < 21
  · rw [own_val_in h h2]
    rw [Int32.lt_iff_toInt_lt] at h h2
    have e1 : (0 : Int32).toInt = 0 := rfl
    have e2 : (21 : Int32).toInt = 21 := rfl
    have e3 : t.toNatClampNeg = t.toInt.toNat := rfl
    have m1 : t.toInt ≠ 1 := fun q => n1 (Int32.toInt_inj.mp (q.trans rfl))
    have m3 : t.toInt ≠ 3 := fun q => n3 (Int32.toInt_inj.mp (q.trans rfl))
    have m4 : t.toInt ≠ 4 := fun q => n4 (Int32.toInt_inj.mp (q.trans rfl))
    have m5 : t.toInt ≠ 5 := fun q => n5 (Int32.toInt_inj.mp (q.trans rfl))
    have m6 : t.toInt ≠ 6 := fun q => n6 (Int32.toInt_inj.mp (q.trans rfl))
    have m7 : t.toInt ≠ 7 := fun q => n7 (Int32.toInt_inj.mp (q.trans rfl))
    have m8 : t.toInt ≠ 8 := fun q => n8 (Int32.toInt_inj.mp (q.trans rfl))
    have m9 : t.toInt ≠ 9 := fun q => n9 (Int32.toInt_inj.mp (q.trans rfl))
    have m10 : t.toInt ≠ 10 := fun q => n10 (Int32.toInt_inj.mp (q.trans rfl))
    have m11 : t.toInt ≠ 11 := fun q => n11 (Int32.toInt_inj.mp (q.trans rfl))
    have m12 : t.toInt ≠ 12 := fun q => n12 (Int32.toInt_inj.mp (q.trans rfl))
    have m15 : t.toInt ≠ 15 := fun q => n15 (Int32.toInt_inj.mp (q.trans rfl))
    have m16 : t.toInt ≠ 16 := fun q => n16 (Int32.toInt_inj.mp (q.trans rfl))
    have m17 : t.toInt ≠ 17 := fun q => n17 (Int32.toInt_inj.mp (q.trans rfl))
    have m18 : t.toInt ≠ 18 := fun q => n18 (Int32.toInt_inj.mp (q.trans rfl))
    have m19 : t.toInt ≠ 19 := fun q => n19 (Int32.toInt_inj.mp (q.trans rfl))
    have m20 : t.toInt ≠ 20 := fun q => n20 (Int32.toInt_inj.mp (q.trans rfl))
    have hq : t.toInt.toNat = 0 ∨ t.toInt.toNat = 2 ∨ t.toInt.toNat = 13 ∨ t.toInt.toNat = 14 := by omega
    rw [e3]
    rcases hq with q | q | q | q <;> rw [q] <;> assumption
  · exact own_val_out h2
theorem d1_0 : decode prog_47_method_4_code 0 = .ok (.iload_n 0, 1) := by decide +kernel
theorem d1_1 : decode prog_47_method_4_code 1 = .ok (.ifCond .lt 19, 3) := by decide +kernel
theorem d1_4 : decode prog_47_method_4_code 4 = .ok (.iload_n 0, 1) := by decide +kernel
theorem d1_5 : decode prog_47_method_4_code 5 = .ok (.getstatic 85, 3) := by decide +kernel
theorem d1_8 : decode prog_47_method_4_code 8 = .ok (.arraylength, 1) := by decide +kernel
theorem d1_9 : decode prog_47_method_4_code 9 = .ok (.if_icmp .ge 11, 3) := by decide +kernel
theorem d1_12 : decode prog_47_method_4_code 12 = .ok (.getstatic 85, 3) := by decide +kernel
theorem d1_15 : decode prog_47_method_4_code 15 = .ok (.iload_n 0, 1) := by decide +kernel
theorem d1_16 : decode prog_47_method_4_code 16 = .ok (.aaload, 1) := by decide +kernel
theorem d1_17 : decode prog_47_method_4_code 17 = .ok (.goto 4, 3) := by decide +kernel
theorem d1_20 : decode prog_47_method_4_code 20 = .ok (.aconst_null, 1) := by decide +kernel
theorem d1_21 : decode prog_47_method_4_code 21 = .ok (.areturn, 1) := by decide +kernel

theorem d2_0 : decode method_2_code 0 = .ok (.iload_n 0, 1) := by decide +kernel
theorem d2_1 : decode method_2_code 1 = .ok (.iconst 1, 1) := by decide +kernel
theorem d2_2 : decode method_2_code 2 = .ok (.if_icmp .ne 7, 3) := by decide +kernel
theorem d2_5 : decode method_2_code 5 = .ok (.getstatic 7, 3) := by decide +kernel
theorem d2_8 : decode method_2_code 8 = .ok (.areturn, 1) := by decide +kernel
theorem d2_9 : decode method_2_code 9 = .ok (.iload_n 0, 1) := by decide +kernel
theorem d2_10 : decode method_2_code 10 = .ok (.iconst 3, 1) := by decide +kernel
theorem d2_11 : decode method_2_code 11 = .ok (.if_icmp .ne 7, 3) := by decide +kernel
theorem d2_14 : decode method_2_code 14 = .ok (.getstatic 13, 3) := by decide +kernel
theorem d2_17 : decode method_2_code 17 = .ok (.areturn, 1) := by decide +kernel
theorem d2_18 : decode method_2_code 18 = .ok (.iload_n 0, 1) := by decide +kernel
theorem d2_19 : decode method_2_code 19 = .ok (.iconst 4, 1) := by decide +kernel
theorem d2_20 : decode method_2_code 20 = .ok (.if_icmp .ne 7, 3) := by decide +kernel
theorem d2_23 : decode method_2_code 23 = .ok (.getstatic 16, 3) := by decide +kernel
theorem d2_26 : decode method_2_code 26 = .ok (.areturn, 1) := by decide +kernel
theorem d2_27 : decode method_2_code 27 = .ok (.iload_n 0, 1) := by decide +kernel
theorem d2_28 : decode method_2_code 28 = .ok (.iconst 5, 1) := by decide +kernel
theorem d2_29 : decode method_2_code 29 = .ok (.if_icmp .ne 7, 3) := by decide +kernel
theorem d2_32 : decode method_2_code 32 = .ok (.getstatic 19, 3) := by decide +kernel
theorem d2_35 : decode method_2_code 35 = .ok (.areturn, 1) := by decide +kernel
theorem d2_36 : decode method_2_code 36 = .ok (.iload_n 0, 1) := by decide +kernel
theorem d2_37 : decode method_2_code 37 = .ok (.bipush 6, 2) := by decide +kernel
theorem d2_39 : decode method_2_code 39 = .ok (.if_icmp .ne 7, 3) := by decide +kernel
theorem d2_42 : decode method_2_code 42 = .ok (.getstatic 22, 3) := by decide +kernel
theorem d2_45 : decode method_2_code 45 = .ok (.areturn, 1) := by decide +kernel
theorem d2_46 : decode method_2_code 46 = .ok (.iload_n 0, 1) := by decide +kernel
theorem d2_47 : decode method_2_code 47 = .ok (.bipush 7, 2) := by decide +kernel
theorem d2_49 : decode method_2_code 49 = .ok (.if_icmp .ne 7, 3) := by decide +kernel
theorem d2_52 : decode method_2_code 52 = .ok (.getstatic 25, 3) := by decide +kernel
theorem d2_55 : decode method_2_code 55 = .ok (.areturn, 1) := by decide +kernel
theorem d2_56 : decode method_2_code 56 = .ok (.iload_n 0, 1) := by decide +kernel
theorem d2_57 : decode method_2_code 57 = .ok (.bipush 8, 2) := by decide +kernel
theorem d2_59 : decode method_2_code 59 = .ok (.if_icmp .ne 7, 3) := by decide +kernel
theorem d2_62 : decode method_2_code 62 = .ok (.getstatic 28, 3) := by decide +kernel
theorem d2_65 : decode method_2_code 65 = .ok (.areturn, 1) := by decide +kernel
theorem d2_66 : decode method_2_code 66 = .ok (.iload_n 0, 1) := by decide +kernel
theorem d2_67 : decode method_2_code 67 = .ok (.bipush 9, 2) := by decide +kernel
theorem d2_69 : decode method_2_code 69 = .ok (.if_icmp .ne 7, 3) := by decide +kernel
theorem d2_72 : decode method_2_code 72 = .ok (.getstatic 31, 3) := by decide +kernel
theorem d2_75 : decode method_2_code 75 = .ok (.areturn, 1) := by decide +kernel
theorem d2_76 : decode method_2_code 76 = .ok (.iload_n 0, 1) := by decide +kernel
theorem d2_77 : decode method_2_code 77 = .ok (.bipush 10, 2) := by decide +kernel
theorem d2_79 : decode method_2_code 79 = .ok (.if_icmp .ne 7, 3) := by decide +kernel
theorem d2_82 : decode method_2_code 82 = .ok (.getstatic 34, 3) := by decide +kernel
theorem d2_85 : decode method_2_code 85 = .ok (.areturn, 1) := by decide +kernel
theorem d2_86 : decode method_2_code 86 = .ok (.iload_n 0, 1) := by decide +kernel
theorem d2_87 : decode method_2_code 87 = .ok (.bipush 11, 2) := by decide +kernel
theorem d2_89 : decode method_2_code 89 = .ok (.if_icmp .ne 7, 3) := by decide +kernel
theorem d2_92 : decode method_2_code 92 = .ok (.getstatic 37, 3) := by decide +kernel
theorem d2_95 : decode method_2_code 95 = .ok (.areturn, 1) := by decide +kernel
theorem d2_96 : decode method_2_code 96 = .ok (.iload_n 0, 1) := by decide +kernel
theorem d2_97 : decode method_2_code 97 = .ok (.bipush 12, 2) := by decide +kernel
theorem d2_99 : decode method_2_code 99 = .ok (.if_icmp .ne 7, 3) := by decide +kernel
theorem d2_102 : decode method_2_code 102 = .ok (.getstatic 40, 3) := by decide +kernel
theorem d2_105 : decode method_2_code 105 = .ok (.areturn, 1) := by decide +kernel
theorem d2_106 : decode method_2_code 106 = .ok (.iload_n 0, 1) := by decide +kernel
theorem d2_107 : decode method_2_code 107 = .ok (.bipush 15, 2) := by decide +kernel
theorem d2_109 : decode method_2_code 109 = .ok (.if_icmp .ne 7, 3) := by decide +kernel
theorem d2_112 : decode method_2_code 112 = .ok (.getstatic 43, 3) := by decide +kernel
theorem d2_115 : decode method_2_code 115 = .ok (.areturn, 1) := by decide +kernel
theorem d2_116 : decode method_2_code 116 = .ok (.iload_n 0, 1) := by decide +kernel
theorem d2_117 : decode method_2_code 117 = .ok (.bipush 16, 2) := by decide +kernel
theorem d2_119 : decode method_2_code 119 = .ok (.if_icmp .ne 7, 3) := by decide +kernel
theorem d2_122 : decode method_2_code 122 = .ok (.getstatic 46, 3) := by decide +kernel
theorem d2_125 : decode method_2_code 125 = .ok (.areturn, 1) := by decide +kernel
theorem d2_126 : decode method_2_code 126 = .ok (.iload_n 0, 1) := by decide +kernel
theorem d2_127 : decode method_2_code 127 = .ok (.bipush 17, 2) := by decide +kernel
theorem d2_129 : decode method_2_code 129 = .ok (.if_icmp .ne 7, 3) := by decide +kernel
theorem d2_132 : decode method_2_code 132 = .ok (.getstatic 49, 3) := by decide +kernel
theorem d2_135 : decode method_2_code 135 = .ok (.areturn, 1) := by decide +kernel
theorem d2_136 : decode method_2_code 136 = .ok (.iload_n 0, 1) := by decide +kernel
theorem d2_137 : decode method_2_code 137 = .ok (.bipush 18, 2) := by decide +kernel
theorem d2_139 : decode method_2_code 139 = .ok (.if_icmp .ne 7, 3) := by decide +kernel
theorem d2_142 : decode method_2_code 142 = .ok (.getstatic 52, 3) := by decide +kernel
theorem d2_145 : decode method_2_code 145 = .ok (.areturn, 1) := by decide +kernel
theorem d2_146 : decode method_2_code 146 = .ok (.iload_n 0, 1) := by decide +kernel
theorem d2_147 : decode method_2_code 147 = .ok (.bipush 19, 2) := by decide +kernel
theorem d2_149 : decode method_2_code 149 = .ok (.if_icmp .ne 7, 3) := by decide +kernel
theorem d2_152 : decode method_2_code 152 = .ok (.getstatic 55, 3) := by decide +kernel
theorem d2_155 : decode method_2_code 155 = .ok (.areturn, 1) := by decide +kernel
theorem d2_156 : decode method_2_code 156 = .ok (.iload_n 0, 1) := by decide +kernel
theorem d2_157 : decode method_2_code 157 = .ok (.bipush 20, 2) := by decide +kernel
theorem d2_159 : decode method_2_code 159 = .ok (.if_icmp .ne 7, 3) := by decide +kernel
theorem d2_162 : decode method_2_code 162 = .ok (.getstatic 58, 3) := by decide +kernel
theorem d2_165 : decode method_2_code 165 = .ok (.areturn, 1) := by decide +kernel
theorem d2_166 : decode method_2_code 166 = .ok (.aconst_null, 1) := by decide +kernel
theorem d2_167 : decode method_2_code 167 = .ok (.areturn, 1) := by decide +kernel

theorem pn_1 : plainName "com/example/cafelens/cafelens/classfile/ConstantKind" = true := by first | (simp [plainName, overriddenIn]; done) | decide +kernel

theorem pn_0 : plainName "com/example/cafelens/cafelens/classfile/ConstantKindOfTagPinLaw" = true := by first | (simp [plainName, overriddenIn]; done) | decide +kernel

theorem pd_1 : parseMethodDescriptor "(I)Lcom/example/cafelens/cafelens/classfile/ConstantKind;" = some ⟨[.int], some (.object "com/example/cafelens/cafelens/classfile/ConstantKind")⟩ := by decide +kernel

theorem ef_1 (m : MethodId) (x0 : Int32)  : entryFrame m #[(.int x0)] 1 = mkF m 0 #[.val (.int x0)] [] := by first | (simp [entryFrame, mkF, argsToLocals, Value.category]; done) | rfl
def Q1 (Z : State) (w2 : Addr) (cl : Cell) (u : Nat → Value) (p1 : Int32) (h0 : Heap) (n0 : Nat) (v : Option Value) (h : Heap) (L : List Loc) : Prop := v = some (own_val u p1) ∧ Fr n0 L ∧ h = h0
set_option maxRecDepth 65536 in
set_option maxHeartbeats 40000000 in
theorem rm1 (l : Launch) (Z : State) (a0 : Array Value) (hw : ∀ d ∈ tables_1, d.before a0 Z = true) (ws : List Jvm.Cond) (w2 : Addr) (cl : Cell) (u : Nat → Value) (p1 : Int32) (h0 : Heap) (n0 : Nat) (Z0 : n0 ≤ h0.size) (OK : own_ok Z h0 w2 cl u) :
    MetFree l (⟨"com/example/cafelens/cafelens/classfile/ConstantKind", "ofTag", "(I)Lcom/example/cafelens/cafelens/classfile/ConstantKind;"⟩ : MethodName) (head1 (Jvm.Cond.code (⟨"com/example/cafelens/cafelens/classfile/ConstantKind", "ofTag", "(I)Lcom/example/cafelens/cafelens/classfile/ConstantKind;"⟩ : MethodName) prog_47_method_4_code 1 (some (.object "com/example/cafelens/cafelens/classfile/ConstantKind")) :: ws) ({ frames := 0, cells := 0, slots := 0, locals := 0 } : Room)) (fun a U => a = #[(.int p1)] ∧ Z.Warmed39 U.vm ∧ U.heap = h0) (fun _ _ _ _ _ => True) (fun _ U o U' => ∃ v L, o = .returned v ∧ Q1 Z w2 cl u p1 h0 n0 v U'.heap L ∧ FrameEnd U o U' L ({ frames := 0, cells := 0, slots := 0, locals := 0 } : Room).cells ({ frames := 0, cells := 0, slots := 0, locals := 0 } : Room).slots) := by
  refine MetFree.of_bodySF (plainFor_of_name pn_1) hisR ?_
  intro p e s m args below meth c s₁ Bd hml0 hP hK
  obtain ⟨rfl, hZ, hh⟩ := hP
  have hx := Bd.exec
  have hby := Bd.bytes
  have hml : c.maxLocals = 1 := hml0
  have hown : s.vm.findClass "com/example/cafelens/cafelens/classfile/ConstantKind" = some m.cls := findClass_of_methodNamed Bd.named
  have hnm := (name_of_methodNamed Bd.named Bd.method).1
  have X0 : Stand p l e ({ frames := 0, cells := 0, slots := 0, locals := 0 } : Room) s m #[(.int p1)] below meth c s₁ [] 0 0 := Stand.of_body Bd
  have e0 : s₁.heap = h0 := by rw [← hh, Bd.state]; rfl
  have N0 := Fr.nil n0
  have pre0 : ∀ t, Steps p.tables e below (s₁.setTop (mkF m 0 #[.val (.int p1)] [])) t → Steps p.tables e below (s₁.setTop (entryFrame m #[(.int p1)] 1)) t := fun t k => castTop (ef_1 m p1) k
  obtain ⟨SB, AB, szB, U, hu, u0, u2, u13, u14, S1, S3, S4, S5, S6, S7, S8, S9, S10, S11, S12, S15, S16, S17, S18, S19, S20⟩ := OK
  have pre1 : ∀ t, Steps p.tables e below (s₁.setTop (mkF m 1 #[.val (.int p1)] [(.int p1)])) t → Steps p.tables e below (s₁.setTop (entryFrame m #[(.int p1)] 1)) t := fun t k => pre0 t (by
    show Steps p.tables e below (s₁.setTop (mkF m 0 #[.val (.int p1)] [])) _
    refine XS.iloadN X0.here hx rfl (hb hby d1_0) rfl ?_
    exact k)
  by_cases hc1 : p1 < (0 : Int32)
  · have pre2 : ∀ t, Steps p.tables e below (s₁.setTop (mkF m 21 #[.val (.int p1)] [.null])) t → Steps p.tables e below (s₁.setTop (entryFrame m #[(.int p1)] 1)) t := fun t k => pre1 t (by
      show Steps p.tables e below (s₁.setTop (mkF m 1 #[.val (.int p1)] [(.int p1)])) _
      refine XS.ifYes X0.here hx rfl (pc0 := 1) (pc' := 20) rfl (hb hby d1_1) rfl ((if0 _ _).trans (tlt hc1).1) (by decide) (by decide) ?_
      show Steps p.tables e below (s₁.setTop (mkF m 20 #[.val (.int p1)] [])) _
      refine XS.aconstNull X0.here hx rfl (hb hby d1_20) ?_
      exact k)
    obtain ⟨fs3, hr3, hrun3, hended3, hW3, hsame3⟩ := X0.leave (v := some .null) (fun h => by rw [Bd.returns] at h; cases h)
    refine ⟨_, _, pre2 _ ?_, hrun3, hended3, _, _, rfl, ?_, ⟨_, rfl⟩, hW3, hsame3.mono (by decide) (by decide)⟩
    · show Steps p.tables e below (s₁.setTop (mkF m 21 #[.val (.int p1)] [.null])) _
      exact retOut X0 hx (t := (.object "com/example/cafelens/cafelens/classfile/ConstantKind")) Bd.returns rfl (Or.inr (Or.inr (Or.inr (Or.inr ⟨rfl, rfl, rfl⟩)))) (hb hby d1_21) hr3
    · show Q1 Z w2 cl u p1 h0 n0 _ s₁.heap _
      rw [e0]
      exact ⟨by first | rw [own_val_neg hc1] | rw [own_val_out hc9], N0, rfl⟩
  obtain ⟨T4, X4, e4, st4⟩ := getS2 X0 hx hZ hown (host := "") (Or.inl (hw _ (List.mem_of_getElem? (i := 4) rfl))) Via.refl e0 SB (g := (mkF m 5 #[.val (.int p1)] [(.int p1)])) rfl (hb hby d1_5)
  have pre5 : ∀ t, Steps p.tables e below (T4.setTop (mkF m 9 #[.val (.int p1)] [(.int (21 : Int32)), (.int p1)])) t → Steps p.tables e below (s₁.setTop (entryFrame m #[(.int p1)] 1)) t := fun t k => pre1 t (by
    show Steps p.tables e below (s₁.setTop (mkF m 1 #[.val (.int p1)] [(.int p1)])) _
    refine XS.ifNo X0.here hx rfl (hb hby d1_1) rfl ((if0 _ _).trans (flt hc1).1) ?_
    show Steps p.tables e below (s₁.setTop (mkF m 4 #[.val (.int p1)] [])) _
    refine XS.iloadN X0.here hx rfl (hb hby d1_4) rfl ?_
    show Steps p.tables e below (s₁.setTop (mkF m 5 #[.val (.int p1)] [(.int p1)])) _
    refine st4 _ ?_
    show Steps p.tables e below (T4.setTop (mkF m 8 #[.val (.int p1)] [(.ref w2), (.int p1)])) _
    refine X4.arraylength hx (by rw [e4]; exact AB.1) (State.isArrayOf_alike hZ.alike AB.2.1) (g := (mkF m 8 #[.val (.int p1)] [(.ref w2), (.int p1)])) rfl rfl (hb hby d1_8) _ ?_
    rw [len_of (z := 21) szB (by decide)]
    exact k)
  by_cases hc9 : p1 < (21 : Int32)
  · obtain ⟨T6, X6, e6, st6⟩ := getS2 X4 hx hZ hown (host := "") (Or.inl (hw _ (List.mem_of_getElem? (i := 4) rfl))) Via.refl e4 SB (g := (mkF m 12 #[.val (.int p1)] [])) rfl (hb hby d1_12)
    have hnn : p1.toNatClampNeg < 21 := by
      rw [Int32.lt_iff_toInt_lt] at hc1 hc9
      have e1 : (0 : Int32).toInt = 0 := rfl
      have e2 : (21 : Int32).toInt = 21 := rfl
      have e3 : p1.toNatClampNeg = p1.toInt.toNat := rfl
      omega
    have hin : ¬ (p1 < 0 ∨ cl.slots.size ≤ p1.toNatClampNeg) := inb_of szB ⟨hc1, hc9⟩
    have hat := U _ hnn
    have hv := hu _ hnn
    have pre7 : ∀ t, Steps p.tables e below (T6.setTop (mkF m 21 #[.val (.int p1)] [(u p1.toNatClampNeg)])) t → Steps p.tables e below (s₁.setTop (entryFrame m #[(.int p1)] 1)) t := fun t k => pre5 t (by
      show Steps p.tables e below (T4.setTop (mkF m 9 #[.val (.int p1)] [(.int (21 : Int32)), (.int p1)])) _
      refine XS.icmpNo X4.here hx rfl (hb hby d1_9) rfl (tlt hc9).2.1 ?_
      show Steps p.tables e below (T4.setTop (mkF m 12 #[.val (.int p1)] [])) _
      refine st6 _ ?_
      show Steps p.tables e below (T6.setTop (mkF m 15 #[.val (.int p1)] [(.ref w2)])) _
      refine XS.iloadN X6.here hx rfl (hb hby d1_15) rfl ?_
      show Steps p.tables e below (T6.setTop (mkF m 16 #[.val (.int p1)] [(.int p1), (.ref w2)])) _
      refine X6.aaload hx (j := p1) (v := u p1.toNatClampNeg) (by rw [e6]; exact AB.1) (State.isArrayOf_alike hZ.alike AB.2.1) rfl AB.2.2 hin hat (g := (mkF m 16 #[.val (.int p1)] [(.int p1), (.ref w2)])) rfl rfl (hb hby d1_16) _ ?_
      show Steps p.tables e below (T6.setTop (mkF m 17 #[.val (.int p1)] [(u p1.toNatClampNeg)])) _
      refine XS.goto X6.here hx rfl (pc0 := 17) (pc' := 21) rfl (hb hby d1_17) (by decide) (by decide) ?_
      exact k)
    obtain ⟨fs8, hr8, hrun8, hended8, hW8, hsame8⟩ := X6.leave (v := some (u p1.toNatClampNeg)) (fun h => by rw [Bd.returns] at h; cases h)
    refine ⟨_, _, pre7 _ ?_, hrun8, hended8, _, _, rfl, ?_, ⟨_, rfl⟩, hW8, hsame8.mono (by decide) (by decide)⟩
    · show Steps p.tables e below (T6.setTop (mkF m 21 #[.val (.int p1)] [(u p1.toNatClampNeg)])) _
      exact retOut X6 hx (t := (.object "com/example/cafelens/cafelens/classfile/ConstantKind")) Bd.returns rfl (Or.inr (Or.inr (Or.inr (Or.inr ⟨rfl, rfl, hv⟩)))) (hb hby d1_21) hr8
    · show Q1 Z w2 cl u p1 h0 n0 _ T6.heap _
      rw [e6]
      exact ⟨by rw [own_val_in hc1 hc9], N0, rfl⟩
  have pre9 : ∀ t, Steps p.tables e below (T4.setTop (mkF m 21 #[.val (.int p1)] [.null])) t → Steps p.tables e below (s₁.setTop (entryFrame m #[(.int p1)] 1)) t := fun t k => pre5 t (by
    show Steps p.tables e below (T4.setTop (mkF m 9 #[.val (.int p1)] [(.int (21 : Int32)), (.int p1)])) _
    refine XS.icmpYes X4.here hx rfl (pc0 := 9) (pc' := 20) rfl (hb hby d1_9) rfl (flt hc9).2.1 (by decide) (by decide) ?_
    show Steps p.tables e below (T4.setTop (mkF m 20 #[.val (.int p1)] [])) _
    refine XS.aconstNull X4.here hx rfl (hb hby d1_20) ?_
    exact k)
  obtain ⟨fs10, hr10, hrun10, hended10, hW10, hsame10⟩ := X4.leave (v := some .null) (fun h => by rw [Bd.returns] at h; cases h)
  refine ⟨_, _, pre9 _ ?_, hrun10, hended10, _, _, rfl, ?_, ⟨_, rfl⟩, hW10, hsame10.mono (by decide) (by decide)⟩
  · show Steps p.tables e below (T4.setTop (mkF m 21 #[.val (.int p1)] [.null])) _
    exact retOut X4 hx (t := (.object "com/example/cafelens/cafelens/classfile/ConstantKind")) Bd.returns rfl (Or.inr (Or.inr (Or.inr (Or.inr ⟨rfl, rfl, rfl⟩)))) (hb hby d1_21) hr10
  · show Q1 Z w2 cl u p1 h0 n0 _ T4.heap _
    rw [e4]
    exact ⟨by first | rw [own_val_neg hc1] | rw [own_val_out hc9], N0, rfl⟩

theorem ef_2 (m : MethodId) (x0 : Int32)  : entryFrame m #[(.int x0)] 1 = mkF m 0 #[.val (.int x0)] [] := by first | (simp [entryFrame, mkF, argsToLocals, Value.category]; done) | rfl
def Q2 (Z : State) (w2 : Addr) (cl : Cell) (u : Nat → Value) (p1 : Int32) (h0 : Heap) (n0 : Nat) (v : Option Value) (h : Heap) (L : List Loc) : Prop := v = some (own_val u p1) ∧ Fr n0 L ∧ h = h0
set_option maxRecDepth 65536 in
set_option maxHeartbeats 40000000 in
theorem rm2 (l : Launch) (Z : State) (a0 : Array Value) (hw : ∀ d ∈ tables_1, d.before a0 Z = true) (ws : List Jvm.Cond) (w2 : Addr) (cl : Cell) (u : Nat → Value) (p1 : Int32) (h0 : Heap) (n0 : Nat) (Z0 : n0 ≤ h0.size) (OK : own_ok Z h0 w2 cl u) :
    MetFree l (⟨"com/example/cafelens/cafelens/classfile/ConstantKindOfTagPinLaw", "expected", "(I)Lcom/example/cafelens/cafelens/classfile/ConstantKind;"⟩ : MethodName) (head1 (Jvm.Cond.code (⟨"com/example/cafelens/cafelens/classfile/ConstantKindOfTagPinLaw", "expected", "(I)Lcom/example/cafelens/cafelens/classfile/ConstantKind;"⟩ : MethodName) method_2_code 1 (some (.object "com/example/cafelens/cafelens/classfile/ConstantKind")) :: ws) ({ frames := 0, cells := 0, slots := 0, locals := 0 } : Room)) (fun a U => a = #[(.int p1)] ∧ Z.Warmed39 U.vm ∧ U.heap = h0) (fun _ _ _ _ _ => True) (fun _ U o U' => ∃ v L, o = .returned v ∧ Q2 Z w2 cl u p1 h0 n0 v U'.heap L ∧ FrameEnd U o U' L ({ frames := 0, cells := 0, slots := 0, locals := 0 } : Room).cells ({ frames := 0, cells := 0, slots := 0, locals := 0 } : Room).slots) := by
  refine MetFree.of_bodySF (plainFor_of_name pn_0) hisR ?_
  intro p e s m args below meth c s₁ Bd hml0 hP hK
  obtain ⟨rfl, hZ, hh⟩ := hP
  have hx := Bd.exec
  have hby := Bd.bytes
  have hml : c.maxLocals = 1 := hml0
  have hown : s.vm.findClass "com/example/cafelens/cafelens/classfile/ConstantKindOfTagPinLaw" = some m.cls := findClass_of_methodNamed Bd.named
  have hnm := (name_of_methodNamed Bd.named Bd.method).1
  have X0 : Stand p l e ({ frames := 0, cells := 0, slots := 0, locals := 0 } : Room) s m #[(.int p1)] below meth c s₁ [] 0 0 := Stand.of_body Bd
  have e0 : s₁.heap = h0 := by rw [← hh, Bd.state]; rfl
  have N0 := Fr.nil n0
  have pre0 : ∀ t, Steps p.tables e below (s₁.setTop (mkF m 0 #[.val (.int p1)] [])) t → Steps p.tables e below (s₁.setTop (entryFrame m #[(.int p1)] 1)) t := fun t k => castTop (ef_2 m p1) k
  have OK0 := OK
  obtain ⟨SB, AB, szB, U, hu, u0, u2, u13, u14, S1, S3, S4, S5, S6, S7, S8, S9, S10, S11, S12, S15, S16, S17, S18, S19, S20⟩ := OK0
  have pre1 : ∀ t, Steps p.tables e below (s₁.setTop (mkF m 2 #[.val (.int p1)] [(.int (1 : Int32)), (.int p1)])) t → Steps p.tables e below (s₁.setTop (entryFrame m #[(.int p1)] 1)) t := fun t k => pre0 t (by
    show Steps p.tables e below (s₁.setTop (mkF m 0 #[.val (.int p1)] [])) _
    refine XS.iloadN X0.here hx rfl (hb hby d2_0) rfl ?_
    show Steps p.tables e below (s₁.setTop (mkF m 1 #[.val (.int p1)] [(.int p1)])) _
    refine XS.iconst X0.here hx rfl (hb hby d2_1) ?_
    exact k)
  by_cases hc2 : p1 = (1 : Int32)
  · obtain ⟨T2, X2, e2, st2⟩ := getS2 X0 hx hZ hown (host := "") (Or.inl (hw _ (List.mem_of_getElem? (i := 13) rfl))) Via.refl e0 S1 (g := (mkF m 5 #[.val (.int p1)] [])) rfl (hb hby d2_5)
    have pre3 : ∀ t, Steps p.tables e below (T2.setTop (mkF m 8 #[.val (.int p1)] [(u 1)])) t → Steps p.tables e below (s₁.setTop (entryFrame m #[(.int p1)] 1)) t := fun t k => pre1 t (by
      show Steps p.tables e below (s₁.setTop (mkF m 2 #[.val (.int p1)] [(.int (1 : Int32)), (.int p1)])) _
      refine XS.icmpNo X0.here hx rfl (hb hby d2_2) rfl (teq hc2).2 ?_
      show Steps p.tables e below (s₁.setTop (mkF m 5 #[.val (.int p1)] [])) _
      refine st2 _ ?_
      exact k)
    obtain ⟨fs4, hr4, hrun4, hended4, hW4, hsame4⟩ := X2.leave (v := some (u 1)) (fun h => by rw [Bd.returns] at h; cases h)
    refine ⟨_, _, pre3 _ ?_, hrun4, hended4, _, _, rfl, ?_, ⟨_, rfl⟩, hW4, hsame4.mono (by decide) (by decide)⟩
    · show Steps p.tables e below (T2.setTop (mkF m 8 #[.val (.int p1)] [(u 1)])) _
      exact retOut X2 hx (t := (.object "com/example/cafelens/cafelens/classfile/ConstantKind")) Bd.returns rfl (Or.inr (Or.inr (Or.inr (Or.inr ⟨rfl, rfl, (hu 1 (by decide))⟩)))) (hb hby d2_8) hr4
    · show Q2 Z w2 cl u p1 h0 n0 _ T2.heap _
      rw [e2]
      exact ⟨by rw [hc2]; exact congrArg some (own_val_in (u := u) (t := 1) (by decide) (by decide)).symm, N0, rfl⟩
  have pre5 : ∀ t, Steps p.tables e below (s₁.setTop (mkF m 11 #[.val (.int p1)] [(.int (3 : Int32)), (.int p1)])) t → Steps p.tables e below (s₁.setTop (entryFrame m #[(.int p1)] 1)) t := fun t k => pre1 t (by
    show Steps p.tables e below (s₁.setTop (mkF m 2 #[.val (.int p1)] [(.int (1 : Int32)), (.int p1)])) _
    refine XS.icmpYes X0.here hx rfl (pc0 := 2) (pc' := 9) rfl (hb hby d2_2) rfl (feq hc2).2 (by decide) (by decide) ?_
    show Steps p.tables e below (s₁.setTop (mkF m 9 #[.val (.int p1)] [])) _
    refine XS.iloadN X0.here hx rfl (hb hby d2_9) rfl ?_
    show Steps p.tables e below (s₁.setTop (mkF m 10 #[.val (.int p1)] [(.int p1)])) _
    refine XS.iconst X0.here hx rfl (hb hby d2_10) ?_
    exact k)
  by_cases hc11 : p1 = (3 : Int32)
  · obtain ⟨T6, X6, e6, st6⟩ := getS2 X0 hx hZ hown (host := "") (Or.inl (hw _ (List.mem_of_getElem? (i := 11) rfl))) Via.refl e0 S3 (g := (mkF m 14 #[.val (.int p1)] [])) rfl (hb hby d2_14)
    have pre7 : ∀ t, Steps p.tables e below (T6.setTop (mkF m 17 #[.val (.int p1)] [(u 3)])) t → Steps p.tables e below (s₁.setTop (entryFrame m #[(.int p1)] 1)) t := fun t k => pre5 t (by
      show Steps p.tables e below (s₁.setTop (mkF m 11 #[.val (.int p1)] [(.int (3 : Int32)), (.int p1)])) _
      refine XS.icmpNo X0.here hx rfl (hb hby d2_11) rfl (teq hc11).2 ?_
      show Steps p.tables e below (s₁.setTop (mkF m 14 #[.val (.int p1)] [])) _
      refine st6 _ ?_
      exact k)
    obtain ⟨fs8, hr8, hrun8, hended8, hW8, hsame8⟩ := X6.leave (v := some (u 3)) (fun h => by rw [Bd.returns] at h; cases h)
    refine ⟨_, _, pre7 _ ?_, hrun8, hended8, _, _, rfl, ?_, ⟨_, rfl⟩, hW8, hsame8.mono (by decide) (by decide)⟩
    · show Steps p.tables e below (T6.setTop (mkF m 17 #[.val (.int p1)] [(u 3)])) _
      exact retOut X6 hx (t := (.object "com/example/cafelens/cafelens/classfile/ConstantKind")) Bd.returns rfl (Or.inr (Or.inr (Or.inr (Or.inr ⟨rfl, rfl, (hu 3 (by decide))⟩)))) (hb hby d2_17) hr8
    · show Q2 Z w2 cl u p1 h0 n0 _ T6.heap _
      rw [e6]
      exact ⟨by rw [hc11]; exact congrArg some (own_val_in (u := u) (t := 3) (by decide) (by decide)).symm, N0, rfl⟩
  have pre9 : ∀ t, Steps p.tables e below (s₁.setTop (mkF m 20 #[.val (.int p1)] [(.int (4 : Int32)), (.int p1)])) t → Steps p.tables e below (s₁.setTop (entryFrame m #[(.int p1)] 1)) t := fun t k => pre5 t (by
    show Steps p.tables e below (s₁.setTop (mkF m 11 #[.val (.int p1)] [(.int (3 : Int32)), (.int p1)])) _
    refine XS.icmpYes X0.here hx rfl (pc0 := 11) (pc' := 18) rfl (hb hby d2_11) rfl (feq hc11).2 (by decide) (by decide) ?_
    show Steps p.tables e below (s₁.setTop (mkF m 18 #[.val (.int p1)] [])) _
    refine XS.iloadN X0.here hx rfl (hb hby d2_18) rfl ?_
    show Steps p.tables e below (s₁.setTop (mkF m 19 #[.val (.int p1)] [(.int p1)])) _
    refine XS.iconst X0.here hx rfl (hb hby d2_19) ?_
    exact k)
  by_cases hc20 : p1 = (4 : Int32)
  · obtain ⟨T10, X10, e10, st10⟩ := getS2 X0 hx hZ hown (host := "") (Or.inl (hw _ (List.mem_of_getElem? (i := 31) rfl))) Via.refl e0 S4 (g := (mkF m 23 #[.val (.int p1)] [])) rfl (hb hby d2_23)
    have pre11 : ∀ t, Steps p.tables e below (T10.setTop (mkF m 26 #[.val (.int p1)] [(u 4)])) t → Steps p.tables e below (s₁.setTop (entryFrame m #[(.int p1)] 1)) t := fun t k => pre9 t (by
      show Steps p.tables e below (s₁.setTop (mkF m 20 #[.val (.int p1)] [(.int (4 : Int32)), (.int p1)])) _
      refine XS.icmpNo X0.here hx rfl (hb hby d2_20) rfl (teq hc20).2 ?_
      show Steps p.tables e below (s₁.setTop (mkF m 23 #[.val (.int p1)] [])) _
      refine st10 _ ?_
      exact k)
    obtain ⟨fs12, hr12, hrun12, hended12, hW12, hsame12⟩ := X10.leave (v := some (u 4)) (fun h => by rw [Bd.returns] at h; cases h)
    refine ⟨_, _, pre11 _ ?_, hrun12, hended12, _, _, rfl, ?_, ⟨_, rfl⟩, hW12, hsame12.mono (by decide) (by decide)⟩
    · show Steps p.tables e below (T10.setTop (mkF m 26 #[.val (.int p1)] [(u 4)])) _
      exact retOut X10 hx (t := (.object "com/example/cafelens/cafelens/classfile/ConstantKind")) Bd.returns rfl (Or.inr (Or.inr (Or.inr (Or.inr ⟨rfl, rfl, (hu 4 (by decide))⟩)))) (hb hby d2_26) hr12
    · show Q2 Z w2 cl u p1 h0 n0 _ T10.heap _
      rw [e10]
      exact ⟨by rw [hc20]; exact congrArg some (own_val_in (u := u) (t := 4) (by decide) (by decide)).symm, N0, rfl⟩
  have pre13 : ∀ t, Steps p.tables e below (s₁.setTop (mkF m 29 #[.val (.int p1)] [(.int (5 : Int32)), (.int p1)])) t → Steps p.tables e below (s₁.setTop (entryFrame m #[(.int p1)] 1)) t := fun t k => pre9 t (by
    show Steps p.tables e below (s₁.setTop (mkF m 20 #[.val (.int p1)] [(.int (4 : Int32)), (.int p1)])) _
    refine XS.icmpYes X0.here hx rfl (pc0 := 20) (pc' := 27) rfl (hb hby d2_20) rfl (feq hc20).2 (by decide) (by decide) ?_
    show Steps p.tables e below (s₁.setTop (mkF m 27 #[.val (.int p1)] [])) _
    refine XS.iloadN X0.here hx rfl (hb hby d2_27) rfl ?_
    show Steps p.tables e below (s₁.setTop (mkF m 28 #[.val (.int p1)] [(.int p1)])) _
    refine XS.iconst X0.here hx rfl (hb hby d2_28) ?_
    exact k)
  by_cases hc29 : p1 = (5 : Int32)
  · obtain ⟨T14, X14, e14, st14⟩ := getS2 X0 hx hZ hown (host := "") (Or.inl (hw _ (List.mem_of_getElem? (i := 23) rfl))) Via.refl e0 S5 (g := (mkF m 32 #[.val (.int p1)] [])) rfl (hb hby d2_32)
    have pre15 : ∀ t, Steps p.tables e below (T14.setTop (mkF m 35 #[.val (.int p1)] [(u 5)])) t → Steps p.tables e below (s₁.setTop (entryFrame m #[(.int p1)] 1)) t := fun t k => pre13 t (by
      show Steps p.tables e below (s₁.setTop (mkF m 29 #[.val (.int p1)] [(.int (5 : Int32)), (.int p1)])) _
      refine XS.icmpNo X0.here hx rfl (hb hby d2_29) rfl (teq hc29).2 ?_
      show Steps p.tables e below (s₁.setTop (mkF m 32 #[.val (.int p1)] [])) _
      refine st14 _ ?_
      exact k)
    obtain ⟨fs16, hr16, hrun16, hended16, hW16, hsame16⟩ := X14.leave (v := some (u 5)) (fun h => by rw [Bd.returns] at h; cases h)
    refine ⟨_, _, pre15 _ ?_, hrun16, hended16, _, _, rfl, ?_, ⟨_, rfl⟩, hW16, hsame16.mono (by decide) (by decide)⟩
    · show Steps p.tables e below (T14.setTop (mkF m 35 #[.val (.int p1)] [(u 5)])) _
      exact retOut X14 hx (t := (.object "com/example/cafelens/cafelens/classfile/ConstantKind")) Bd.returns rfl (Or.inr (Or.inr (Or.inr (Or.inr ⟨rfl, rfl, (hu 5 (by decide))⟩)))) (hb hby d2_35) hr16
    · show Q2 Z w2 cl u p1 h0 n0 _ T14.heap _
      rw [e14]
      exact ⟨by rw [hc29]; exact congrArg some (own_val_in (u := u) (t := 5) (by decide) (by decide)).symm, N0, rfl⟩
  have pre17 : ∀ t, Steps p.tables e below (s₁.setTop (mkF m 39 #[.val (.int p1)] [(.int (6 : Int32)), (.int p1)])) t → Steps p.tables e below (s₁.setTop (entryFrame m #[(.int p1)] 1)) t := fun t k => pre13 t (by
    show Steps p.tables e below (s₁.setTop (mkF m 29 #[.val (.int p1)] [(.int (5 : Int32)), (.int p1)])) _
    refine XS.icmpYes X0.here hx rfl (pc0 := 29) (pc' := 36) rfl (hb hby d2_29) rfl (feq hc29).2 (by decide) (by decide) ?_
    show Steps p.tables e below (s₁.setTop (mkF m 36 #[.val (.int p1)] [])) _
    refine XS.iloadN X0.here hx rfl (hb hby d2_36) rfl ?_
    show Steps p.tables e below (s₁.setTop (mkF m 37 #[.val (.int p1)] [(.int p1)])) _
    refine XS.bipush X0.here hx rfl (hb hby d2_37) ?_
    exact k)
  by_cases hc39 : p1 = (6 : Int32)
  · obtain ⟨T18, X18, e18, st18⟩ := getS2 X0 hx hZ hown (host := "") (Or.inl (hw _ (List.mem_of_getElem? (i := 17) rfl))) Via.refl e0 S6 (g := (mkF m 42 #[.val (.int p1)] [])) rfl (hb hby d2_42)
    have pre19 : ∀ t, Steps p.tables e below (T18.setTop (mkF m 45 #[.val (.int p1)] [(u 6)])) t → Steps p.tables e below (s₁.setTop (entryFrame m #[(.int p1)] 1)) t := fun t k => pre17 t (by
      show Steps p.tables e below (s₁.setTop (mkF m 39 #[.val (.int p1)] [(.int (6 : Int32)), (.int p1)])) _
      refine XS.icmpNo X0.here hx rfl (hb hby d2_39) rfl (teq hc39).2 ?_
      show Steps p.tables e below (s₁.setTop (mkF m 42 #[.val (.int p1)] [])) _
      refine st18 _ ?_
      exact k)
    obtain ⟨fs20, hr20, hrun20, hended20, hW20, hsame20⟩ := X18.leave (v := some (u 6)) (fun h => by rw [Bd.returns] at h; cases h)
    refine ⟨_, _, pre19 _ ?_, hrun20, hended20, _, _, rfl, ?_, ⟨_, rfl⟩, hW20, hsame20.mono (by decide) (by decide)⟩
    · show Steps p.tables e below (T18.setTop (mkF m 45 #[.val (.int p1)] [(u 6)])) _
      exact retOut X18 hx (t := (.object "com/example/cafelens/cafelens/classfile/ConstantKind")) Bd.returns rfl (Or.inr (Or.inr (Or.inr (Or.inr ⟨rfl, rfl, (hu 6 (by decide))⟩)))) (hb hby d2_45) hr20
    · show Q2 Z w2 cl u p1 h0 n0 _ T18.heap _
      rw [e18]
      exact ⟨by rw [hc39]; exact congrArg some (own_val_in (u := u) (t := 6) (by decide) (by decide)).symm, N0, rfl⟩
  have pre21 : ∀ t, Steps p.tables e below (s₁.setTop (mkF m 49 #[.val (.int p1)] [(.int (7 : Int32)), (.int p1)])) t → Steps p.tables e below (s₁.setTop (entryFrame m #[(.int p1)] 1)) t := fun t k => pre17 t (by
    show Steps p.tables e below (s₁.setTop (mkF m 39 #[.val (.int p1)] [(.int (6 : Int32)), (.int p1)])) _
    refine XS.icmpYes X0.here hx rfl (pc0 := 39) (pc' := 46) rfl (hb hby d2_39) rfl (feq hc39).2 (by decide) (by decide) ?_
    show Steps p.tables e below (s₁.setTop (mkF m 46 #[.val (.int p1)] [])) _
    refine XS.iloadN X0.here hx rfl (hb hby d2_46) rfl ?_
    show Steps p.tables e below (s₁.setTop (mkF m 47 #[.val (.int p1)] [(.int p1)])) _
    refine XS.bipush X0.here hx rfl (hb hby d2_47) ?_
    exact k)
  by_cases hc49 : p1 = (7 : Int32)
  · obtain ⟨T22, X22, e22, st22⟩ := getS2 X0 hx hZ hown (host := "") (Or.inl (hw _ (List.mem_of_getElem? (i := 25) rfl))) Via.refl e0 S7 (g := (mkF m 52 #[.val (.int p1)] [])) rfl (hb hby d2_52)
    have pre23 : ∀ t, Steps p.tables e below (T22.setTop (mkF m 55 #[.val (.int p1)] [(u 7)])) t → Steps p.tables e below (s₁.setTop (entryFrame m #[(.int p1)] 1)) t := fun t k => pre21 t (by
      show Steps p.tables e below (s₁.setTop (mkF m 49 #[.val (.int p1)] [(.int (7 : Int32)), (.int p1)])) _
      refine XS.icmpNo X0.here hx rfl (hb hby d2_49) rfl (teq hc49).2 ?_
      show Steps p.tables e below (s₁.setTop (mkF m 52 #[.val (.int p1)] [])) _
      refine st22 _ ?_
      exact k)
    obtain ⟨fs24, hr24, hrun24, hended24, hW24, hsame24⟩ := X22.leave (v := some (u 7)) (fun h => by rw [Bd.returns] at h; cases h)
    refine ⟨_, _, pre23 _ ?_, hrun24, hended24, _, _, rfl, ?_, ⟨_, rfl⟩, hW24, hsame24.mono (by decide) (by decide)⟩
    · show Steps p.tables e below (T22.setTop (mkF m 55 #[.val (.int p1)] [(u 7)])) _
      exact retOut X22 hx (t := (.object "com/example/cafelens/cafelens/classfile/ConstantKind")) Bd.returns rfl (Or.inr (Or.inr (Or.inr (Or.inr ⟨rfl, rfl, (hu 7 (by decide))⟩)))) (hb hby d2_55) hr24
    · show Q2 Z w2 cl u p1 h0 n0 _ T22.heap _
      rw [e22]
      exact ⟨by rw [hc49]; exact congrArg some (own_val_in (u := u) (t := 7) (by decide) (by decide)).symm, N0, rfl⟩
  have pre25 : ∀ t, Steps p.tables e below (s₁.setTop (mkF m 59 #[.val (.int p1)] [(.int (8 : Int32)), (.int p1)])) t → Steps p.tables e below (s₁.setTop (entryFrame m #[(.int p1)] 1)) t := fun t k => pre21 t (by
    show Steps p.tables e below (s₁.setTop (mkF m 49 #[.val (.int p1)] [(.int (7 : Int32)), (.int p1)])) _
    refine XS.icmpYes X0.here hx rfl (pc0 := 49) (pc' := 56) rfl (hb hby d2_49) rfl (feq hc49).2 (by decide) (by decide) ?_
    show Steps p.tables e below (s₁.setTop (mkF m 56 #[.val (.int p1)] [])) _
    refine XS.iloadN X0.here hx rfl (hb hby d2_56) rfl ?_
    show Steps p.tables e below (s₁.setTop (mkF m 57 #[.val (.int p1)] [(.int p1)])) _
    refine XS.bipush X0.here hx rfl (hb hby d2_57) ?_
    exact k)
  by_cases hc59 : p1 = (8 : Int32)
  · obtain ⟨T26, X26, e26, st26⟩ := getS2 X0 hx hZ hown (host := "") (Or.inl (hw _ (List.mem_of_getElem? (i := 19) rfl))) Via.refl e0 S8 (g := (mkF m 62 #[.val (.int p1)] [])) rfl (hb hby d2_62)
    have pre27 : ∀ t, Steps p.tables e below (T26.setTop (mkF m 65 #[.val (.int p1)] [(u 8)])) t → Steps p.tables e below (s₁.setTop (entryFrame m #[(.int p1)] 1)) t := fun t k => pre25 t (by
      show Steps p.tables e below (s₁.setTop (mkF m 59 #[.val (.int p1)] [(.int (8 : Int32)), (.int p1)])) _
      refine XS.icmpNo X0.here hx rfl (hb hby d2_59) rfl (teq hc59).2 ?_
      show Steps p.tables e below (s₁.setTop (mkF m 62 #[.val (.int p1)] [])) _
      refine st26 _ ?_
      exact k)
    obtain ⟨fs28, hr28, hrun28, hended28, hW28, hsame28⟩ := X26.leave (v := some (u 8)) (fun h => by rw [Bd.returns] at h; cases h)
    refine ⟨_, _, pre27 _ ?_, hrun28, hended28, _, _, rfl, ?_, ⟨_, rfl⟩, hW28, hsame28.mono (by decide) (by decide)⟩
    · show Steps p.tables e below (T26.setTop (mkF m 65 #[.val (.int p1)] [(u 8)])) _
      exact retOut X26 hx (t := (.object "com/example/cafelens/cafelens/classfile/ConstantKind")) Bd.returns rfl (Or.inr (Or.inr (Or.inr (Or.inr ⟨rfl, rfl, (hu 8 (by decide))⟩)))) (hb hby d2_65) hr28
    · show Q2 Z w2 cl u p1 h0 n0 _ T26.heap _
      rw [e26]
      exact ⟨by rw [hc59]; exact congrArg some (own_val_in (u := u) (t := 8) (by decide) (by decide)).symm, N0, rfl⟩
  have pre29 : ∀ t, Steps p.tables e below (s₁.setTop (mkF m 69 #[.val (.int p1)] [(.int (9 : Int32)), (.int p1)])) t → Steps p.tables e below (s₁.setTop (entryFrame m #[(.int p1)] 1)) t := fun t k => pre25 t (by
    show Steps p.tables e below (s₁.setTop (mkF m 59 #[.val (.int p1)] [(.int (8 : Int32)), (.int p1)])) _
    refine XS.icmpYes X0.here hx rfl (pc0 := 59) (pc' := 66) rfl (hb hby d2_59) rfl (feq hc59).2 (by decide) (by decide) ?_
    show Steps p.tables e below (s₁.setTop (mkF m 66 #[.val (.int p1)] [])) _
    refine XS.iloadN X0.here hx rfl (hb hby d2_66) rfl ?_
    show Steps p.tables e below (s₁.setTop (mkF m 67 #[.val (.int p1)] [(.int p1)])) _
    refine XS.bipush X0.here hx rfl (hb hby d2_67) ?_
    exact k)
  by_cases hc69 : p1 = (9 : Int32)
  · obtain ⟨T30, X30, e30, st30⟩ := getS2 X0 hx hZ hown (host := "") (Or.inl (hw _ (List.mem_of_getElem? (i := 37) rfl))) Via.refl e0 S9 (g := (mkF m 72 #[.val (.int p1)] [])) rfl (hb hby d2_72)
    have pre31 : ∀ t, Steps p.tables e below (T30.setTop (mkF m 75 #[.val (.int p1)] [(u 9)])) t → Steps p.tables e below (s₁.setTop (entryFrame m #[(.int p1)] 1)) t := fun t k => pre29 t (by
      show Steps p.tables e below (s₁.setTop (mkF m 69 #[.val (.int p1)] [(.int (9 : Int32)), (.int p1)])) _
      refine XS.icmpNo X0.here hx rfl (hb hby d2_69) rfl (teq hc69).2 ?_
      show Steps p.tables e below (s₁.setTop (mkF m 72 #[.val (.int p1)] [])) _
      refine st30 _ ?_
      exact k)
    obtain ⟨fs32, hr32, hrun32, hended32, hW32, hsame32⟩ := X30.leave (v := some (u 9)) (fun h => by rw [Bd.returns] at h; cases h)
    refine ⟨_, _, pre31 _ ?_, hrun32, hended32, _, _, rfl, ?_, ⟨_, rfl⟩, hW32, hsame32.mono (by decide) (by decide)⟩
    · show Steps p.tables e below (T30.setTop (mkF m 75 #[.val (.int p1)] [(u 9)])) _
      exact retOut X30 hx (t := (.object "com/example/cafelens/cafelens/classfile/ConstantKind")) Bd.returns rfl (Or.inr (Or.inr (Or.inr (Or.inr ⟨rfl, rfl, (hu 9 (by decide))⟩)))) (hb hby d2_75) hr32
    · show Q2 Z w2 cl u p1 h0 n0 _ T30.heap _
      rw [e30]
      exact ⟨by rw [hc69]; exact congrArg some (own_val_in (u := u) (t := 9) (by decide) (by decide)).symm, N0, rfl⟩
  have pre33 : ∀ t, Steps p.tables e below (s₁.setTop (mkF m 79 #[.val (.int p1)] [(.int (10 : Int32)), (.int p1)])) t → Steps p.tables e below (s₁.setTop (entryFrame m #[(.int p1)] 1)) t := fun t k => pre29 t (by
    show Steps p.tables e below (s₁.setTop (mkF m 69 #[.val (.int p1)] [(.int (9 : Int32)), (.int p1)])) _
    refine XS.icmpYes X0.here hx rfl (pc0 := 69) (pc' := 76) rfl (hb hby d2_69) rfl (feq hc69).2 (by decide) (by decide) ?_
    show Steps p.tables e below (s₁.setTop (mkF m 76 #[.val (.int p1)] [])) _
    refine XS.iloadN X0.here hx rfl (hb hby d2_76) rfl ?_
    show Steps p.tables e below (s₁.setTop (mkF m 77 #[.val (.int p1)] [(.int p1)])) _
    refine XS.bipush X0.here hx rfl (hb hby d2_77) ?_
    exact k)
  by_cases hc79 : p1 = (10 : Int32)
  · obtain ⟨T34, X34, e34, st34⟩ := getS2 X0 hx hZ hown (host := "") (Or.inl (hw _ (List.mem_of_getElem? (i := 27) rfl))) Via.refl e0 S10 (g := (mkF m 82 #[.val (.int p1)] [])) rfl (hb hby d2_82)
    have pre35 : ∀ t, Steps p.tables e below (T34.setTop (mkF m 85 #[.val (.int p1)] [(u 10)])) t → Steps p.tables e below (s₁.setTop (entryFrame m #[(.int p1)] 1)) t := fun t k => pre33 t (by
      show Steps p.tables e below (s₁.setTop (mkF m 79 #[.val (.int p1)] [(.int (10 : Int32)), (.int p1)])) _
      refine XS.icmpNo X0.here hx rfl (hb hby d2_79) rfl (teq hc79).2 ?_
      show Steps p.tables e below (s₁.setTop (mkF m 82 #[.val (.int p1)] [])) _
      refine st34 _ ?_
      exact k)
    obtain ⟨fs36, hr36, hrun36, hended36, hW36, hsame36⟩ := X34.leave (v := some (u 10)) (fun h => by rw [Bd.returns] at h; cases h)
    refine ⟨_, _, pre35 _ ?_, hrun36, hended36, _, _, rfl, ?_, ⟨_, rfl⟩, hW36, hsame36.mono (by decide) (by decide)⟩
    · show Steps p.tables e below (T34.setTop (mkF m 85 #[.val (.int p1)] [(u 10)])) _
      exact retOut X34 hx (t := (.object "com/example/cafelens/cafelens/classfile/ConstantKind")) Bd.returns rfl (Or.inr (Or.inr (Or.inr (Or.inr ⟨rfl, rfl, (hu 10 (by decide))⟩)))) (hb hby d2_85) hr36
    · show Q2 Z w2 cl u p1 h0 n0 _ T34.heap _
      rw [e34]
      exact ⟨by rw [hc79]; exact congrArg some (own_val_in (u := u) (t := 10) (by decide) (by decide)).symm, N0, rfl⟩
  have pre37 : ∀ t, Steps p.tables e below (s₁.setTop (mkF m 89 #[.val (.int p1)] [(.int (11 : Int32)), (.int p1)])) t → Steps p.tables e below (s₁.setTop (entryFrame m #[(.int p1)] 1)) t := fun t k => pre33 t (by
    show Steps p.tables e below (s₁.setTop (mkF m 79 #[.val (.int p1)] [(.int (10 : Int32)), (.int p1)])) _
    refine XS.icmpYes X0.here hx rfl (pc0 := 79) (pc' := 86) rfl (hb hby d2_79) rfl (feq hc79).2 (by decide) (by decide) ?_
    show Steps p.tables e below (s₁.setTop (mkF m 86 #[.val (.int p1)] [])) _
    refine XS.iloadN X0.here hx rfl (hb hby d2_86) rfl ?_
    show Steps p.tables e below (s₁.setTop (mkF m 87 #[.val (.int p1)] [(.int p1)])) _
    refine XS.bipush X0.here hx rfl (hb hby d2_87) ?_
    exact k)
  by_cases hc89 : p1 = (11 : Int32)
  · obtain ⟨T38, X38, e38, st38⟩ := getS2 X0 hx hZ hown (host := "") (Or.inl (hw _ (List.mem_of_getElem? (i := 33) rfl))) Via.refl e0 S11 (g := (mkF m 92 #[.val (.int p1)] [])) rfl (hb hby d2_92)
    have pre39 : ∀ t, Steps p.tables e below (T38.setTop (mkF m 95 #[.val (.int p1)] [(u 11)])) t → Steps p.tables e below (s₁.setTop (entryFrame m #[(.int p1)] 1)) t := fun t k => pre37 t (by
      show Steps p.tables e below (s₁.setTop (mkF m 89 #[.val (.int p1)] [(.int (11 : Int32)), (.int p1)])) _
      refine XS.icmpNo X0.here hx rfl (hb hby d2_89) rfl (teq hc89).2 ?_
      show Steps p.tables e below (s₁.setTop (mkF m 92 #[.val (.int p1)] [])) _
      refine st38 _ ?_
      exact k)
    obtain ⟨fs40, hr40, hrun40, hended40, hW40, hsame40⟩ := X38.leave (v := some (u 11)) (fun h => by rw [Bd.returns] at h; cases h)
    refine ⟨_, _, pre39 _ ?_, hrun40, hended40, _, _, rfl, ?_, ⟨_, rfl⟩, hW40, hsame40.mono (by decide) (by decide)⟩
    · show Steps p.tables e below (T38.setTop (mkF m 95 #[.val (.int p1)] [(u 11)])) _
      exact retOut X38 hx (t := (.object "com/example/cafelens/cafelens/classfile/ConstantKind")) Bd.returns rfl (Or.inr (Or.inr (Or.inr (Or.inr ⟨rfl, rfl, (hu 11 (by decide))⟩)))) (hb hby d2_95) hr40
    · show Q2 Z w2 cl u p1 h0 n0 _ T38.heap _
      rw [e38]
      exact ⟨by rw [hc89]; exact congrArg some (own_val_in (u := u) (t := 11) (by decide) (by decide)).symm, N0, rfl⟩
  have pre41 : ∀ t, Steps p.tables e below (s₁.setTop (mkF m 99 #[.val (.int p1)] [(.int (12 : Int32)), (.int p1)])) t → Steps p.tables e below (s₁.setTop (entryFrame m #[(.int p1)] 1)) t := fun t k => pre37 t (by
    show Steps p.tables e below (s₁.setTop (mkF m 89 #[.val (.int p1)] [(.int (11 : Int32)), (.int p1)])) _
    refine XS.icmpYes X0.here hx rfl (pc0 := 89) (pc' := 96) rfl (hb hby d2_89) rfl (feq hc89).2 (by decide) (by decide) ?_
    show Steps p.tables e below (s₁.setTop (mkF m 96 #[.val (.int p1)] [])) _
    refine XS.iloadN X0.here hx rfl (hb hby d2_96) rfl ?_
    show Steps p.tables e below (s₁.setTop (mkF m 97 #[.val (.int p1)] [(.int p1)])) _
    refine XS.bipush X0.here hx rfl (hb hby d2_97) ?_
    exact k)
  by_cases hc99 : p1 = (12 : Int32)
  · obtain ⟨T42, X42, e42, st42⟩ := getS2 X0 hx hZ hown (host := "") (Or.inl (hw _ (List.mem_of_getElem? (i := 22) rfl))) Via.refl e0 S12 (g := (mkF m 102 #[.val (.int p1)] [])) rfl (hb hby d2_102)
    have pre43 : ∀ t, Steps p.tables e below (T42.setTop (mkF m 105 #[.val (.int p1)] [(u 12)])) t → Steps p.tables e below (s₁.setTop (entryFrame m #[(.int p1)] 1)) t := fun t k => pre41 t (by
      show Steps p.tables e below (s₁.setTop (mkF m 99 #[.val (.int p1)] [(.int (12 : Int32)), (.int p1)])) _
      refine XS.icmpNo X0.here hx rfl (hb hby d2_99) rfl (teq hc99).2 ?_
      show Steps p.tables e below (s₁.setTop (mkF m 102 #[.val (.int p1)] [])) _
      refine st42 _ ?_
      exact k)
    obtain ⟨fs44, hr44, hrun44, hended44, hW44, hsame44⟩ := X42.leave (v := some (u 12)) (fun h => by rw [Bd.returns] at h; cases h)
    refine ⟨_, _, pre43 _ ?_, hrun44, hended44, _, _, rfl, ?_, ⟨_, rfl⟩, hW44, hsame44.mono (by decide) (by decide)⟩
    · show Steps p.tables e below (T42.setTop (mkF m 105 #[.val (.int p1)] [(u 12)])) _
      exact retOut X42 hx (t := (.object "com/example/cafelens/cafelens/classfile/ConstantKind")) Bd.returns rfl (Or.inr (Or.inr (Or.inr (Or.inr ⟨rfl, rfl, (hu 12 (by decide))⟩)))) (hb hby d2_105) hr44
    · show Q2 Z w2 cl u p1 h0 n0 _ T42.heap _
      rw [e42]
      exact ⟨by rw [hc99]; exact congrArg some (own_val_in (u := u) (t := 12) (by decide) (by decide)).symm, N0, rfl⟩
  have pre45 : ∀ t, Steps p.tables e below (s₁.setTop (mkF m 109 #[.val (.int p1)] [(.int (15 : Int32)), (.int p1)])) t → Steps p.tables e below (s₁.setTop (entryFrame m #[(.int p1)] 1)) t := fun t k => pre41 t (by
    show Steps p.tables e below (s₁.setTop (mkF m 99 #[.val (.int p1)] [(.int (12 : Int32)), (.int p1)])) _
    refine XS.icmpYes X0.here hx rfl (pc0 := 99) (pc' := 106) rfl (hb hby d2_99) rfl (feq hc99).2 (by decide) (by decide) ?_
    show Steps p.tables e below (s₁.setTop (mkF m 106 #[.val (.int p1)] [])) _
    refine XS.iloadN X0.here hx rfl (hb hby d2_106) rfl ?_
    show Steps p.tables e below (s₁.setTop (mkF m 107 #[.val (.int p1)] [(.int p1)])) _
    refine XS.bipush X0.here hx rfl (hb hby d2_107) ?_
    exact k)
  by_cases hc109 : p1 = (15 : Int32)
  · obtain ⟨T46, X46, e46, st46⟩ := getS2 X0 hx hZ hown (host := "") (Or.inl (hw _ (List.mem_of_getElem? (i := 35) rfl))) Via.refl e0 S15 (g := (mkF m 112 #[.val (.int p1)] [])) rfl (hb hby d2_112)
    have pre47 : ∀ t, Steps p.tables e below (T46.setTop (mkF m 115 #[.val (.int p1)] [(u 15)])) t → Steps p.tables e below (s₁.setTop (entryFrame m #[(.int p1)] 1)) t := fun t k => pre45 t (by
      show Steps p.tables e below (s₁.setTop (mkF m 109 #[.val (.int p1)] [(.int (15 : Int32)), (.int p1)])) _
      refine XS.icmpNo X0.here hx rfl (hb hby d2_109) rfl (teq hc109).2 ?_
      show Steps p.tables e below (s₁.setTop (mkF m 112 #[.val (.int p1)] [])) _
      refine st46 _ ?_
      exact k)
    obtain ⟨fs48, hr48, hrun48, hended48, hW48, hsame48⟩ := X46.leave (v := some (u 15)) (fun h => by rw [Bd.returns] at h; cases h)
    refine ⟨_, _, pre47 _ ?_, hrun48, hended48, _, _, rfl, ?_, ⟨_, rfl⟩, hW48, hsame48.mono (by decide) (by decide)⟩
    · show Steps p.tables e below (T46.setTop (mkF m 115 #[.val (.int p1)] [(u 15)])) _
      exact retOut X46 hx (t := (.object "com/example/cafelens/cafelens/classfile/ConstantKind")) Bd.returns rfl (Or.inr (Or.inr (Or.inr (Or.inr ⟨rfl, rfl, (hu 15 (by decide))⟩)))) (hb hby d2_115) hr48
    · show Q2 Z w2 cl u p1 h0 n0 _ T46.heap _
      rw [e46]
      exact ⟨by rw [hc109]; exact congrArg some (own_val_in (u := u) (t := 15) (by decide) (by decide)).symm, N0, rfl⟩
  have pre49 : ∀ t, Steps p.tables e below (s₁.setTop (mkF m 119 #[.val (.int p1)] [(.int (16 : Int32)), (.int p1)])) t → Steps p.tables e below (s₁.setTop (entryFrame m #[(.int p1)] 1)) t := fun t k => pre45 t (by
    show Steps p.tables e below (s₁.setTop (mkF m 109 #[.val (.int p1)] [(.int (15 : Int32)), (.int p1)])) _
    refine XS.icmpYes X0.here hx rfl (pc0 := 109) (pc' := 116) rfl (hb hby d2_109) rfl (feq hc109).2 (by decide) (by decide) ?_
    show Steps p.tables e below (s₁.setTop (mkF m 116 #[.val (.int p1)] [])) _
    refine XS.iloadN X0.here hx rfl (hb hby d2_116) rfl ?_
    show Steps p.tables e below (s₁.setTop (mkF m 117 #[.val (.int p1)] [(.int p1)])) _
    refine XS.bipush X0.here hx rfl (hb hby d2_117) ?_
    exact k)
  by_cases hc119 : p1 = (16 : Int32)
  · obtain ⟨T50, X50, e50, st50⟩ := getS2 X0 hx hZ hown (host := "") (Or.inl (hw _ (List.mem_of_getElem? (i := 29) rfl))) Via.refl e0 S16 (g := (mkF m 122 #[.val (.int p1)] [])) rfl (hb hby d2_122)
    have pre51 : ∀ t, Steps p.tables e below (T50.setTop (mkF m 125 #[.val (.int p1)] [(u 16)])) t → Steps p.tables e below (s₁.setTop (entryFrame m #[(.int p1)] 1)) t := fun t k => pre49 t (by
      show Steps p.tables e below (s₁.setTop (mkF m 119 #[.val (.int p1)] [(.int (16 : Int32)), (.int p1)])) _
      refine XS.icmpNo X0.here hx rfl (hb hby d2_119) rfl (teq hc119).2 ?_
      show Steps p.tables e below (s₁.setTop (mkF m 122 #[.val (.int p1)] [])) _
      refine st50 _ ?_
      exact k)
    obtain ⟨fs52, hr52, hrun52, hended52, hW52, hsame52⟩ := X50.leave (v := some (u 16)) (fun h => by rw [Bd.returns] at h; cases h)
    refine ⟨_, _, pre51 _ ?_, hrun52, hended52, _, _, rfl, ?_, ⟨_, rfl⟩, hW52, hsame52.mono (by decide) (by decide)⟩
    · show Steps p.tables e below (T50.setTop (mkF m 125 #[.val (.int p1)] [(u 16)])) _
      exact retOut X50 hx (t := (.object "com/example/cafelens/cafelens/classfile/ConstantKind")) Bd.returns rfl (Or.inr (Or.inr (Or.inr (Or.inr ⟨rfl, rfl, (hu 16 (by decide))⟩)))) (hb hby d2_125) hr52
    · show Q2 Z w2 cl u p1 h0 n0 _ T50.heap _
      rw [e50]
      exact ⟨by rw [hc119]; exact congrArg some (own_val_in (u := u) (t := 16) (by decide) (by decide)).symm, N0, rfl⟩
  have pre53 : ∀ t, Steps p.tables e below (s₁.setTop (mkF m 129 #[.val (.int p1)] [(.int (17 : Int32)), (.int p1)])) t → Steps p.tables e below (s₁.setTop (entryFrame m #[(.int p1)] 1)) t := fun t k => pre49 t (by
    show Steps p.tables e below (s₁.setTop (mkF m 119 #[.val (.int p1)] [(.int (16 : Int32)), (.int p1)])) _
    refine XS.icmpYes X0.here hx rfl (pc0 := 119) (pc' := 126) rfl (hb hby d2_119) rfl (feq hc119).2 (by decide) (by decide) ?_
    show Steps p.tables e below (s₁.setTop (mkF m 126 #[.val (.int p1)] [])) _
    refine XS.iloadN X0.here hx rfl (hb hby d2_126) rfl ?_
    show Steps p.tables e below (s₁.setTop (mkF m 127 #[.val (.int p1)] [(.int p1)])) _
    refine XS.bipush X0.here hx rfl (hb hby d2_127) ?_
    exact k)
  by_cases hc129 : p1 = (17 : Int32)
  · obtain ⟨T54, X54, e54, st54⟩ := getS2 X0 hx hZ hown (host := "") (Or.inl (hw _ (List.mem_of_getElem? (i := 43) rfl))) Via.refl e0 S17 (g := (mkF m 132 #[.val (.int p1)] [])) rfl (hb hby d2_132)
    have pre55 : ∀ t, Steps p.tables e below (T54.setTop (mkF m 135 #[.val (.int p1)] [(u 17)])) t → Steps p.tables e below (s₁.setTop (entryFrame m #[(.int p1)] 1)) t := fun t k => pre53 t (by
      show Steps p.tables e below (s₁.setTop (mkF m 129 #[.val (.int p1)] [(.int (17 : Int32)), (.int p1)])) _
      refine XS.icmpNo X0.here hx rfl (hb hby d2_129) rfl (teq hc129).2 ?_
      show Steps p.tables e below (s₁.setTop (mkF m 132 #[.val (.int p1)] [])) _
      refine st54 _ ?_
      exact k)
    obtain ⟨fs56, hr56, hrun56, hended56, hW56, hsame56⟩ := X54.leave (v := some (u 17)) (fun h => by rw [Bd.returns] at h; cases h)
    refine ⟨_, _, pre55 _ ?_, hrun56, hended56, _, _, rfl, ?_, ⟨_, rfl⟩, hW56, hsame56.mono (by decide) (by decide)⟩
    · show Steps p.tables e below (T54.setTop (mkF m 135 #[.val (.int p1)] [(u 17)])) _
      exact retOut X54 hx (t := (.object "com/example/cafelens/cafelens/classfile/ConstantKind")) Bd.returns rfl (Or.inr (Or.inr (Or.inr (Or.inr ⟨rfl, rfl, (hu 17 (by decide))⟩)))) (hb hby d2_135) hr56
    · show Q2 Z w2 cl u p1 h0 n0 _ T54.heap _
      rw [e54]
      exact ⟨by rw [hc129]; exact congrArg some (own_val_in (u := u) (t := 17) (by decide) (by decide)).symm, N0, rfl⟩
  have pre57 : ∀ t, Steps p.tables e below (s₁.setTop (mkF m 139 #[.val (.int p1)] [(.int (18 : Int32)), (.int p1)])) t → Steps p.tables e below (s₁.setTop (entryFrame m #[(.int p1)] 1)) t := fun t k => pre53 t (by
    show Steps p.tables e below (s₁.setTop (mkF m 129 #[.val (.int p1)] [(.int (17 : Int32)), (.int p1)])) _
    refine XS.icmpYes X0.here hx rfl (pc0 := 129) (pc' := 136) rfl (hb hby d2_129) rfl (feq hc129).2 (by decide) (by decide) ?_
    show Steps p.tables e below (s₁.setTop (mkF m 136 #[.val (.int p1)] [])) _
    refine XS.iloadN X0.here hx rfl (hb hby d2_136) rfl ?_
    show Steps p.tables e below (s₁.setTop (mkF m 137 #[.val (.int p1)] [(.int p1)])) _
    refine XS.bipush X0.here hx rfl (hb hby d2_137) ?_
    exact k)
  by_cases hc139 : p1 = (18 : Int32)
  · obtain ⟨T58, X58, e58, st58⟩ := getS2 X0 hx hZ hown (host := "") (Or.inl (hw _ (List.mem_of_getElem? (i := 42) rfl))) Via.refl e0 S18 (g := (mkF m 142 #[.val (.int p1)] [])) rfl (hb hby d2_142)
    have pre59 : ∀ t, Steps p.tables e below (T58.setTop (mkF m 145 #[.val (.int p1)] [(u 18)])) t → Steps p.tables e below (s₁.setTop (entryFrame m #[(.int p1)] 1)) t := fun t k => pre57 t (by
      show Steps p.tables e below (s₁.setTop (mkF m 139 #[.val (.int p1)] [(.int (18 : Int32)), (.int p1)])) _
      refine XS.icmpNo X0.here hx rfl (hb hby d2_139) rfl (teq hc139).2 ?_
      show Steps p.tables e below (s₁.setTop (mkF m 142 #[.val (.int p1)] [])) _
      refine st58 _ ?_
      exact k)
    obtain ⟨fs60, hr60, hrun60, hended60, hW60, hsame60⟩ := X58.leave (v := some (u 18)) (fun h => by rw [Bd.returns] at h; cases h)
    refine ⟨_, _, pre59 _ ?_, hrun60, hended60, _, _, rfl, ?_, ⟨_, rfl⟩, hW60, hsame60.mono (by decide) (by decide)⟩
    · show Steps p.tables e below (T58.setTop (mkF m 145 #[.val (.int p1)] [(u 18)])) _
      exact retOut X58 hx (t := (.object "com/example/cafelens/cafelens/classfile/ConstantKind")) Bd.returns rfl (Or.inr (Or.inr (Or.inr (Or.inr ⟨rfl, rfl, (hu 18 (by decide))⟩)))) (hb hby d2_145) hr60
    · show Q2 Z w2 cl u p1 h0 n0 _ T58.heap _
      rw [e58]
      exact ⟨by rw [hc139]; exact congrArg some (own_val_in (u := u) (t := 18) (by decide) (by decide)).symm, N0, rfl⟩
  have pre61 : ∀ t, Steps p.tables e below (s₁.setTop (mkF m 149 #[.val (.int p1)] [(.int (19 : Int32)), (.int p1)])) t → Steps p.tables e below (s₁.setTop (entryFrame m #[(.int p1)] 1)) t := fun t k => pre57 t (by
    show Steps p.tables e below (s₁.setTop (mkF m 139 #[.val (.int p1)] [(.int (18 : Int32)), (.int p1)])) _
    refine XS.icmpYes X0.here hx rfl (pc0 := 139) (pc' := 146) rfl (hb hby d2_139) rfl (feq hc139).2 (by decide) (by decide) ?_
    show Steps p.tables e below (s₁.setTop (mkF m 146 #[.val (.int p1)] [])) _
    refine XS.iloadN X0.here hx rfl (hb hby d2_146) rfl ?_
    show Steps p.tables e below (s₁.setTop (mkF m 147 #[.val (.int p1)] [(.int p1)])) _
    refine XS.bipush X0.here hx rfl (hb hby d2_147) ?_
    exact k)
  by_cases hc149 : p1 = (19 : Int32)
  · obtain ⟨T62, X62, e62, st62⟩ := getS2 X0 hx hZ hown (host := "") (Or.inl (hw _ (List.mem_of_getElem? (i := 39) rfl))) Via.refl e0 S19 (g := (mkF m 152 #[.val (.int p1)] [])) rfl (hb hby d2_152)
    have pre63 : ∀ t, Steps p.tables e below (T62.setTop (mkF m 155 #[.val (.int p1)] [(u 19)])) t → Steps p.tables e below (s₁.setTop (entryFrame m #[(.int p1)] 1)) t := fun t k => pre61 t (by
      show Steps p.tables e below (s₁.setTop (mkF m 149 #[.val (.int p1)] [(.int (19 : Int32)), (.int p1)])) _
      refine XS.icmpNo X0.here hx rfl (hb hby d2_149) rfl (teq hc149).2 ?_
      show Steps p.tables e below (s₁.setTop (mkF m 152 #[.val (.int p1)] [])) _
      refine st62 _ ?_
      exact k)
    obtain ⟨fs64, hr64, hrun64, hended64, hW64, hsame64⟩ := X62.leave (v := some (u 19)) (fun h => by rw [Bd.returns] at h; cases h)
    refine ⟨_, _, pre63 _ ?_, hrun64, hended64, _, _, rfl, ?_, ⟨_, rfl⟩, hW64, hsame64.mono (by decide) (by decide)⟩
    · show Steps p.tables e below (T62.setTop (mkF m 155 #[.val (.int p1)] [(u 19)])) _
      exact retOut X62 hx (t := (.object "com/example/cafelens/cafelens/classfile/ConstantKind")) Bd.returns rfl (Or.inr (Or.inr (Or.inr (Or.inr ⟨rfl, rfl, (hu 19 (by decide))⟩)))) (hb hby d2_155) hr64
    · show Q2 Z w2 cl u p1 h0 n0 _ T62.heap _
      rw [e62]
      exact ⟨by rw [hc149]; exact congrArg some (own_val_in (u := u) (t := 19) (by decide) (by decide)).symm, N0, rfl⟩
  have pre65 : ∀ t, Steps p.tables e below (s₁.setTop (mkF m 159 #[.val (.int p1)] [(.int (20 : Int32)), (.int p1)])) t → Steps p.tables e below (s₁.setTop (entryFrame m #[(.int p1)] 1)) t := fun t k => pre61 t (by
    show Steps p.tables e below (s₁.setTop (mkF m 149 #[.val (.int p1)] [(.int (19 : Int32)), (.int p1)])) _
    refine XS.icmpYes X0.here hx rfl (pc0 := 149) (pc' := 156) rfl (hb hby d2_149) rfl (feq hc149).2 (by decide) (by decide) ?_
    show Steps p.tables e below (s₁.setTop (mkF m 156 #[.val (.int p1)] [])) _
    refine XS.iloadN X0.here hx rfl (hb hby d2_156) rfl ?_
    show Steps p.tables e below (s₁.setTop (mkF m 157 #[.val (.int p1)] [(.int p1)])) _
    refine XS.bipush X0.here hx rfl (hb hby d2_157) ?_
    exact k)
  by_cases hc159 : p1 = (20 : Int32)
  · obtain ⟨T66, X66, e66, st66⟩ := getS2 X0 hx hZ hown (host := "") (Or.inl (hw _ (List.mem_of_getElem? (i := 15) rfl))) Via.refl e0 S20 (g := (mkF m 162 #[.val (.int p1)] [])) rfl (hb hby d2_162)
    have pre67 : ∀ t, Steps p.tables e below (T66.setTop (mkF m 165 #[.val (.int p1)] [(u 20)])) t → Steps p.tables e below (s₁.setTop (entryFrame m #[(.int p1)] 1)) t := fun t k => pre65 t (by
      show Steps p.tables e below (s₁.setTop (mkF m 159 #[.val (.int p1)] [(.int (20 : Int32)), (.int p1)])) _
      refine XS.icmpNo X0.here hx rfl (hb hby d2_159) rfl (teq hc159).2 ?_
      show Steps p.tables e below (s₁.setTop (mkF m 162 #[.val (.int p1)] [])) _
      refine st66 _ ?_
      exact k)
    obtain ⟨fs68, hr68, hrun68, hended68, hW68, hsame68⟩ := X66.leave (v := some (u 20)) (fun h => by rw [Bd.returns] at h; cases h)
    refine ⟨_, _, pre67 _ ?_, hrun68, hended68, _, _, rfl, ?_, ⟨_, rfl⟩, hW68, hsame68.mono (by decide) (by decide)⟩
    · show Steps p.tables e below (T66.setTop (mkF m 165 #[.val (.int p1)] [(u 20)])) _
      exact retOut X66 hx (t := (.object "com/example/cafelens/cafelens/classfile/ConstantKind")) Bd.returns rfl (Or.inr (Or.inr (Or.inr (Or.inr ⟨rfl, rfl, (hu 20 (by decide))⟩)))) (hb hby d2_165) hr68
    · show Q2 Z w2 cl u p1 h0 n0 _ T66.heap _
      rw [e66]
      exact ⟨by rw [hc159]; exact congrArg some (own_val_in (u := u) (t := 20) (by decide) (by decide)).symm, N0, rfl⟩
  have pre69 : ∀ t, Steps p.tables e below (s₁.setTop (mkF m 167 #[.val (.int p1)] [.null])) t → Steps p.tables e below (s₁.setTop (entryFrame m #[(.int p1)] 1)) t := fun t k => pre65 t (by
    show Steps p.tables e below (s₁.setTop (mkF m 159 #[.val (.int p1)] [(.int (20 : Int32)), (.int p1)])) _
    refine XS.icmpYes X0.here hx rfl (pc0 := 159) (pc' := 166) rfl (hb hby d2_159) rfl (feq hc159).2 (by decide) (by decide) ?_
    show Steps p.tables e below (s₁.setTop (mkF m 166 #[.val (.int p1)] [])) _
    refine XS.aconstNull X0.here hx rfl (hb hby d2_166) ?_
    exact k)
  obtain ⟨fs70, hr70, hrun70, hended70, hW70, hsame70⟩ := X0.leave (v := some .null) (fun h => by rw [Bd.returns] at h; cases h)
  refine ⟨_, _, pre69 _ ?_, hrun70, hended70, _, _, rfl, ?_, ⟨_, rfl⟩, hW70, hsame70.mono (by decide) (by decide)⟩
  · show Steps p.tables e below (s₁.setTop (mkF m 167 #[.val (.int p1)] [.null])) _
    exact retOut X0 hx (t := (.object "com/example/cafelens/cafelens/classfile/ConstantKind")) Bd.returns rfl (Or.inr (Or.inr (Or.inr (Or.inr ⟨rfl, rfl, rfl⟩)))) (hb hby d2_167) hr70
  · show Q2 Z w2 cl u p1 h0 n0 _ s₁.heap _
    rw [e0]
    exact ⟨by rw [own_val_none OK hc2 hc11 hc20 hc29 hc39 hc49 hc59 hc69 hc79 hc89 hc99 hc109 hc119 hc129 hc139 hc149 hc159], N0, rfl⟩

theorem pd_2 : parseMethodDescriptor "(I)Lcom/example/cafelens/cafelens/classfile/ConstantKind;" = some ⟨[.int], some (.object "com/example/cafelens/cafelens/classfile/ConstantKind")⟩ := by decide +kernel

theorem ef_0 (m : MethodId) (x0 : Int32) (x1 : Int32)  : entryFrame m #[(.int x0), (.int x1)] maxLocals = mkF m 0 #[.val (.int x0), .val (.int x1), .unset, .unset, .unset] [] := by first | (simp [entryFrame, mkF, argsToLocals, Value.category, maxLocals]; done) | rfl
def Q0 (Z : State) (w2 : Addr) (cl : Cell) (u : Nat → Value) (p1 p2 : Int32) (h0 : Heap) (n0 : Nat) (v : Option Value) (h : Heap) (L : List Loc) : Prop := v = some (.int (1 : Int32)) ∧ Fr n0 L
set_option maxRecDepth 65536 in
set_option maxHeartbeats 40000000 in
theorem rm0 (l : Launch) (Z : State) (a0 : Array Value) (hw : ∀ d ∈ tables_1, d.before a0 Z = true) (ws : List Jvm.Cond) (w2 : Addr) (cl : Cell) (u : Nat → Value) (p1 p2 : Int32) (h0 : Heap) (n0 : Nat) (Z0 : n0 ≤ h0.size) (OK : own_ok Z h0 w2 cl u) :
    MetFree l x (head1 (Jvm.Cond.code x code maxLocals ret :: ws) room_1) (fun a U => a = #[(.int p1), (.int p2)] ∧ Z.Warmed39 U.vm ∧ U.heap = h0) (fun _ _ _ _ _ => True) (fun _ U o U' => ∃ v L, o = .returned v ∧ Q0 Z w2 cl u p1 p2 h0 n0 v U'.heap L ∧ FrameEnd U o U' L room_1.cells room_1.slots) := by
  refine MetFree.of_bodySF (plainFor_of_name pn_0) hisR ?_
  intro p e s m args below meth c s₁ Bd hml0 hP hK
  obtain ⟨rfl, hZ, hh⟩ := hP
  have hx := Bd.exec
  have hby := Bd.bytes
  have hml : c.maxLocals = 5 := hml0
  have hown : s.vm.findClass "com/example/cafelens/cafelens/classfile/ConstantKindOfTagPinLaw" = some m.cls := findClass_of_methodNamed Bd.named
  have hnm := (name_of_methodNamed Bd.named Bd.method).1
  have X0 : Stand p l e room_1 s m #[(.int p1), (.int p2)] below meth c s₁ [] 0 0 := Stand.of_body Bd
  have e0 : s₁.heap = h0 := by rw [← hh, Bd.state]; rfl
  have N0 := Fr.nil n0
  have pre0 : ∀ t, Steps p.tables e below (s₁.setTop (mkF m 0 #[.val (.int p1), .val (.int p2), .unset, .unset, .unset] [])) t → Steps p.tables e below (s₁.setTop (entryFrame m #[(.int p1), (.int p2)] maxLocals)) t := fun t k => castTop (ef_0 m p1 p2) k
  obtain ⟨_, _, ⟨T1, L1, k1, n1⟩, -, X1, ⟨Lc1, hQ1, l1, y1, z1⟩, st1⟩ := Jvm.LawKit.callS X0 hx (y := (⟨"com/example/cafelens/cafelens/classfile/ConstantKind", "ofTag", "(I)Lcom/example/cafelens/cafelens/classfile/ConstantKind;"⟩ : MethodName)) hown (mvT hZ (hw _ (List.mem_of_getElem? (i := 0) rfl))) (mvT hZ (hw _ (List.mem_of_getElem? (i := 1) rfl))) (mvT hZ (hw _ (List.mem_of_getElem? (i := 2) rfl))) (mvT hZ (hw _ (List.mem_of_getElem? (i := 3) rfl))) (by decide) (backOf (W := 0) (rm1 l Z a0 hw [] w2 cl u p1 h0 n0 Z0 OK) hZ (hw _ (List.mem_of_getElem? (i := 3) rfl)) (hw _ (List.mem_of_getElem? (i := 2) rfl)) (by decide) (by decide)) (g := (mkF m 6 #[.val (.int p1), .val (.int p2), .val (.int (p2 &&& (31 : Int32))), .unset, .unset] [(.int p1)])) rfl (by rw [hml]; rfl) (argsL := [(.int p1)]) (rest := []) (lenOf pd_1 rfl) rfl (by show 2 * 0 + _ ≤ _; exact Nat.le_of_eq rfl) (hb hby at_6) (fun _ _ => ⟨rfl, e0, (by decide : 0 + 0 ≤ _), (by decide : 0 + 0 ≤ _)⟩)
  dsimp only [Pt.U, Pt.locs, Pt.cells, Pt.slots] at X1 l1 y1 z1 st1 hQ1
  subst l1 y1 z1
  obtain ⟨rfl, N1q, q1⟩ := hQ1
  have N1 := Fr.app N0 N1q
  obtain ⟨_, _, ⟨T2, L2, k2, n2⟩, -, X2, ⟨Lc2, hQ2, l2, y2, z2⟩, st2⟩ := Jvm.LawKit.callS X1 hx (y := (⟨"com/example/cafelens/cafelens/classfile/ConstantKind", "ofTag", "(I)Lcom/example/cafelens/cafelens/classfile/ConstantKind;"⟩ : MethodName)) hown (mvT hZ (hw _ (List.mem_of_getElem? (i := 0) rfl))) (mvT hZ (hw _ (List.mem_of_getElem? (i := 1) rfl))) (mvT hZ (hw _ (List.mem_of_getElem? (i := 2) rfl))) (mvT hZ (hw _ (List.mem_of_getElem? (i := 3) rfl))) (by decide) (backOf (W := 0) (rm1 l Z a0 hw [] w2 cl u (p2 &&& (31 : Int32)) h0 n0 Z0 OK) hZ (hw _ (List.mem_of_getElem? (i := 3) rfl)) (hw _ (List.mem_of_getElem? (i := 2) rfl)) (by decide) (by decide)) (g := (mkF m 11 #[.val (.int p1), .val (.int p2), .val (.int (p2 &&& (31 : Int32))), .val (own_val u p1), .unset] [(.int (p2 &&& (31 : Int32)))])) rfl (by rw [hml]; rfl) (argsL := [(.int (p2 &&& (31 : Int32)))]) (rest := []) (lenOf pd_1 rfl) rfl (by show 2 * 0 + _ ≤ _; exact Nat.le_of_eq rfl) (hb hby at_11) (fun _ _ => ⟨rfl, q1, (by decide : 0 + 0 ≤ _), (by decide : 0 + 0 ≤ _)⟩)
  dsimp only [Pt.U, Pt.locs, Pt.cells, Pt.slots] at X2 l2 y2 z2 st2 hQ2
  subst l2 y2 z2
  obtain ⟨rfl, N2q, q2⟩ := hQ2
  have N2 := Fr.app N1 N2q
  obtain ⟨_, _, ⟨T3, L3, k3, n3⟩, -, X3, ⟨Lc3, hQ3, l3, y3, z3⟩, st3⟩ := Jvm.LawKit.callS X2 hx (y := (⟨"com/example/cafelens/cafelens/classfile/ConstantKindOfTagPinLaw", "expected", "(I)Lcom/example/cafelens/cafelens/classfile/ConstantKind;"⟩ : MethodName)) hown (mvT hZ (hw _ (List.mem_of_getElem? (i := 7) rfl))) (mvT hZ (hw _ (List.mem_of_getElem? (i := 8) rfl))) (mvT hZ (hw _ (List.mem_of_getElem? (i := 9) rfl))) (mvT hZ (hw _ (List.mem_of_getElem? (i := 10) rfl))) (by decide) (backOf (W := 1) (rm2 l Z a0 hw [] w2 cl u p1 h0 n0 Z0 OK) hZ (hw _ (List.mem_of_getElem? (i := 10) rfl)) (hw _ (List.mem_of_getElem? (i := 9) rfl)) (by decide) (by decide)) (g := (mkF m 18 #[.val (.int p1), .val (.int p2), .val (.int (p2 &&& (31 : Int32))), .val (own_val u p1), .val (own_val u (p2 &&& (31 : Int32)))] [(.int p1), (own_val u p1)])) rfl (by rw [hml]; rfl) (argsL := [(.int p1)]) (rest := [(own_val u p1)]) (lenOf pd_2 rfl) rfl (by simp [own_cat, (own_val_ref OK p1)]) (hb hby at_18) (fun _ _ => ⟨rfl, q2, (by decide : 0 + 0 ≤ _), (by decide : 0 + 0 ≤ _)⟩)
  dsimp only [Pt.U, Pt.locs, Pt.cells, Pt.slots] at X3 l3 y3 z3 st3 hQ3
  subst l3 y3 z3
  obtain ⟨rfl, N3q, q3⟩ := hQ3
  have N3 := Fr.app N2 N3q
  obtain ⟨_, _, ⟨T4, L4, k4, n4⟩, -, X4, ⟨Lc4, hQ4, l4, y4, z4⟩, st4⟩ := Jvm.LawKit.callS X3 hx (y := (⟨"com/example/cafelens/cafelens/classfile/ConstantKindOfTagPinLaw", "expected", "(I)Lcom/example/cafelens/cafelens/classfile/ConstantKind;"⟩ : MethodName)) hown (mvT hZ (hw _ (List.mem_of_getElem? (i := 7) rfl))) (mvT hZ (hw _ (List.mem_of_getElem? (i := 8) rfl))) (mvT hZ (hw _ (List.mem_of_getElem? (i := 9) rfl))) (mvT hZ (hw _ (List.mem_of_getElem? (i := 10) rfl))) (by decide) (backOf (W := 1) (rm2 l Z a0 hw [] w2 cl u (p2 &&& (31 : Int32)) h0 n0 Z0 OK) hZ (hw _ (List.mem_of_getElem? (i := 10) rfl)) (hw _ (List.mem_of_getElem? (i := 9) rfl)) (by decide) (by decide)) (g := (mkF m 27 #[.val (.int p1), .val (.int p2), .val (.int (p2 &&& (31 : Int32))), .val (own_val u p1), .val (own_val u (p2 &&& (31 : Int32)))] [(.int (p2 &&& (31 : Int32))), (own_val u (p2 &&& (31 : Int32)))])) rfl (by rw [hml]; rfl) (argsL := [(.int (p2 &&& (31 : Int32)))]) (rest := [(own_val u (p2 &&& (31 : Int32)))]) (lenOf pd_2 rfl) rfl (by simp [own_cat, (own_val_ref OK (p2 &&& (31 : Int32)))]) (hb hby at_27) (fun _ _ => ⟨rfl, q3, (by decide : 0 + 0 ≤ _), (by decide : 0 + 0 ≤ _)⟩)
  dsimp only [Pt.U, Pt.locs, Pt.cells, Pt.slots] at X4 l4 y4 z4 st4 hQ4
  subst l4 y4 z4
  obtain ⟨rfl, N4q, q4⟩ := hQ4
  have N4 := Fr.app N3 N4q
  have pre5 : ∀ t, Steps p.tables e below (T4.setTop (mkF m 38 #[.val (.int p1), .val (.int p2), .val (.int (p2 &&& (31 : Int32))), .val (own_val u p1), .val (own_val u (p2 &&& (31 : Int32)))] [(.int (1 : Int32))])) t → Steps p.tables e below (s₁.setTop (entryFrame m #[(.int p1), (.int p2)] maxLocals)) t := fun t k => pre0 t (by
    show Steps p.tables e below (s₁.setTop (mkF m 0 #[.val (.int p1), .val (.int p2), .unset, .unset, .unset] [])) _
    refine XS.iloadN X0.here hx rfl (hb hby at_0) rfl ?_
    show Steps p.tables e below (s₁.setTop (mkF m 1 #[.val (.int p1), .val (.int p2), .unset, .unset, .unset] [(.int p2)])) _
    refine XS.bipush X0.here hx rfl (hb hby at_1) ?_
    show Steps p.tables e below (s₁.setTop (mkF m 3 #[.val (.int p1), .val (.int p2), .unset, .unset, .unset] [(.int (31 : Int32)), (.int p2)])) _
    refine XS.iand X0.here hx rfl (hb hby at_3) rfl ?_
    show Steps p.tables e below (s₁.setTop (mkF m 4 #[.val (.int p1), .val (.int p2), .unset, .unset, .unset] [(.int (p2 &&& (31 : Int32)))])) _
    refine XS.istoreN X0.here hx rfl (hb hby at_4) rfl (l' := #[.val (.int p1), .val (.int p2), .val (.int (p2 &&& (31 : Int32))), .unset, .unset]) rfl ?_
    show Steps p.tables e below (s₁.setTop (mkF m 5 #[.val (.int p1), .val (.int p2), .val (.int (p2 &&& (31 : Int32))), .unset, .unset] [])) _
    refine XS.iloadN X0.here hx rfl (hb hby at_5) rfl ?_
    show Steps p.tables e below (s₁.setTop (mkF m 6 #[.val (.int p1), .val (.int p2), .val (.int (p2 &&& (31 : Int32))), .unset, .unset] [(.int p1)])) _
    refine st1 _ ?_
    show Steps p.tables e below (T1.setTop (mkF m 9 #[.val (.int p1), .val (.int p2), .val (.int (p2 &&& (31 : Int32))), .unset, .unset] [(own_val u p1)])) _
    refine XS.astoreN X1.here hx rfl (hb hby at_9) rfl (own_val_ref OK p1) (l' := #[.val (.int p1), .val (.int p2), .val (.int (p2 &&& (31 : Int32))), .val (own_val u p1), .unset]) (own_store One.u (own_cat (own_val_ref OK p1))) ?_
    show Steps p.tables e below (T1.setTop (mkF m 10 #[.val (.int p1), .val (.int p2), .val (.int (p2 &&& (31 : Int32))), .val (own_val u p1), .unset] [])) _
    refine XS.iloadN X1.here hx rfl (hb hby at_10) rfl ?_
    show Steps p.tables e below (T1.setTop (mkF m 11 #[.val (.int p1), .val (.int p2), .val (.int (p2 &&& (31 : Int32))), .val (own_val u p1), .unset] [(.int (p2 &&& (31 : Int32)))])) _
    refine st2 _ ?_
    show Steps p.tables e below (T2.setTop (mkF m 14 #[.val (.int p1), .val (.int p2), .val (.int (p2 &&& (31 : Int32))), .val (own_val u p1), .unset] [(own_val u (p2 &&& (31 : Int32)))])) _
    refine XS.astore X2.here hx rfl (hb hby at_14) rfl (own_val_ref OK (p2 &&& (31 : Int32))) (l' := #[.val (.int p1), .val (.int p2), .val (.int (p2 &&& (31 : Int32))), .val (own_val u p1), .val (own_val u (p2 &&& (31 : Int32)))]) (own_store One.u (own_cat (own_val_ref OK (p2 &&& (31 : Int32))))) ?_
    show Steps p.tables e below (T2.setTop (mkF m 16 #[.val (.int p1), .val (.int p2), .val (.int (p2 &&& (31 : Int32))), .val (own_val u p1), .val (own_val u (p2 &&& (31 : Int32)))] [])) _
    refine XS.aloadN X2.here hx rfl (hb hby at_16) rfl (own_val_ref OK p1) ?_
    show Steps p.tables e below (T2.setTop (mkF m 17 #[.val (.int p1), .val (.int p2), .val (.int (p2 &&& (31 : Int32))), .val (own_val u p1), .val (own_val u (p2 &&& (31 : Int32)))] [(own_val u p1)])) _
    refine XS.iloadN X2.here hx rfl (hb hby at_17) rfl ?_
    show Steps p.tables e below (T2.setTop (mkF m 18 #[.val (.int p1), .val (.int p2), .val (.int (p2 &&& (31 : Int32))), .val (own_val u p1), .val (own_val u (p2 &&& (31 : Int32)))] [(.int p1), (own_val u p1)])) _
    refine st3 _ ?_
    show Steps p.tables e below (T3.setTop (mkF m 21 #[.val (.int p1), .val (.int p2), .val (.int (p2 &&& (31 : Int32))), .val (own_val u p1), .val (own_val u (p2 &&& (31 : Int32)))] [(own_val u p1), (own_val u p1)])) _
    refine Jvm.RoadKit.acmp (g := (mkF m 21 #[.val (.int p1), .val (.int p2), .val (.int (p2 &&& (31 : Int32))), .val (own_val u p1), .val (own_val u (p2 &&& (31 : Int32)))] [(own_val u p1), (own_val u p1)])) X3 hx rfl (own_val_ref OK p1) (own_val_ref OK p1) (pc0 := 21) (pc' := 24) (same := true) rfl (hb hby at_21) rfl (decide_eq_true (rfl)) (by decide) (by decide) ?_
    show Steps p.tables e below (T3.setTop (mkF m 24 #[.val (.int p1), .val (.int p2), .val (.int (p2 &&& (31 : Int32))), .val (own_val u p1), .val (own_val u (p2 &&& (31 : Int32)))] [])) _
    refine XS.aload X3.here hx rfl (hb hby at_24) rfl (own_val_ref OK (p2 &&& (31 : Int32))) ?_
    show Steps p.tables e below (T3.setTop (mkF m 26 #[.val (.int p1), .val (.int p2), .val (.int (p2 &&& (31 : Int32))), .val (own_val u p1), .val (own_val u (p2 &&& (31 : Int32)))] [(own_val u (p2 &&& (31 : Int32)))])) _
    refine XS.iloadN X3.here hx rfl (hb hby at_26) rfl ?_
    show Steps p.tables e below (T3.setTop (mkF m 27 #[.val (.int p1), .val (.int p2), .val (.int (p2 &&& (31 : Int32))), .val (own_val u p1), .val (own_val u (p2 &&& (31 : Int32)))] [(.int (p2 &&& (31 : Int32))), (own_val u (p2 &&& (31 : Int32)))])) _
    refine st4 _ ?_
    show Steps p.tables e below (T4.setTop (mkF m 30 #[.val (.int p1), .val (.int p2), .val (.int (p2 &&& (31 : Int32))), .val (own_val u p1), .val (own_val u (p2 &&& (31 : Int32)))] [(own_val u (p2 &&& (31 : Int32))), (own_val u (p2 &&& (31 : Int32)))])) _
    refine Jvm.RoadKit.acmp (g := (mkF m 30 #[.val (.int p1), .val (.int p2), .val (.int (p2 &&& (31 : Int32))), .val (own_val u p1), .val (own_val u (p2 &&& (31 : Int32)))] [(own_val u (p2 &&& (31 : Int32))), (own_val u (p2 &&& (31 : Int32)))])) X4 hx rfl (own_val_ref OK (p2 &&& (31 : Int32))) (own_val_ref OK (p2 &&& (31 : Int32))) (pc0 := 30) (pc' := 33) (same := true) rfl (hb hby at_30) rfl (decide_eq_true (rfl)) (by decide) (by decide) ?_
    show Steps p.tables e below (T4.setTop (mkF m 33 #[.val (.int p1), .val (.int p2), .val (.int (p2 &&& (31 : Int32))), .val (own_val u p1), .val (own_val u (p2 &&& (31 : Int32)))] [])) _
    refine XS.iconst X4.here hx rfl (hb hby at_33) ?_
    show Steps p.tables e below (T4.setTop (mkF m 34 #[.val (.int p1), .val (.int p2), .val (.int (p2 &&& (31 : Int32))), .val (own_val u p1), .val (own_val u (p2 &&& (31 : Int32)))] [(.int (1 : Int32))])) _
    refine XS.goto X4.here hx rfl (pc0 := 34) (pc' := 38) rfl (hb hby at_34) (by decide) (by decide) ?_
    exact k)
  obtain ⟨fs6, hr6, hrun6, hended6, hW6, hsame6⟩ := X4.leave (v := some (.int (1 : Int32))) (fun h => by rw [Bd.returns] at h; cases h)
  refine ⟨_, _, pre5 _ ?_, hrun6, hended6, _, _, rfl, ?_, ⟨_, rfl⟩, hW6, hsame6.mono (by decide) (by decide)⟩
  · show Steps p.tables e below (T4.setTop (mkF m 38 #[.val (.int p1), .val (.int p2), .val (.int (p2 &&& (31 : Int32))), .val (own_val u p1), .val (own_val u (p2 &&& (31 : Int32)))] [(.int (1 : Int32))])) _
    exact retN X4 hx (t := .boolean) Bd.returns (by simp) (hb hby at_38) hr6
  · show Q0 Z w2 cl u p1 p2 h0 n0 _ T4.heap _
    rw [q4]
    exact ⟨rfl, N4⟩

theorem own_clamp {n : Nat} (h : n < 2 ^ 31) : n.toInt32.toNatClampNeg = n := by
  have e : n.toInt32.toNatClampNeg = n.toInt32.toInt.toNat := rfl
  rw [e, len_toInt h]; rfl
theorem own_len {args : Array Value} {s : State} {t : Term} {a : Addr} {cl : Cell} {k : Int32} (h : (Jvm.Cond.eq (Jvm.Term.length t) (Jvm.Term.int k)).value args s none s [] = some true) (ev : t.eval args s none [] s = some (.ref a)) (hc : s.heap[a]? = some cl) : cl.slots.size < 2 ^ 31 ∧ cl.slots.size.toInt32 = k := by
  obtain ⟨x, y, e1, e2, -, -⟩ := cmp_v (Or.inl h)
  obtain ⟨a', c', e3, e4, rfl⟩ := Term.length_spec e1
  cases ev.symm.trans e3
  have e5 := (State.arrayAt?_spec e4).1
  cases hc.symm.trans e5
  refine ⟨?_, gotT (Cond.eq_ints e1 (Term.int_eval k)) h⟩
  by_cases hn : cl.slots.size < 2147483648
  · exact hn
  · simp [Term.eval, ev, e4, hn] at e1
theorem own_el {args : Array Value} {s : State} {t : Term} {a : Addr} {cl : Cell} {k : Int32} {u : Nat → Value} {i : Nat} {w : Value} (U : ∀ i, i < 21 → cl.slots[i]? = some (u i)) (ev : t.eval args s none [] s = some (.ref a)) (hc : s.heap[a]? = some cl) (h : (Term.elem t (.int k)).eval args s none [] s = some w) (hi : i < 21) (hk : k.toNatClampNeg = i) : u i = w := by
  have q := (elem_in h ev (Term.int_eval k) hc).2
  rw [hk, U i hi] at q
  exact Option.some.inj q
theorem own_el2 {args : Array Value} {s : State} {t r : Term} {a z : Addr} {cl : Cell} {k : Int32} {u : Nat → Value} {i : Nat} (U : ∀ i, i < 21 → cl.slots[i]? = some (u i)) (ev : t.eval args s none [] s = some (.ref a)) (hc : s.heap[a]? = some cl) (er : r.eval args s none [] s = some (.ref z)) (h : (Jvm.Cond.eq (Term.elem t (.int k)) r).value args s none s [] = some true) (hi : i < 21) (hk : k.toNatClampNeg = i) : u i = .ref z := by
  obtain ⟨x, y, e1, e2, k1, -⟩ := cmp_v (Or.inl h)
  cases er.symm.trans e2
  have hx : x.isRef = true := by cases x <;> simp [Kin, Value.isRef] at k1 ⊢
  have q := gotT (eq_R e1 e2 hx rfl) h
  subst q
  exact own_el U ev hc e1 hi hk

set_option maxRecDepth 65536 in
set_option maxHeartbeats 40000000 in
theorem comes_1 {Post : Tables → Env → Array Value → State → Outcome → State → Prop} (hpost : ∀ tb e args s v u, (limb_1_1.after args s (.returned v) u = true ∧ limb_1_2.after args s (.returned v) u = true ∧ True) → FrameEnd s (.returned v) u (Jvm.fieldLocs frame_1_writes args s ++ Jvm.arrayLocs frame_1_arrays args s ++ Jvm.staticLocs frame_1_statics s) 0 0 → Post tb e args s (.returned v) u) :
    ArmFor flags0 classFile x code maxLocals ret World_1 tables_1 room_1 Calls_1 rest_1 Pre_1 Post := by
  intro l hfl _ _ p e ha hc hk s m args below hf hA hF happ hP
  obtain ⟨hcalls, hrest, hpre⟩ := hP
  obtain ⟨-, -, -, hnamed, -, -, -, hat⟩ := (Spec.applies_iff hf).mp happ
  obtain ⟨hg, hn⟩ := and_e (Cond.before_iff.mp (show (Jvm.Cond.and given_1 narrow_1).before args s = true from hpre))
  obtain ⟨gg0, gr0⟩ := and_e hg
  obtain ⟨gg1, gr1⟩ := and_e gr0
  obtain ⟨w0, w1, rfl⟩ : ∃ w0 w1 : Value, args = #[w0, w1] := by
    have hs : args.size = 2 := by simpa [Cond.value, given_1] using gg0
    obtain ⟨L⟩ := args
    match L, hs with
    | [w0, w1], _ => exact ⟨w0, w1, rfl⟩
  have hw := fun d (hd : d ∈ tables_1) => atoms_spec (ws := Jvm.Cond.code x code maxLocals ret :: tables_1) hat d (List.mem_cons_of_mem _ hd)
  have hfit : Fit s := fun {y c} hc i hi => by
    obtain ⟨ha, rfl⟩ := Array.getElem?_eq_some_iff.mp hc
    have q := List.all_eq_true.mp ((Array.all_eq_true_iff_forall_mem.mp hF) _ (Array.getElem_mem ha)) i (List.mem_range.mpr hi)
    simpa [Array.getElem?_eq_getElem hi] using q
  obtain ⟨i0, ei0⟩ := is_v gg1
  obtain rfl : w0 = (.int i0) := Option.some.inj ei0
  obtain ⟨i1, ei1⟩ := is_v gr1
  obtain rfl : w1 = (.int i1) := Option.some.inj ei1
  obtain ⟨c0, rc0⟩ := and_e hn
  obtain ⟨c1, rc1⟩ := and_e rc0
  obtain ⟨c2, rc2⟩ := and_e rc1
  obtain ⟨c3, rc3⟩ := and_e rc2
  obtain ⟨c4, rc4⟩ := and_e rc3
  obtain ⟨c5, rc5⟩ := and_e rc4
  obtain ⟨c6, rc6⟩ := and_e rc5
  obtain ⟨c7, rc7⟩ := and_e rc6
  obtain ⟨c8, rc8⟩ := and_e rc7
  obtain ⟨c9, rc9⟩ := and_e rc8
  obtain ⟨c10, rc10⟩ := and_e rc9
  obtain ⟨c11, rc11⟩ := and_e rc10
  obtain ⟨c12, rc12⟩ := and_e rc11
  obtain ⟨c13, rc13⟩ := and_e rc12
  obtain ⟨c14, rc14⟩ := and_e rc13
  obtain ⟨c15, rc15⟩ := and_e rc14
  obtain ⟨c16, rc16⟩ := and_e rc15
  obtain ⟨c17, rc17⟩ := and_e rc16
  obtain ⟨c18, rc18⟩ := and_e rc17
  obtain ⟨c19, rc19⟩ := and_e rc18
  obtain ⟨c20, rc20⟩ := and_e rc19
  obtain ⟨c21, rc21⟩ := and_e rc20
  obtain ⟨c22, rc22⟩ := and_e rc21
  obtain ⟨c23, rc23⟩ := and_e rc22
  obtain ⟨c24, rc24⟩ := and_e rc23
  obtain ⟨c25, rc25⟩ := and_e rc24
  obtain ⟨c26, rc26⟩ := and_e rc25
  obtain ⟨c27, rc27⟩ := and_e rc26
  obtain ⟨c28, rc28⟩ := and_e rc27
  obtain ⟨c29, rc29⟩ := and_e rc28
  obtain ⟨c30, rc30⟩ := and_e rc29
  obtain ⟨c31, rc31⟩ := and_e rc30
  obtain ⟨c32, rc32⟩ := and_e rc31
  obtain ⟨c33, rc33⟩ := and_e rc32
  obtain ⟨c34, rc34⟩ := and_e rc33
  obtain ⟨c35, rc35⟩ := and_e rc34
  obtain ⟨c36, rc36⟩ := and_e rc35
  obtain ⟨c37, rc37⟩ := and_e rc36
  obtain ⟨c38, rc38⟩ := and_e rc37
  have c39 := rc38
  obtain ⟨w2, ev2⟩ := arr_v c0
  obtain ⟨cl, AB⟩ := Arr.start ev2 c0
  have SB := Sta.start ev2 (Or.inr ⟨(hw _ (List.mem_of_getElem? (i := 2) rfl)), (hw _ (List.mem_of_getElem? (i := 5) rfl))⟩)
  obtain ⟨hl1, hl2⟩ := own_len c1 ev2 AB.1
  have szB : cl.slots.size = (21 : Int32).toNatClampNeg := by rw [← hl2]; exact (own_clamp hl1).symm
  have sz21 : cl.slots.size = 21 := szB
  obtain ⟨u, hu0⟩ : ∃ u : Nat → Value, u = fun i => (cl.slots[i]?).getD .null := ⟨_, rfl⟩
  have U : ∀ i, i < 21 → cl.slots[i]? = some (u i) := fun i hi => by
    have : i < cl.slots.size := by omega
    rw [hu0]; simp [this]
  have hu : ∀ i, i < 21 → (u i).isRef = true := fun i hi => by
    have hj : ¬ (i.toInt32 < 0 ∨ cl.slots.size ≤ i.toInt32.toNatClampNeg) := idx_in (by omega) (by omega)
    obtain ⟨v, e1, e2⟩ := elem_fit hfit AB hj
    have e3 : i.toInt32.toNatClampNeg = i := own_clamp (by omega)
    rw [e3, U i hi] at e1
    cases e1
    exact fit_R e2 rfl
  have u0 : u 0 = .null := own_el U ev2 AB.1 (null_v c2) (by decide) rfl
  have u14 : u 14 = .null := own_el U ev2 AB.1 (null_v c5) (by decide) rfl
  have u13 : u 13 = .null := own_el U ev2 AB.1 (null_v c10) (by decide) rfl
  have u2 : u 2 = .null := own_el U ev2 AB.1 (null_v c19) (by decide) rfl
  obtain ⟨z1, v1⟩ := exa_v c6
  have S1 : Sta s s.heap "com/example/cafelens/cafelens/classfile/ConstantKind" "UTF8" "Lcom/example/cafelens/cafelens/classfile/ConstantKind;" (u 1) := by
    rw [own_el2 (i := 1) U ev2 AB.1 v1 c7 (by decide) rfl]
    exact Sta.start v1 (Or.inr ⟨(hw _ (List.mem_of_getElem? (i := 2) rfl)), (hw _ (List.mem_of_getElem? (i := 12) rfl))⟩)
  obtain ⟨z3, v3⟩ := exa_v c3
  have S3 : Sta s s.heap "com/example/cafelens/cafelens/classfile/ConstantKind" "INTEGER" "Lcom/example/cafelens/cafelens/classfile/ConstantKind;" (u 3) := by
    rw [own_el2 (i := 3) U ev2 AB.1 v3 c4 (by decide) rfl]
    exact Sta.start v3 (Or.inr ⟨(hw _ (List.mem_of_getElem? (i := 2) rfl)), (hw _ (List.mem_of_getElem? (i := 6) rfl))⟩)
  obtain ⟨z4, v4⟩ := exa_v c26
  have S4 : Sta s s.heap "com/example/cafelens/cafelens/classfile/ConstantKind" "FLOAT" "Lcom/example/cafelens/cafelens/classfile/ConstantKind;" (u 4) := by
    rw [own_el2 (i := 4) U ev2 AB.1 v4 c27 (by decide) rfl]
    exact Sta.start v4 (Or.inr ⟨(hw _ (List.mem_of_getElem? (i := 2) rfl)), (hw _ (List.mem_of_getElem? (i := 30) rfl))⟩)
  obtain ⟨z5, v5⟩ := exa_v c17
  have S5 : Sta s s.heap "com/example/cafelens/cafelens/classfile/ConstantKind" "LONG" "Lcom/example/cafelens/cafelens/classfile/ConstantKind;" (u 5) := by
    rw [own_el2 (i := 5) U ev2 AB.1 v5 c18 (by decide) rfl]
    exact Sta.start v5 (Or.inr ⟨(hw _ (List.mem_of_getElem? (i := 2) rfl)), (hw _ (List.mem_of_getElem? (i := 21) rfl))⟩)
  obtain ⟨z6, v6⟩ := exa_v c11
  have S6 : Sta s s.heap "com/example/cafelens/cafelens/classfile/ConstantKind" "DOUBLE" "Lcom/example/cafelens/cafelens/classfile/ConstantKind;" (u 6) := by
    rw [own_el2 (i := 6) U ev2 AB.1 v6 c12 (by decide) rfl]
    exact Sta.start v6 (Or.inr ⟨(hw _ (List.mem_of_getElem? (i := 2) rfl)), (hw _ (List.mem_of_getElem? (i := 16) rfl))⟩)
  obtain ⟨z7, v7⟩ := exa_v c20
  have S7 : Sta s s.heap "com/example/cafelens/cafelens/classfile/ConstantKind" "CLASS" "Lcom/example/cafelens/cafelens/classfile/ConstantKind;" (u 7) := by
    rw [own_el2 (i := 7) U ev2 AB.1 v7 c21 (by decide) rfl]
    exact Sta.start v7 (Or.inr ⟨(hw _ (List.mem_of_getElem? (i := 2) rfl)), (hw _ (List.mem_of_getElem? (i := 24) rfl))⟩)
  obtain ⟨z8, v8⟩ := exa_v c13
  have S8 : Sta s s.heap "com/example/cafelens/cafelens/classfile/ConstantKind" "STRING" "Lcom/example/cafelens/cafelens/classfile/ConstantKind;" (u 8) := by
    rw [own_el2 (i := 8) U ev2 AB.1 v8 c14 (by decide) rfl]
    exact Sta.start v8 (Or.inr ⟨(hw _ (List.mem_of_getElem? (i := 2) rfl)), (hw _ (List.mem_of_getElem? (i := 18) rfl))⟩)
  obtain ⟨z9, v9⟩ := exa_v c32
  have S9 : Sta s s.heap "com/example/cafelens/cafelens/classfile/ConstantKind" "FIELDREF" "Lcom/example/cafelens/cafelens/classfile/ConstantKind;" (u 9) := by
    rw [own_el2 (i := 9) U ev2 AB.1 v9 c33 (by decide) rfl]
    exact Sta.start v9 (Or.inr ⟨(hw _ (List.mem_of_getElem? (i := 2) rfl)), (hw _ (List.mem_of_getElem? (i := 36) rfl))⟩)
  obtain ⟨z10, v10⟩ := exa_v c22
  have S10 : Sta s s.heap "com/example/cafelens/cafelens/classfile/ConstantKind" "METHODREF" "Lcom/example/cafelens/cafelens/classfile/ConstantKind;" (u 10) := by
    rw [own_el2 (i := 10) U ev2 AB.1 v10 c23 (by decide) rfl]
    exact Sta.start v10 (Or.inr ⟨(hw _ (List.mem_of_getElem? (i := 2) rfl)), (hw _ (List.mem_of_getElem? (i := 26) rfl))⟩)
  obtain ⟨z11, v11⟩ := exa_v c28
  have S11 : Sta s s.heap "com/example/cafelens/cafelens/classfile/ConstantKind" "INTERFACE_METHODREF" "Lcom/example/cafelens/cafelens/classfile/ConstantKind;" (u 11) := by
    rw [own_el2 (i := 11) U ev2 AB.1 v11 c29 (by decide) rfl]
    exact Sta.start v11 (Or.inr ⟨(hw _ (List.mem_of_getElem? (i := 2) rfl)), (hw _ (List.mem_of_getElem? (i := 32) rfl))⟩)
  obtain ⟨z12, v12⟩ := exa_v c15
  have S12 : Sta s s.heap "com/example/cafelens/cafelens/classfile/ConstantKind" "NAME_AND_TYPE" "Lcom/example/cafelens/cafelens/classfile/ConstantKind;" (u 12) := by
    rw [own_el2 (i := 12) U ev2 AB.1 v12 c16 (by decide) rfl]
    exact Sta.start v12 (Or.inr ⟨(hw _ (List.mem_of_getElem? (i := 2) rfl)), (hw _ (List.mem_of_getElem? (i := 20) rfl))⟩)
  obtain ⟨z15, v15⟩ := exa_v c30
  have S15 : Sta s s.heap "com/example/cafelens/cafelens/classfile/ConstantKind" "METHOD_HANDLE" "Lcom/example/cafelens/cafelens/classfile/ConstantKind;" (u 15) := by
    rw [own_el2 (i := 15) U ev2 AB.1 v15 c31 (by decide) rfl]
    exact Sta.start v15 (Or.inr ⟨(hw _ (List.mem_of_getElem? (i := 2) rfl)), (hw _ (List.mem_of_getElem? (i := 34) rfl))⟩)
  obtain ⟨z16, v16⟩ := exa_v c24
  have S16 : Sta s s.heap "com/example/cafelens/cafelens/classfile/ConstantKind" "METHOD_TYPE" "Lcom/example/cafelens/cafelens/classfile/ConstantKind;" (u 16) := by
    rw [own_el2 (i := 16) U ev2 AB.1 v16 c25 (by decide) rfl]
    exact Sta.start v16 (Or.inr ⟨(hw _ (List.mem_of_getElem? (i := 2) rfl)), (hw _ (List.mem_of_getElem? (i := 28) rfl))⟩)
  obtain ⟨z17, v17⟩ := exa_v c38
  have S17 : Sta s s.heap "com/example/cafelens/cafelens/classfile/ConstantKind" "DYNAMIC" "Lcom/example/cafelens/cafelens/classfile/ConstantKind;" (u 17) := by
    rw [own_el2 (i := 17) U ev2 AB.1 v17 c39 (by decide) rfl]
    exact Sta.start v17 (Or.inr ⟨(hw _ (List.mem_of_getElem? (i := 2) rfl)), (hw _ (List.mem_of_getElem? (i := 41) rfl))⟩)
  obtain ⟨z18, v18⟩ := exa_v c36
  have S18 : Sta s s.heap "com/example/cafelens/cafelens/classfile/ConstantKind" "INVOKE_DYNAMIC" "Lcom/example/cafelens/cafelens/classfile/ConstantKind;" (u 18) := by
    rw [own_el2 (i := 18) U ev2 AB.1 v18 c37 (by decide) rfl]
    exact Sta.start v18 (Or.inr ⟨(hw _ (List.mem_of_getElem? (i := 2) rfl)), (hw _ (List.mem_of_getElem? (i := 40) rfl))⟩)
  obtain ⟨z19, v19⟩ := exa_v c34
  have S19 : Sta s s.heap "com/example/cafelens/cafelens/classfile/ConstantKind" "MODULE" "Lcom/example/cafelens/cafelens/classfile/ConstantKind;" (u 19) := by
    rw [own_el2 (i := 19) U ev2 AB.1 v19 c35 (by decide) rfl]
    exact Sta.start v19 (Or.inr ⟨(hw _ (List.mem_of_getElem? (i := 2) rfl)), (hw _ (List.mem_of_getElem? (i := 38) rfl))⟩)
  obtain ⟨z20, v20⟩ := exa_v c8
  have S20 : Sta s s.heap "com/example/cafelens/cafelens/classfile/ConstantKind" "PACKAGE" "Lcom/example/cafelens/cafelens/classfile/ConstantKind;" (u 20) := by
    rw [own_el2 (i := 20) U ev2 AB.1 v20 c9 (by decide) rfl]
    exact Sta.start v20 (Or.inr ⟨(hw _ (List.mem_of_getElem? (i := 2) rfl)), (hw _ (List.mem_of_getElem? (i := 14) rfl))⟩)
  have OK : own_ok s s.heap w2 cl u := ⟨SB, AB, szB, U, hu, u0, u2, u13, u14, S1, S3, S4, S5, S6, S7, S8, S9, S10, S11, S12, S15, S16, S17, S18, S19, S20⟩
  obtain ⟨n, o, h1, h2, h3, _, L, rfl, ⟨rfl, N⟩, hq⟩ := rm0 l s _ hw tables_1 w2 cl u i0 i1 s.heap s.heap.size (Nat.le_refl _) OK p e ha hc hk s m _ below hf ((Spec.applies_iff_loose hf).mp happ).1 ⟨rfl, State.Warmed39.refl s, rfl⟩ trivial
  refine ⟨n, _, h1, h2, h3, hpost _ _ _ _ _ _ ⟨Cond.after_iff.mpr rfl, Cond.after_iff.mpr (eq_i res_at (Term.int_eval (1)) rfl), trivial⟩ ⟨hq.1, hq.2.1, (hq.2.2.sift fun y hy => Or.inr (N y hy)).mono (by decide) (by decide)⟩⟩
theorem main_1_1 : Claimed_1_1 := comes_1 fun _ _ _ _ _ _ h hF => ⟨h.1, hF⟩
theorem main_1_2 : Claimed_1_2 := comes_1 fun _ _ _ _ _ _ h hF => ⟨h.2.1, hF⟩
end Jvm.Pilot.@@N@@
namespace Jvm.Pilot.@@N@@
open Jvm Jvm.ClassFile Sem Op Lib Jvm.Free Jvm.Stand Jvm.Pilot.@@N@@.Jvm.D
/-! MADE BY PROGRAM (witnessworld.py) out of the Statement's table words and the real class files: 13 classes; the members and pool entries that the words name. The judged class is class 1, her method 2. -/
namespace start1
open Jvm.ClassFile
def u (s : String) : CpInfo := .utf8 (stringToUtf16 s)
/-- a pool by its gaps: so many unusable entries, then the entry; so many at the end -/
def gap : Nat → List CpInfo → List CpInfo
  | 0, r => r
  | n + 1, r => .unusable :: gap n r
def poolList (es : List (Nat × CpInfo)) (last : Nat) : List CpInfo := es.foldr (fun e r => gap e.1 (e.2 :: r)) (gap last [])
def pool (es : List (Nat × CpInfo)) (last : Nat) : Array CpInfo := ⟨poolList es last⟩
def fileOf (pool : Array CpInfo) (this : Nat) (attrs : Array Attribute := #[]) (ms : Array MethodInfo := #[]) (fl : Nat := 33) (sup : Nat := 0) (ifs : Array Nat := #[]) (fds : Array FieldInfo := #[]) : ClassFile where
  minorVersion := 0
  majorVersion := 65
  constantPool := pool
  accessFlags := fl
  thisClass := this
  superClass := sup
  interfaces := ifs
  fields := fds
  methods := ms
  attributes := attrs
def plain (name : String) (sup : Option ClassId) : Class where
  name := name
  kind := .ordinary
  loader := none
  accessFlags := 33
  super := sup
  interfaces := #[]
  cf := none
  fields := #[]
  methods := #[]
  instanceTypes := #[]
  staticTypes := #[]
  resolved := #[]
  callSites := []
  init := .initialized
  statics := none
  mirror := none

def pool0 : Array CpInfo := pool [(5, u "<init>"), (0, u "()V"), (1, .class_ 10), (1, u "java/lang/Object")] 113

def k0m0 : Method := { name := "<init>", desc := "()V", sig := { parameters := [], returnType := none }, accessFlags := 1, code := none }
/-- java/lang/Object -/
def k0 : Class := { plain "java/lang/Object" none with
  accessFlags := 33
  interfaces := #[]
  cf := some (fileOf pool0 8 #[] #[{ accessFlags := 1, nameIndex := 5, descriptorIndex := 6, attributes := #[] }] 33 0 #[] #[])
  fields := #[]
  methods := #[k0m0]
  instanceTypes := #[]
  staticTypes := #[]
  resolved := Array.replicate 124 none
  statics := none }

def pool1 : Array CpInfo := pool [(2, .class_ 4), (1, u "java/lang/Object"), (0, u "<init>"), (0, u "()V"), (0, .fieldref 8 9), (0, .class_ 10), (0, .nameAndType 11 12), (0, u "com/example/cafelens/cafelens/classfile/ConstantKind"), (0, u "UTF8"), (0, u "Lcom/example/cafelens/cafelens/classfile/ConstantKind;"), (0, .fieldref 8 14), (0, .nameAndType 15 12), (0, u "INTEGER"), (0, .fieldref 8 17), (0, .nameAndType 18 12), (0, u "FLOAT"), (0, .fieldref 8 20), (0, .nameAndType 21 12), (0, u "LONG"), (0, .fieldref 8 23), (0, .nameAndType 24 12), (0, u "DOUBLE"), (0, .fieldref 8 26), (0, .nameAndType 27 12), (0, u "CLASS"), (0, .fieldref 8 29), (0, .nameAndType 30 12), (0, u "STRING"), (0, .fieldref 8 32), (0, .nameAndType 33 12), (0, u "FIELDREF"), (0, .fieldref 8 35), (0, .nameAndType 36 12), (0, u "METHODREF"), (0, .fieldref 8 38), (0, .nameAndType 39 12), (0, u "INTERFACE_METHODREF"), (0, .fieldref 8 41), (0, .nameAndType 42 12), (0, u "NAME_AND_TYPE"), (0, .fieldref 8 44), (0, .nameAndType 45 12), (0, u "METHOD_HANDLE"), (0, .fieldref 8 47), (0, .nameAndType 48 12), (0, u "METHOD_TYPE"), (0, .fieldref 8 50), (0, .nameAndType 51 12), (0, u "DYNAMIC"), (0, .fieldref 8 53), (0, .nameAndType 54 12), (0, u "INVOKE_DYNAMIC"), (0, .fieldref 8 56), (0, .nameAndType 57 12), (0, u "MODULE"), (0, .fieldref 8 59), (0, .nameAndType 60 12), (0, u "PACKAGE"), (0, .methodref 8 62), (0, .nameAndType 63 64), (0, u "ofTag"), (0, u "(I)Lcom/example/cafelens/cafelens/classfile/ConstantKind;"), (0, .methodref 66 67), (0, .class_ 68), (0, .nameAndType 69 64), (0, u "com/example/cafelens/cafelens/classfile/ConstantKindOfTagPinLaw"), (0, u "expected"), (3, u "law"), (0, u "(II)Z")] 2

def k1m0 : Method := { name := "<init>", desc := "()V", sig := { parameters := [], returnType := none }, accessFlags := 1, code := none }
def k1c1 : Code := { maxStack := 2, maxLocals := 1, code := method_2_code, exceptionTable := #[], attributes := #[] }
def k1m1 : Method := { name := "expected", desc := "(I)Lcom/example/cafelens/cafelens/classfile/ConstantKind;", sig := { parameters := [.int], returnType := some (.object "com/example/cafelens/cafelens/classfile/ConstantKind") }, accessFlags := 10, code := some k1c1 }
def k1c2 : Code := { maxStack := 2, maxLocals := 5, code := code, exceptionTable := #[], attributes := #[] }
def k1m2 : Method := { name := "law", desc := "(II)Z", sig := { parameters := [.int, .int], returnType := some .boolean }, accessFlags := 9, code := some k1c2 }
/-- com/example/cafelens/cafelens/classfile/ConstantKindOfTagPinLaw -/
def k1 : Class := { plain "com/example/cafelens/cafelens/classfile/ConstantKindOfTagPinLaw" (some 0) with
  accessFlags := 49
  interfaces := #[]
  cf := some (fileOf pool1 66 #[] #[{ accessFlags := 1, nameIndex := 5, descriptorIndex := 6, attributes := #[] }, { accessFlags := 10, nameIndex := 69, descriptorIndex := 64, attributes := #[] }, { accessFlags := 9, nameIndex := 73, descriptorIndex := 74, attributes := #[] }] 49 2 #[] #[])
  fields := #[]
  methods := #[k1m0, k1m1, k1m2]
  instanceTypes := #[]
  staticTypes := #[]
  resolved := Array.replicate 77 none
  statics := none }

def pool2 : Array CpInfo := pool [(1, .class_ 2), (0, u "java/lang/constant/Constable"), (0, .class_ 4), (0, u "java/lang/Object")] 6

/-- java/lang/constant/Constable -/
def k2 : Class := { plain "java/lang/constant/Constable" (some 0) with
  accessFlags := 1537
  interfaces := #[]
  cf := some (fileOf pool2 1 #[] #[] 1537 3 #[] #[])
  fields := #[]
  methods := #[]
  instanceTypes := #[]
  staticTypes := #[]
  resolved := Array.replicate 11 none
  statics := none }

def pool3 : Array CpInfo := pool [(1, .class_ 2), (0, u "java/lang/Comparable"), (0, .class_ 4), (0, u "java/lang/Object")] 7

/-- java/lang/Comparable -/
def k3 : Class := { plain "java/lang/Comparable" (some 0) with
  accessFlags := 1537
  interfaces := #[]
  cf := some (fileOf pool3 1 #[] #[] 1537 3 #[] #[])
  fields := #[]
  methods := #[]
  instanceTypes := #[]
  staticTypes := #[]
  resolved := Array.replicate 12 none
  statics := none }

def pool4 : Array CpInfo := pool [(1, .class_ 2), (0, u "java/io/Serializable"), (0, .class_ 4), (0, u "java/lang/Object")] 2

/-- java/io/Serializable -/
def k4 : Class := { plain "java/io/Serializable" (some 0) with
  accessFlags := 1537
  interfaces := #[]
  cf := some (fileOf pool4 1 #[] #[] 1537 3 #[] #[])
  fields := #[]
  methods := #[]
  instanceTypes := #[]
  staticTypes := #[]
  resolved := Array.replicate 7 none
  statics := none }

def pool5 : Array CpInfo := pool [(2, .class_ 4), (1, u "java/lang/Enum"), (0, u "name"), (0, u "Ljava/lang/String;"), (2, u "ordinal"), (0, u "I"), (1, .class_ 14), (1, u "java/lang/Object"), (4, u "hash"), (86, .class_ 108), (1, u "java/lang/Enum$EnumDesc"), (2, .class_ 112), (0, u "java/lang/constant/Constable"), (0, .class_ 114), (0, u "java/lang/Comparable"), (0, .class_ 116), (0, u "java/io/Serializable")] 87

/-- java/lang/Enum -/
def k5 : Class := { plain "java/lang/Enum" (some 0) with
  accessFlags := 1057
  interfaces := #[2, 3, 4]
  cf := some (fileOf pool5 2 #[.nestMembers #[106]] #[] 1057 12 #[111, 113, 115] #[{ accessFlags := 18, nameIndex := 5, descriptorIndex := 6, attributes := #[] }, { accessFlags := 18, nameIndex := 9, descriptorIndex := 10, attributes := #[] }, { accessFlags := 2, nameIndex := 19, descriptorIndex := 10, attributes := #[] }])
  fields := #[{ name := "name", type := (.object "java/lang/String"), accessFlags := 18, slot := 0, constantValue := 0 }, { name := "ordinal", type := .int, accessFlags := 18, slot := 1, constantValue := 0 }, { name := "hash", type := .int, accessFlags := 2, slot := 2, constantValue := 0 }]
  methods := #[]
  instanceTypes := #[(.object "java/lang/String"), .int, .int]
  staticTypes := #[]
  resolved := Array.replicate 204 none
  statics := none }

def pool6 : Array CpInfo := pool [(1, .class_ 2), (0, u "com/example/cafelens/cafelens/classfile/ConstantKind"), (2, u "UTF8"), (0, u "Lcom/example/cafelens/cafelens/classfile/ConstantKind;"), (2, u "INTEGER"), (2, u "FLOAT"), (2, u "LONG"), (2, u "DOUBLE"), (2, u "CLASS"), (2, u "STRING"), (2, u "FIELDREF"), (2, u "METHODREF"), (2, u "INTERFACE_METHODREF"), (2, u "NAME_AND_TYPE"), (2, u "METHOD_HANDLE"), (2, u "METHOD_TYPE"), (2, u "DYNAMIC"), (2, u "INVOKE_DYNAMIC"), (2, u "MODULE"), (2, u "PACKAGE"), (2, u "$VALUES"), (0, u "[Lcom/example/cafelens/cafelens/classfile/ConstantKind;"), (6, .class_ 67), (1, u "java/lang/Enum"), (8, u "tag"), (0, u "I"), (2, u "label"), (0, u "Ljava/lang/String;"), (2, u "size"), (0, .fieldref 1 86), (0, .nameAndType 87 58), (0, u "BY_TAG"), (95, u "ofTag"), (0, u "(I)Lcom/example/cafelens/cafelens/classfile/ConstantKind;")] 40

def k6c0 : Code := { maxStack := 2, maxLocals := 1, code := prog_47_method_4_code, exceptionTable := #[], attributes := #[] }
def k6m0 : Method := { name := "ofTag", desc := "(I)Lcom/example/cafelens/cafelens/classfile/ConstantKind;", sig := { parameters := [.int], returnType := some (.object "com/example/cafelens/cafelens/classfile/ConstantKind") }, accessFlags := 9, code := some k6c0 }
/-- com/example/cafelens/cafelens/classfile/ConstantKind -/
def k6 : Class := { plain "com/example/cafelens/cafelens/classfile/ConstantKind" (some 5) with
  accessFlags := 16433
  interfaces := #[]
  cf := some (fileOf pool6 1 #[] #[{ accessFlags := 9, nameIndex := 183, descriptorIndex := 184, attributes := #[] }] 16433 65 #[] #[{ accessFlags := 16409, nameIndex := 5, descriptorIndex := 6, attributes := #[] }, { accessFlags := 16409, nameIndex := 9, descriptorIndex := 6, attributes := #[] }, { accessFlags := 16409, nameIndex := 12, descriptorIndex := 6, attributes := #[] }, { accessFlags := 16409, nameIndex := 15, descriptorIndex := 6, attributes := #[] }, { accessFlags := 16409, nameIndex := 18, descriptorIndex := 6, attributes := #[] }, { accessFlags := 16409, nameIndex := 21, descriptorIndex := 6, attributes := #[] }, { accessFlags := 16409, nameIndex := 24, descriptorIndex := 6, attributes := #[] }, { accessFlags := 16409, nameIndex := 27, descriptorIndex := 6, attributes := #[] }, { accessFlags := 16409, nameIndex := 30, descriptorIndex := 6, attributes := #[] }, { accessFlags := 16409, nameIndex := 33, descriptorIndex := 6, attributes := #[] }, { accessFlags := 16409, nameIndex := 36, descriptorIndex := 6, attributes := #[] }, { accessFlags := 16409, nameIndex := 39, descriptorIndex := 6, attributes := #[] }, { accessFlags := 16409, nameIndex := 42, descriptorIndex := 6, attributes := #[] }, { accessFlags := 16409, nameIndex := 45, descriptorIndex := 6, attributes := #[] }, { accessFlags := 16409, nameIndex := 48, descriptorIndex := 6, attributes := #[] }, { accessFlags := 16409, nameIndex := 51, descriptorIndex := 6, attributes := #[] }, { accessFlags := 16409, nameIndex := 54, descriptorIndex := 6, attributes := #[] }, { accessFlags := 26, nameIndex := 87, descriptorIndex := 58, attributes := #[] }, { accessFlags := 18, nameIndex := 76, descriptorIndex := 77, attributes := #[] }, { accessFlags := 18, nameIndex := 80, descriptorIndex := 81, attributes := #[] }, { accessFlags := 18, nameIndex := 84, descriptorIndex := 77, attributes := #[] }, { accessFlags := 4122, nameIndex := 57, descriptorIndex := 58, attributes := #[] }])
  fields := #[{ name := "UTF8", type := (.object "com/example/cafelens/cafelens/classfile/ConstantKind"), accessFlags := 16409, slot := 0, constantValue := 0 }, { name := "INTEGER", type := (.object "com/example/cafelens/cafelens/classfile/ConstantKind"), accessFlags := 16409, slot := 1, constantValue := 0 }, { name := "FLOAT", type := (.object "com/example/cafelens/cafelens/classfile/ConstantKind"), accessFlags := 16409, slot := 2, constantValue := 0 }, { name := "LONG", type := (.object "com/example/cafelens/cafelens/classfile/ConstantKind"), accessFlags := 16409, slot := 3, constantValue := 0 }, { name := "DOUBLE", type := (.object "com/example/cafelens/cafelens/classfile/ConstantKind"), accessFlags := 16409, slot := 4, constantValue := 0 }, { name := "CLASS", type := (.object "com/example/cafelens/cafelens/classfile/ConstantKind"), accessFlags := 16409, slot := 5, constantValue := 0 }, { name := "STRING", type := (.object "com/example/cafelens/cafelens/classfile/ConstantKind"), accessFlags := 16409, slot := 6, constantValue := 0 }, { name := "FIELDREF", type := (.object "com/example/cafelens/cafelens/classfile/ConstantKind"), accessFlags := 16409, slot := 7, constantValue := 0 }, { name := "METHODREF", type := (.object "com/example/cafelens/cafelens/classfile/ConstantKind"), accessFlags := 16409, slot := 8, constantValue := 0 }, { name := "INTERFACE_METHODREF", type := (.object "com/example/cafelens/cafelens/classfile/ConstantKind"), accessFlags := 16409, slot := 9, constantValue := 0 }, { name := "NAME_AND_TYPE", type := (.object "com/example/cafelens/cafelens/classfile/ConstantKind"), accessFlags := 16409, slot := 10, constantValue := 0 }, { name := "METHOD_HANDLE", type := (.object "com/example/cafelens/cafelens/classfile/ConstantKind"), accessFlags := 16409, slot := 11, constantValue := 0 }, { name := "METHOD_TYPE", type := (.object "com/example/cafelens/cafelens/classfile/ConstantKind"), accessFlags := 16409, slot := 12, constantValue := 0 }, { name := "DYNAMIC", type := (.object "com/example/cafelens/cafelens/classfile/ConstantKind"), accessFlags := 16409, slot := 13, constantValue := 0 }, { name := "INVOKE_DYNAMIC", type := (.object "com/example/cafelens/cafelens/classfile/ConstantKind"), accessFlags := 16409, slot := 14, constantValue := 0 }, { name := "MODULE", type := (.object "com/example/cafelens/cafelens/classfile/ConstantKind"), accessFlags := 16409, slot := 15, constantValue := 0 }, { name := "PACKAGE", type := (.object "com/example/cafelens/cafelens/classfile/ConstantKind"), accessFlags := 16409, slot := 16, constantValue := 0 }, { name := "BY_TAG", type := (.array (.object "com/example/cafelens/cafelens/classfile/ConstantKind")), accessFlags := 26, slot := 17, constantValue := 0 }, { name := "tag", type := .int, accessFlags := 18, slot := 3, constantValue := 0 }, { name := "label", type := (.object "java/lang/String"), accessFlags := 18, slot := 4, constantValue := 0 }, { name := "size", type := .int, accessFlags := 18, slot := 5, constantValue := 0 }, { name := "$VALUES", type := (.array (.object "com/example/cafelens/cafelens/classfile/ConstantKind")), accessFlags := 4122, slot := 18, constantValue := 0 }]
  methods := #[k6m0]
  instanceTypes := #[(.object "java/lang/String"), .int, .int, .int, (.object "java/lang/String"), .int]
  staticTypes := #[(.object "com/example/cafelens/cafelens/classfile/ConstantKind"), (.object "com/example/cafelens/cafelens/classfile/ConstantKind"), (.object "com/example/cafelens/cafelens/classfile/ConstantKind"), (.object "com/example/cafelens/cafelens/classfile/ConstantKind"), (.object "com/example/cafelens/cafelens/classfile/ConstantKind"), (.object "com/example/cafelens/cafelens/classfile/ConstantKind"), (.object "com/example/cafelens/cafelens/classfile/ConstantKind"), (.object "com/example/cafelens/cafelens/classfile/ConstantKind"), (.object "com/example/cafelens/cafelens/classfile/ConstantKind"), (.object "com/example/cafelens/cafelens/classfile/ConstantKind"), (.object "com/example/cafelens/cafelens/classfile/ConstantKind"), (.object "com/example/cafelens/cafelens/classfile/ConstantKind"), (.object "com/example/cafelens/cafelens/classfile/ConstantKind"), (.object "com/example/cafelens/cafelens/classfile/ConstantKind"), (.object "com/example/cafelens/cafelens/classfile/ConstantKind"), (.object "com/example/cafelens/cafelens/classfile/ConstantKind"), (.object "com/example/cafelens/cafelens/classfile/ConstantKind"), (.array (.object "com/example/cafelens/cafelens/classfile/ConstantKind")), (.array (.object "com/example/cafelens/cafelens/classfile/ConstantKind"))]
  resolved := Array.replicate 225 none
  statics := some 0 }

def pool7 : Array CpInfo := pool [(1, u "java/lang/Cloneable"), (0, .class_ 1), (0, u "java/lang/Object"), (0, .class_ 3)] 3

/-- java/lang/Cloneable -/
def k7 : Class := { plain "java/lang/Cloneable" (some 0) with
  accessFlags := 1537
  interfaces := #[]
  cf := some (fileOf pool7 2 #[] #[] 1537 4 #[] #[])
  fields := #[]
  methods := #[]
  instanceTypes := #[]
  staticTypes := #[]
  resolved := Array.replicate 8 none
  statics := none }

/-- the primitive byte -/
def k8 : Class := { plain "byte" none with kind := .primitive 'B', accessFlags := 0x411 }
/-- [B -/
def k9 : Class := { plain "[B" (some 0) with kind := .array 8 .byte, interfaces := #[7, 4], accessFlags := 1041 }

/-- the primitive int -/
def k10 : Class := { plain "int" none with kind := .primitive 'I', accessFlags := 0x411 }
/-- [I -/
def k11 : Class := { plain "[I" (some 0) with kind := .array 10 .int, interfaces := #[7, 4], accessFlags := 1041 }

/-- [Lcom/example/cafelens/cafelens/classfile/ConstantKind; -/
def k12 : Class := { plain "[Lcom/example/cafelens/cafelens/classfile/ConstantKind;" (some 0) with kind := .array 6 (.object "com/example/cafelens/cafelens/classfile/ConstantKind"), interfaces := #[7, 4], accessFlags := 1041 }

def heap : Heap := #[{ cls := 6, slots := #[.ref 2, .ref 3, .ref 4, .ref 5, .ref 6, .ref 7, .ref 8, .ref 9, .ref 10, .ref 11, .ref 12, .ref 13, .ref 14, .ref 15, .ref 16, .ref 17, .ref 18, .ref 1, .null], vm := .statics 6 },
  { cls := 12, slots := #[.null, .ref 2, .null, .ref 3, .ref 4, .ref 5, .ref 6, .ref 7, .ref 8, .ref 9, .ref 10, .ref 11, .ref 12, .null, .null, .ref 13, .ref 14, .ref 15, .ref 16, .ref 17, .ref 18], vm := .none },
  { cls := 6, slots := #[.null, .int 0, .int 0, .int 1, .null, .int 0], vm := .none },
  { cls := 6, slots := #[.null, .int 0, .int 0, .int 3, .null, .int 0], vm := .none },
  { cls := 6, slots := #[.null, .int 0, .int 0, .int 4, .null, .int 0], vm := .none },
  { cls := 6, slots := #[.null, .int 0, .int 0, .int 5, .null, .int 0], vm := .none },
  { cls := 6, slots := #[.null, .int 0, .int 0, .int 6, .null, .int 0], vm := .none },
  { cls := 6, slots := #[.null, .int 0, .int 0, .int 7, .null, .int 0], vm := .none },
  { cls := 6, slots := #[.null, .int 0, .int 0, .int 8, .null, .int 0], vm := .none },
  { cls := 6, slots := #[.null, .int 0, .int 0, .int 9, .null, .int 0], vm := .none },
  { cls := 6, slots := #[.null, .int 0, .int 0, .int 10, .null, .int 0], vm := .none },
  { cls := 6, slots := #[.null, .int 0, .int 0, .int 11, .null, .int 0], vm := .none },
  { cls := 6, slots := #[.null, .int 0, .int 0, .int 12, .null, .int 0], vm := .none },
  { cls := 6, slots := #[.null, .int 0, .int 0, .int 15, .null, .int 0], vm := .none },
  { cls := 6, slots := #[.null, .int 0, .int 0, .int 16, .null, .int 0], vm := .none },
  { cls := 6, slots := #[.null, .int 0, .int 0, .int 17, .null, .int 0], vm := .none },
  { cls := 6, slots := #[.null, .int 0, .int 0, .int 18, .null, .int 0], vm := .none },
  { cls := 6, slots := #[.null, .int 0, .int 0, .int 19, .null, .int 0], vm := .none },
  { cls := 6, slots := #[.null, .int 0, .int 0, .int 20, .null, .int 0], vm := .none }]
def classes : Array Class := #[k0, k1, k2, k3, k4, k5, k6, k7, k8, k9, k10, k11, k12]
def interned : List (Array UInt16 × Addr) := []
def slotsUsed : Nat := 142
def theMethod : MethodId := ⟨1, 2⟩
def args0 : Array Value := #[.int 5, .int 6]
def aboutOver (below : List Frame) : State where
  vm := { classes := classes, interned := interned.toArray }
  heap := heap
  slotsUsed := slotsUsed
  threads := #[{ frames := .invoking theMethod args0 :: below }]
def below0 : List Frame := [.native { method := ⟨0, 0⟩, args := #[] }]
def about1 : State := aboutOver below0
def p0 : Program := .bare "" "" ""
def e0 : Env := launch0.env 0 0 0
theorem w_frames : about1.frames = Frame.invoking theMethod args0 :: below0 := rfl
set_option maxRecDepth 65536 in
theorem w_args : argsFit about1.vm theMethod args0 = true := by decide +kernel
set_option maxRecDepth 65536 in
theorem w_heap : heapFits about1 = true := by decide +kernel
set_option maxRecDepth 65536 in
theorem w_runnable : about1.curStatus? = some .runnable := by decide +kernel
set_option maxRecDepth 65536 in
theorem w_alone : about1.alone = true := by decide +kernel
set_option maxRecDepth 65536 in
theorem w_named : about1.methodNamed? x = some theMethod := by decide +kernel
set_option maxRecDepth 65536 in
theorem w_hears : about1.hears theMethod below0 = true := by decide +kernel
set_option maxRecDepth 65536 in
theorem w_ripe : about1.ripe theMethod args0 below0 = true := by decide +kernel
theorem w_running : about1.status = .running := rfl
set_option maxRecDepth 65536 in
theorem w_room : about1.hasRoom e0.platform room_1 = true :=
  launch0.hasRoom_least _ room_1 (by decide +kernel) (by decide +kernel) (by decide +kernel) (by decide +kernel) (by decide +kernel) (by decide +kernel)
theorem allAtoms_all (ts : List Jvm.Cond) (a : Array Jvm.Value) (st : Jvm.State) : (allAtoms ts).before a st = ts.all (fun c => c.before a st) := by
  induction ts with
  | nil => rfl
  | cons c t ih =>
    show (Jvm.Cond.and c (allAtoms t)).before a st = _
    rw [Jvm.Cond.before_and, ih, List.all_cons]
def words1 : List Jvm.Cond := Jvm.Cond.code x code maxLocals ret :: tables_1
/-- a 'code' word, met by the world's own term for the bytes: nothing is compared byte by byte -/
theorem code_word {y : MethodName} {bytes : ByteArray} {mx : Nat} {rt : Option FieldType} {a : Array Value} {s : State} {m : MethodId} {meth : Method} {c : Code} (h1 : s.methodNamed? y = some m) (h2 : s.vm.method? m = some meth) (h3 : meth.code = some c) (h4 : c.code = bytes)
    (h5 : (c.maxLocals == mx && c.exceptionTable.isEmpty && decide (c.maxStack ≤ mostOperands) && decide (meth.sig.returnType = rt) && !meth.locks && decide (parseMethodDescriptor y.desc = some meth.sig)) = true) : (Jvm.Cond.code y bytes mx rt).before a s = true := by
  simp only [Bool.and_eq_true, beq_iff_eq, Bool.not_eq_true', decide_eq_true_eq] at h5
  obtain ⟨⟨⟨⟨⟨g1, g2⟩, g3⟩, g4⟩, g5⟩, g6⟩ := h5
  simp [Cond.before, Cond.holds, Cond.value, h1, h2, h3, h4, g1, g2, g3, g4, g5, g6]
def isCode : Jvm.Cond → Bool
  | .code _ _ _ _ => true
  | _ => false
theorem all_split {L : List Jvm.Cond} {P : Jvm.Cond → Bool} (h1 : L.all (fun c => isCode c || P c) = true) (h2 : ∀ c ∈ L.filter isCode, P c = true) : L.all P = true := by
  refine List.all_eq_true.mpr fun c hc => ?_
  have h := List.all_eq_true.mp h1 c hc
  rcases Bool.eq_false_or_eq_true (isCode c) with hi | hi
  · exact h2 c (List.mem_filter.mpr ⟨hc, hi⟩)
  · simpa [hi] using h
set_option maxRecDepth 65536 in
theorem w_c0 : (Jvm.Cond.code x code maxLocals ret).before args0 about1 = true := code_word (m := ⟨1, 2⟩) (meth := k1m2) (c := k1c2) (by decide +kernel) rfl rfl rfl (by decide +kernel)
set_option maxRecDepth 65536 in
theorem w_c1 : (Jvm.Cond.code ({ cls := "com/example/cafelens/cafelens/classfile/ConstantKind", name := "ofTag", desc := "(I)Lcom/example/cafelens/cafelens/classfile/ConstantKind;" } : Jvm.MethodName) prog_47_method_4_code (1 : Nat) (Option.some (Jvm.ClassFile.FieldType.object "com/example/cafelens/cafelens/classfile/ConstantKind"))).before args0 about1 = true := code_word (m := ⟨6, 0⟩) (meth := k6m0) (c := k6c0) (by decide +kernel) rfl rfl rfl (by decide +kernel)
set_option maxRecDepth 65536 in
theorem w_c2 : (Jvm.Cond.code ({ cls := "com/example/cafelens/cafelens/classfile/ConstantKindOfTagPinLaw", name := "expected", desc := "(I)Lcom/example/cafelens/cafelens/classfile/ConstantKind;" } : Jvm.MethodName) method_2_code (1 : Nat) (Option.some (Jvm.ClassFile.FieldType.object "com/example/cafelens/cafelens/classfile/ConstantKind"))).before args0 about1 = true := code_word (m := ⟨1, 1⟩) (meth := k1m1) (c := k1c1) (by decide +kernel) rfl rfl rfl (by decide +kernel)
def codes1 : List Jvm.Cond := [Jvm.Cond.code x code maxLocals ret, Jvm.Cond.code ({ cls := "com/example/cafelens/cafelens/classfile/ConstantKind", name := "ofTag", desc := "(I)Lcom/example/cafelens/cafelens/classfile/ConstantKind;" } : Jvm.MethodName) prog_47_method_4_code (1 : Nat) (Option.some (Jvm.ClassFile.FieldType.object "com/example/cafelens/cafelens/classfile/ConstantKind")), Jvm.Cond.code ({ cls := "com/example/cafelens/cafelens/classfile/ConstantKindOfTagPinLaw", name := "expected", desc := "(I)Lcom/example/cafelens/cafelens/classfile/ConstantKind;" } : Jvm.MethodName) method_2_code (1 : Nat) (Option.some (Jvm.ClassFile.FieldType.object "com/example/cafelens/cafelens/classfile/ConstantKind"))]
set_option maxRecDepth 65536 in
theorem codes_eq : words1.filter isCode = codes1 := rfl
theorem w_codes : ∀ c ∈ words1.filter isCode, c.before args0 about1 = true := by
  rw [codes_eq]
  intro c hc
  simp only [codes1, List.mem_cons, List.not_mem_nil, or_false] at hc
  rcases hc with rfl | rfl | rfl
  · exact w_c0
  · exact w_c1
  · exact w_c2
set_option maxRecDepth 65536 in
theorem w_t1 : (words1.take 24).all (fun c => isCode c || c.before args0 about1) = true := by decide +kernel
set_option maxRecDepth 65536 in
theorem w_t2 : (words1.drop 24).all (fun c => isCode c || c.before args0 about1) = true := by decide +kernel
theorem w_tables : (allAtoms (Jvm.Cond.code x code maxLocals ret :: tables_1)).before args0 about1 = true := by
  rw [allAtoms_all]
  show words1.all (fun c => c.before args0 about1) = true
  refine all_split ?_ w_codes
  rw [← List.take_append_drop 24 words1, List.all_append, w_t1, w_t2]
  rfl
set_option maxRecDepth 65536 in
theorem w_case : (Jvm.Cond.and given_1 narrow_1).before args0 about1 = true := by decide +kernel
theorem w_applies : (headSpec (Jvm.Cond.code x code maxLocals ret :: tables_1) room_1).applies x e0.platform about1 = true :=
  (Spec.applies_iff w_frames).mpr ⟨w_running, w_runnable, w_alone, w_named, w_hears, w_ripe, w_room, w_tables⟩
theorem atStart : AtStart classFile x code maxLocals ret World_1 tables_1 room_1 Calls_1 rest_1 Pre_1 launch0 p0 e0 about1 theMethod args0 below0 :=
  ⟨lists_1, trivial, launch0.admits_env _ _ _, launch0.least_env, fairChoices_fair.cas, fairChoices_fair.clock, w_frames, w_args, w_heap, w_applies, trivial, trivial, w_case⟩
end start1
theorem witness_1 : WitnessClaimed_1 := ⟨start1.p0, start1.e0, start1.about1, start1.theMethod, start1.args0, start1.below0, start1.atStart⟩
end Jvm.Pilot.@@N@@
