import JvmDerived
import JvmDerived.Pilot.@@N@@Statement
import JvmDerived.Pilot.@@N@@Code
set_option linter.unusedVariables false
set_option linter.unusedSimpArgs false
namespace Jvm.Pilot.@@N@@
open Jvm Jvm.ClassFile Sem Op Lib Jvm.Free Jvm.Stand Jvm.LawKit Jvm.RoadKit Bundle Jvm.Pilot.@@N@@.Jvm.D
theorem own_cat {v : Value} (h : v.isRef = true) : v.category = 1 := by rcases ref_cases h with rfl | ⟨_, rfl⟩ <;> rfl
theorem own_store {l : Array Slot} {i : Nat} {v : Value} {o : Slot} (ho : One o) (hv : v.category = 1) (hold : l[i]? = some o := by rfl) : storeLocals l i v = some (l.setIfInBounds i (.val v)) := XS.store1 hold ho hv

def own_it (z : Nat → Addr) (k : Int32) : Addr := if k = 0 then z 0 else if k = 1 then z 1 else if k = 2 then z 2 else if k = 3 then z 3 else if k = 4 then z 4 else if k = 5 then z 5 else if k = 6 then z 6 else if k = 7 then z 7 else if k = 8 then z 8 else if k = 9 then z 9 else if k = 10 then z 10 else  z 11
def own_cv (k : Int32) : Int32 := if k = 10 then 7 else if k = 11 then 12 else if k = 2 then 6 else if k = 3 then 6 else 3
def own_ex (k t : Int32) : Int32 := if k = 10 then t + 6 else if k = 11 then 12 else if k = 2 then 6 else if k = 3 then 6 else 3
def own_max (x y : Int32) : Int32 := if x < y then y else x
def own_co (a tile : Addr) (c t : Int32) : Int32 := if a = tile then c + t - 1 else c
def own_ok (Z : State) (h0 : Heap) (z : Nat → Addr) : Prop := Sta Z h0 "com/example/amphora/amphora/Item" "CONTROL" "Lcom/example/amphora/amphora/Item;" (.ref (z 0)) ∧ Sta Z h0 "com/example/amphora/amphora/Item" "CARAVAN" "Lcom/example/amphora/amphora/Item;" (.ref (z 1)) ∧ Sta Z h0 "com/example/amphora/amphora/Item" "MARKET" "Lcom/example/amphora/amphora/Item;" (.ref (z 2)) ∧ Sta Z h0 "com/example/amphora/amphora/Item" "TEMPLE" "Lcom/example/amphora/amphora/Item;" (.ref (z 3)) ∧ Sta Z h0 "com/example/amphora/amphora/Item" "CITY" "Lcom/example/amphora/amphora/Item;" (.ref (z 4)) ∧ Sta Z h0 "com/example/amphora/amphora/Item" "CAPITAL" "Lcom/example/amphora/amphora/Item;" (.ref (z 5)) ∧ Sta Z h0 "com/example/amphora/amphora/Item" "LEGENDARY" "Lcom/example/amphora/amphora/Item;" (.ref (z 6)) ∧ Sta Z h0 "com/example/amphora/amphora/Item" "LEGION" "Lcom/example/amphora/amphora/Item;" (.ref (z 7)) ∧ Sta Z h0 "com/example/amphora/amphora/Item" "FORT" "Lcom/example/amphora/amphora/Item;" (.ref (z 8)) ∧ Sta Z h0 "com/example/amphora/amphora/Item" "TRIREME" "Lcom/example/amphora/amphora/Item;" (.ref (z 9)) ∧ Sta Z h0 "com/example/amphora/amphora/Item" "TILE" "Lcom/example/amphora/amphora/Item;" (.ref (z 10)) ∧ Sta Z h0 "com/example/amphora/amphora/Item" "PYRAMIDS" "Lcom/example/amphora/amphora/Item;" (.ref (z 11)) ∧ Exa Z h0 (z 0) "com/example/amphora/amphora/Item" ∧ Exa Z h0 (z 1) "com/example/amphora/amphora/Item" ∧ Exa Z h0 (z 2) "com/example/amphora/amphora/Item" ∧ Exa Z h0 (z 3) "com/example/amphora/amphora/Item" ∧ Exa Z h0 (z 4) "com/example/amphora/amphora/Item" ∧ Exa Z h0 (z 5) "com/example/amphora/amphora/Item" ∧ Exa Z h0 (z 6) "com/example/amphora/amphora/Item" ∧ Exa Z h0 (z 7) "com/example/amphora/amphora/Item" ∧ Exa Z h0 (z 8) "com/example/amphora/amphora/Item" ∧ Exa Z h0 (z 9) "com/example/amphora/amphora/Item" ∧ Exa Z h0 (z 10) "com/example/amphora/amphora/Item" ∧ Exa Z h0 (z 11) "com/example/amphora/amphora/Item" ∧ Fld Z h0 (z 0) "com/example/amphora/amphora/Item" "cost" "I" (.int 3) ∧ Fld Z h0 (z 1) "com/example/amphora/amphora/Item" "cost" "I" (.int 3) ∧ Fld Z h0 (z 2) "com/example/amphora/amphora/Item" "cost" "I" (.int 6) ∧ Fld Z h0 (z 3) "com/example/amphora/amphora/Item" "cost" "I" (.int 6) ∧ Fld Z h0 (z 4) "com/example/amphora/amphora/Item" "cost" "I" (.int 3) ∧ Fld Z h0 (z 5) "com/example/amphora/amphora/Item" "cost" "I" (.int 3) ∧ Fld Z h0 (z 6) "com/example/amphora/amphora/Item" "cost" "I" (.int 3) ∧ Fld Z h0 (z 7) "com/example/amphora/amphora/Item" "cost" "I" (.int 3) ∧ Fld Z h0 (z 8) "com/example/amphora/amphora/Item" "cost" "I" (.int 3) ∧ Fld Z h0 (z 9) "com/example/amphora/amphora/Item" "cost" "I" (.int 3) ∧ Fld Z h0 (z 10) "com/example/amphora/amphora/Item" "cost" "I" (.int 7) ∧ Fld Z h0 (z 11) "com/example/amphora/amphora/Item" "cost" "I" (.int 12) ∧ z 0 ≠ z 10 ∧ z 1 ≠ z 10 ∧ z 2 ≠ z 10 ∧ z 3 ≠ z 10 ∧ z 4 ≠ z 10 ∧ z 5 ≠ z 10 ∧ z 6 ≠ z 10 ∧ z 7 ≠ z 10 ∧ z 8 ≠ z 10 ∧ z 9 ≠ z 10 ∧ z 11 ≠ z 10
def own_k (k : Int32) : Prop := k = 0 ∨ k = 1 ∨ k = 2 ∨ k = 3 ∨ k = 4 ∨ k = 5 ∨ k = 6 ∨ k = 7 ∨ k = 8 ∨ k = 9 ∨ k = 10 ∨ k = 11
theorem own_itE {Z : State} {h0 : Heap} {z : Nat → Addr} (OK : own_ok Z h0 z) {k : Int32} (hk : own_k k) : Exa Z h0 (own_it z k) "com/example/amphora/amphora/Item" := by
  obtain ⟨S0, S1, S2, S3, S4, S5, S6, S7, S8, S9, S10, S11, E0, E1, E2, E3, E4, E5, E6, E7, E8, E9, E10, E11, F0, F1, F2, F3, F4, F5, F6, F7, F8, F9, F10, F11, D0, D1, D2, D3, D4, D5, D6, D7, D8, D9, D11⟩ := OK
  rcases hk with rfl | rfl | rfl | rfl | rfl | rfl | rfl | rfl | rfl | rfl | rfl | rfl <;> assumption
theorem own_itF {Z : State} {h0 : Heap} {z : Nat → Addr} (OK : own_ok Z h0 z) {k : Int32} (hk : own_k k) : Fld Z h0 (own_it z k) "com/example/amphora/amphora/Item" "cost" "I" (.int (own_cv k)) := by
  obtain ⟨S0, S1, S2, S3, S4, S5, S6, S7, S8, S9, S10, S11, E0, E1, E2, E3, E4, E5, E6, E7, E8, E9, E10, E11, F0, F1, F2, F3, F4, F5, F6, F7, F8, F9, F10, F11, D0, D1, D2, D3, D4, D5, D6, D7, D8, D9, D11⟩ := OK
  rcases hk with rfl | rfl | rfl | rfl | rfl | rfl | rfl | rfl | rfl | rfl | rfl | rfl <;> assumption
theorem own_fin {Z : State} {h0 : Heap} {z : Nat → Addr} (OK : own_ok Z h0 z) {k : Int32} (hk : own_k k) (t : Int32) : own_co (own_it z k) (z 10) (own_cv k) t = own_ex k t := by
  obtain ⟨S0, S1, S2, S3, S4, S5, S6, S7, S8, S9, S10, S11, E0, E1, E2, E3, E4, E5, E6, E7, E8, E9, E10, E11, F0, F1, F2, F3, F4, F5, F6, F7, F8, F9, F10, F11, D0, D1, D2, D3, D4, D5, D6, D7, D8, D9, D11⟩ := OK
  rcases hk with rfl | rfl | rfl | rfl | rfl | rfl | rfl | rfl | rfl | rfl | rfl | rfl
  · exact if_neg D0
  · exact if_neg D1
  · exact if_neg D2
  · exact if_neg D3
  · exact if_neg D4
  · exact if_neg D5
  · exact if_neg D6
  · exact if_neg D7
  · exact if_neg D8
  · exact if_neg D9
  · show (if z 10 = z 10 then (7 : Int32) + t - 1 else 7) = t + 6
    rw [if_pos rfl]
    have e : (7 : Int32) = 6 + 1 := by decide
    rw [e, Int32.add_comm t 6, Int32.add_assoc, Int32.add_comm 1 t, ← Int32.add_assoc]
    exact Int32.add_sub_cancel _ _
  · exact if_neg D11
theorem own_kk (x : Int32) : own_k ((x &&& (2147483647 : Int32)) % (12 : Int32)) := by
  have h1 := c_mask x 2147483647 31 (by decide) (by decide)
  have h2 := (c_irem (x &&& (2147483647 : Int32)) 12 12 (by decide)).1
  generalize (x &&& (2147483647 : Int32)) = y at h1 h2 ⊢
  have h3 := h2 (by omega)
  generalize y % (12 : Int32) = r at h3 ⊢
  have h4 : r.toInt = 0 ∨ r.toInt = 1 ∨ r.toInt = 2 ∨ r.toInt = 3 ∨ r.toInt = 4 ∨ r.toInt = 5 ∨ r.toInt = 6 ∨ r.toInt = 7 ∨ r.toInt = 8 ∨ r.toInt = 9 ∨ r.toInt = 10 ∨ r.toInt = 11 := by omega
  unfold own_k
  rcases h4 with h | h | h | h | h | h | h | h | h | h | h | h
  · have e : r = 0 := Int32.toInt_inj.mp (h.trans rfl)
    subst e; decide
  · have e : r = 1 := Int32.toInt_inj.mp (h.trans rfl)
    subst e; decide
  · have e : r = 2 := Int32.toInt_inj.mp (h.trans rfl)
    subst e; decide
  · have e : r = 3 := Int32.toInt_inj.mp (h.trans rfl)
    subst e; decide
  · have e : r = 4 := Int32.toInt_inj.mp (h.trans rfl)
    subst e; decide
  · have e : r = 5 := Int32.toInt_inj.mp (h.trans rfl)
    subst e; decide
  · have e : r = 6 := Int32.toInt_inj.mp (h.trans rfl)
    subst e; decide
  · have e : r = 7 := Int32.toInt_inj.mp (h.trans rfl)
    subst e; decide
  · have e : r = 8 := Int32.toInt_inj.mp (h.trans rfl)
    subst e; decide
  · have e : r = 9 := Int32.toInt_inj.mp (h.trans rfl)
    subst e; decide
  · have e : r = 10 := Int32.toInt_inj.mp (h.trans rfl)
    subst e; decide
  · have e : r = 11 := Int32.toInt_inj.mp (h.trans rfl)
    subst e; decide
theorem d1_0 : decode jdk_29_method_65_code 0 = .ok (.iload_n 0, 1) := by decide +kernel
theorem d1_1 : decode jdk_29_method_65_code 1 = .ok (.iload_n 1, 1) := by decide +kernel
theorem d1_2 : decode jdk_29_method_65_code 2 = .ok (.if_icmp .lt 7, 3) := by decide +kernel
theorem d1_5 : decode jdk_29_method_65_code 5 = .ok (.iload_n 0, 1) := by decide +kernel
theorem d1_6 : decode jdk_29_method_65_code 6 = .ok (.goto 4, 3) := by decide +kernel
theorem d1_9 : decode jdk_29_method_65_code 9 = .ok (.iload_n 1, 1) := by decide +kernel
theorem d1_10 : decode jdk_29_method_65_code 10 = .ok (.ireturn, 1) := by decide +kernel

theorem d2_0 : decode method_2_code 0 = .ok (.iload_n 0, 1) := by decide +kernel
theorem d2_1 : decode method_2_code 1 = .ok (.ifCond .ne 7, 3) := by decide +kernel
theorem d2_4 : decode method_2_code 4 = .ok (.getstatic 7, 3) := by decide +kernel
theorem d2_7 : decode method_2_code 7 = .ok (.areturn, 1) := by decide +kernel
theorem d2_8 : decode method_2_code 8 = .ok (.iload_n 0, 1) := by decide +kernel
theorem d2_9 : decode method_2_code 9 = .ok (.iconst 1, 1) := by decide +kernel
theorem d2_10 : decode method_2_code 10 = .ok (.if_icmp .ne 7, 3) := by decide +kernel
theorem d2_13 : decode method_2_code 13 = .ok (.getstatic 13, 3) := by decide +kernel
theorem d2_16 : decode method_2_code 16 = .ok (.areturn, 1) := by decide +kernel
theorem d2_17 : decode method_2_code 17 = .ok (.iload_n 0, 1) := by decide +kernel
theorem d2_18 : decode method_2_code 18 = .ok (.iconst 2, 1) := by decide +kernel
theorem d2_19 : decode method_2_code 19 = .ok (.if_icmp .ne 7, 3) := by decide +kernel
theorem d2_22 : decode method_2_code 22 = .ok (.getstatic 16, 3) := by decide +kernel
theorem d2_25 : decode method_2_code 25 = .ok (.areturn, 1) := by decide +kernel
theorem d2_26 : decode method_2_code 26 = .ok (.iload_n 0, 1) := by decide +kernel
theorem d2_27 : decode method_2_code 27 = .ok (.iconst 3, 1) := by decide +kernel
theorem d2_28 : decode method_2_code 28 = .ok (.if_icmp .ne 7, 3) := by decide +kernel
theorem d2_31 : decode method_2_code 31 = .ok (.getstatic 19, 3) := by decide +kernel
theorem d2_34 : decode method_2_code 34 = .ok (.areturn, 1) := by decide +kernel
theorem d2_35 : decode method_2_code 35 = .ok (.iload_n 0, 1) := by decide +kernel
theorem d2_36 : decode method_2_code 36 = .ok (.iconst 4, 1) := by decide +kernel
theorem d2_37 : decode method_2_code 37 = .ok (.if_icmp .ne 7, 3) := by decide +kernel
theorem d2_40 : decode method_2_code 40 = .ok (.getstatic 22, 3) := by decide +kernel
theorem d2_43 : decode method_2_code 43 = .ok (.areturn, 1) := by decide +kernel
theorem d2_44 : decode method_2_code 44 = .ok (.iload_n 0, 1) := by decide +kernel
theorem d2_45 : decode method_2_code 45 = .ok (.iconst 5, 1) := by decide +kernel
theorem d2_46 : decode method_2_code 46 = .ok (.if_icmp .ne 7, 3) := by decide +kernel
theorem d2_49 : decode method_2_code 49 = .ok (.getstatic 25, 3) := by decide +kernel
theorem d2_52 : decode method_2_code 52 = .ok (.areturn, 1) := by decide +kernel
theorem d2_53 : decode method_2_code 53 = .ok (.iload_n 0, 1) := by decide +kernel
theorem d2_54 : decode method_2_code 54 = .ok (.bipush 6, 2) := by decide +kernel
theorem d2_56 : decode method_2_code 56 = .ok (.if_icmp .ne 7, 3) := by decide +kernel
theorem d2_59 : decode method_2_code 59 = .ok (.getstatic 28, 3) := by decide +kernel
theorem d2_62 : decode method_2_code 62 = .ok (.areturn, 1) := by decide +kernel
theorem d2_63 : decode method_2_code 63 = .ok (.iload_n 0, 1) := by decide +kernel
theorem d2_64 : decode method_2_code 64 = .ok (.bipush 7, 2) := by decide +kernel
theorem d2_66 : decode method_2_code 66 = .ok (.if_icmp .ne 7, 3) := by decide +kernel
theorem d2_69 : decode method_2_code 69 = .ok (.getstatic 31, 3) := by decide +kernel
theorem d2_72 : decode method_2_code 72 = .ok (.areturn, 1) := by decide +kernel
theorem d2_73 : decode method_2_code 73 = .ok (.iload_n 0, 1) := by decide +kernel
theorem d2_74 : decode method_2_code 74 = .ok (.bipush 8, 2) := by decide +kernel
theorem d2_76 : decode method_2_code 76 = .ok (.if_icmp .ne 7, 3) := by decide +kernel
theorem d2_79 : decode method_2_code 79 = .ok (.getstatic 34, 3) := by decide +kernel
theorem d2_82 : decode method_2_code 82 = .ok (.areturn, 1) := by decide +kernel
theorem d2_83 : decode method_2_code 83 = .ok (.iload_n 0, 1) := by decide +kernel
theorem d2_84 : decode method_2_code 84 = .ok (.bipush 9, 2) := by decide +kernel
theorem d2_86 : decode method_2_code 86 = .ok (.if_icmp .ne 7, 3) := by decide +kernel
theorem d2_89 : decode method_2_code 89 = .ok (.getstatic 37, 3) := by decide +kernel
theorem d2_92 : decode method_2_code 92 = .ok (.areturn, 1) := by decide +kernel
theorem d2_93 : decode method_2_code 93 = .ok (.iload_n 0, 1) := by decide +kernel
theorem d2_94 : decode method_2_code 94 = .ok (.bipush 10, 2) := by decide +kernel
theorem d2_96 : decode method_2_code 96 = .ok (.if_icmp .ne 7, 3) := by decide +kernel
theorem d2_99 : decode method_2_code 99 = .ok (.getstatic 40, 3) := by decide +kernel
theorem d2_102 : decode method_2_code 102 = .ok (.areturn, 1) := by decide +kernel
theorem d2_103 : decode method_2_code 103 = .ok (.getstatic 43, 3) := by decide +kernel
theorem d2_106 : decode method_2_code 106 = .ok (.areturn, 1) := by decide +kernel

theorem d3_0 : decode prog_4_method_8_code 0 = .ok (.aload_n 0, 1) := by decide +kernel
theorem d3_1 : decode prog_4_method_8_code 1 = .ok (.getstatic 34, 3) := by decide +kernel
theorem d3_4 : decode prog_4_method_8_code 4 = .ok (.if_acmp .ne 14, 3) := by decide +kernel
theorem d3_7 : decode prog_4_method_8_code 7 = .ok (.aload_n 0, 1) := by decide +kernel
theorem d3_8 : decode prog_4_method_8_code 8 = .ok (.getfield 67, 3) := by decide +kernel
theorem d3_11 : decode prog_4_method_8_code 11 = .ok (.iload_n 1, 1) := by decide +kernel
theorem d3_12 : decode prog_4_method_8_code 12 = .ok (.iadd, 1) := by decide +kernel
theorem d3_13 : decode prog_4_method_8_code 13 = .ok (.iconst 1, 1) := by decide +kernel
theorem d3_14 : decode prog_4_method_8_code 14 = .ok (.isub, 1) := by decide +kernel
theorem d3_15 : decode prog_4_method_8_code 15 = .ok (.goto 7, 3) := by decide +kernel
theorem d3_18 : decode prog_4_method_8_code 18 = .ok (.aload_n 0, 1) := by decide +kernel
theorem d3_19 : decode prog_4_method_8_code 19 = .ok (.getfield 67, 3) := by decide +kernel
theorem d3_22 : decode prog_4_method_8_code 22 = .ok (.ireturn, 1) := by decide +kernel

theorem d4_0 : decode method_3_code 0 = .ok (.iload_n 0, 1) := by decide +kernel
theorem d4_1 : decode method_3_code 1 = .ok (.bipush 10, 2) := by decide +kernel
theorem d4_3 : decode method_3_code 3 = .ok (.if_icmp .ne 8, 3) := by decide +kernel
theorem d4_6 : decode method_3_code 6 = .ok (.iload_n 1, 1) := by decide +kernel
theorem d4_7 : decode method_3_code 7 = .ok (.bipush 6, 2) := by decide +kernel
theorem d4_9 : decode method_3_code 9 = .ok (.iadd, 1) := by decide +kernel
theorem d4_10 : decode method_3_code 10 = .ok (.ireturn, 1) := by decide +kernel
theorem d4_11 : decode method_3_code 11 = .ok (.iload_n 0, 1) := by decide +kernel
theorem d4_12 : decode method_3_code 12 = .ok (.bipush 11, 2) := by decide +kernel
theorem d4_14 : decode method_3_code 14 = .ok (.if_icmp .ne 6, 3) := by decide +kernel
theorem d4_17 : decode method_3_code 17 = .ok (.bipush 12, 2) := by decide +kernel
theorem d4_19 : decode method_3_code 19 = .ok (.ireturn, 1) := by decide +kernel
theorem d4_20 : decode method_3_code 20 = .ok (.iload_n 0, 1) := by decide +kernel
theorem d4_21 : decode method_3_code 21 = .ok (.iconst 2, 1) := by decide +kernel
theorem d4_22 : decode method_3_code 22 = .ok (.if_icmp .eq 8, 3) := by decide +kernel
theorem d4_25 : decode method_3_code 25 = .ok (.iload_n 0, 1) := by decide +kernel
theorem d4_26 : decode method_3_code 26 = .ok (.iconst 3, 1) := by decide +kernel
theorem d4_27 : decode method_3_code 27 = .ok (.if_icmp .ne 6, 3) := by decide +kernel
theorem d4_30 : decode method_3_code 30 = .ok (.bipush 6, 2) := by decide +kernel
theorem d4_32 : decode method_3_code 32 = .ok (.ireturn, 1) := by decide +kernel
theorem d4_33 : decode method_3_code 33 = .ok (.iconst 3, 1) := by decide +kernel
theorem d4_34 : decode method_3_code 34 = .ok (.ireturn, 1) := by decide +kernel

theorem pn_0 : plainName "com/example/amphora/amphora/ItemCostPinLaw" = true := by first | (simp [plainName, overriddenIn]; done) | decide +kernel

theorem pn_3 : plainName "com/example/amphora/amphora/Item" = true := by first | (simp [plainName, overriddenIn]; done) | decide +kernel

theorem pd_1 : parseMethodDescriptor "(II)I" = some ⟨[.int, .int], some .int⟩ := by decide +kernel

theorem pd_2 : parseMethodDescriptor "(I)Lcom/example/amphora/amphora/Item;" = some ⟨[.int], some (.object "com/example/amphora/amphora/Item")⟩ := by decide +kernel

theorem pd_3 : parseMethodDescriptor "(I)I" = some ⟨[.int], some .int⟩ := by decide +kernel

theorem pd_4 : parseMethodDescriptor "(II)I" = some ⟨[.int, .int], some .int⟩ := by decide +kernel

theorem ef_1 (m : MethodId) (x0 : Int32) (x1 : Int32)  : entryFrame m #[(.int x0), (.int x1)] 2 = mkF m 0 #[.val (.int x0), .val (.int x1)] [] := by first | (simp [entryFrame, mkF, argsToLocals, Value.category]; done) | rfl
def Q1 (Z : State) (p1 p2 : Int32) (h0 : Heap) (n0 : Nat) (v : Option Value) (h : Heap) (L : List Loc) : Prop := v = some (.int (own_max p1 p2)) ∧ Fr n0 L ∧ h = h0
set_option maxRecDepth 65536 in
set_option maxHeartbeats 40000000 in
theorem rm1 (l : Launch) (Z : State) (a0 : Array Value) (hw : ∀ d ∈ tables_1, d.before a0 Z = true) (ws : List Jvm.Cond) (p1 p2 : Int32) (h0 : Heap) (n0 : Nat) (Z0 : n0 ≤ h0.size)  :
    MetFree l (⟨"java/lang/Math", "max", "(II)I"⟩ : MethodName) (head1 (Jvm.Cond.code (⟨"java/lang/Math", "max", "(II)I"⟩ : MethodName) jdk_29_method_65_code 2 (some .int) :: ws) ({ frames := 0, cells := 0, slots := 0, locals := 0 } : Room)) (fun a U => a = #[(.int p1), (.int p2)] ∧ Z.Warmed39 U.vm ∧ U.heap = h0) (fun _ _ _ _ _ => True) (fun _ U o U' => ∃ v L, o = .returned v ∧ Q1 Z p1 p2 h0 n0 v U'.heap L ∧ FrameEnd U o U' L ({ frames := 0, cells := 0, slots := 0, locals := 0 } : Room).cells ({ frames := 0, cells := 0, slots := 0, locals := 0 } : Room).slots) := by
  refine MetFree.of_bodySF (Jvm.Free.JP.mathPlain rfl (by decide +kernel)) hisR ?_
  intro p e s m args below meth c s₁ Bd hml0 hP hK
  obtain ⟨rfl, hZ, hh⟩ := hP
  have hx := Bd.exec
  have hby := Bd.bytes
  have hml : c.maxLocals = 2 := hml0
  have hown : s.vm.findClass "java/lang/Math" = some m.cls := findClass_of_methodNamed Bd.named
  have hnm := (name_of_methodNamed Bd.named Bd.method).1
  have X0 : Stand p l e ({ frames := 0, cells := 0, slots := 0, locals := 0 } : Room) s m #[(.int p1), (.int p2)] below meth c s₁ [] 0 0 := Stand.of_body Bd
  have e0 : s₁.heap = h0 := by rw [← hh, Bd.state]; rfl
  have N0 := Fr.nil n0
  have pre0 : ∀ t, Steps p.tables e below (s₁.setTop (mkF m 0 #[.val (.int p1), .val (.int p2)] [])) t → Steps p.tables e below (s₁.setTop (entryFrame m #[(.int p1), (.int p2)] 2)) t := fun t k => castTop (ef_1 m p1 p2) k
  have pre1 : ∀ t, Steps p.tables e below (s₁.setTop (mkF m 2 #[.val (.int p1), .val (.int p2)] [(.int p2), (.int p1)])) t → Steps p.tables e below (s₁.setTop (entryFrame m #[(.int p1), (.int p2)] 2)) t := fun t k => pre0 t (by
    show Steps p.tables e below (s₁.setTop (mkF m 0 #[.val (.int p1), .val (.int p2)] [])) _
    refine XS.iloadN X0.here hx rfl (hb hby d1_0) rfl ?_
    show Steps p.tables e below (s₁.setTop (mkF m 1 #[.val (.int p1), .val (.int p2)] [(.int p1)])) _
    refine XS.iloadN X0.here hx rfl (hb hby d1_1) rfl ?_
    exact k)
  by_cases hc2 : p1 < p2
  · have pre2 : ∀ t, Steps p.tables e below (s₁.setTop (mkF m 10 #[.val (.int p1), .val (.int p2)] [(.int p2)])) t → Steps p.tables e below (s₁.setTop (entryFrame m #[(.int p1), (.int p2)] 2)) t := fun t k => pre1 t (by
      show Steps p.tables e below (s₁.setTop (mkF m 2 #[.val (.int p1), .val (.int p2)] [(.int p2), (.int p1)])) _
      refine XS.icmpYes X0.here hx rfl (pc0 := 2) (pc' := 9) rfl (hb hby d1_2) rfl (tlt hc2).1 (by decide) (by decide) ?_
      show Steps p.tables e below (s₁.setTop (mkF m 9 #[.val (.int p1), .val (.int p2)] [])) _
      refine XS.iloadN X0.here hx rfl (hb hby d1_9) rfl ?_
      exact k)
    obtain ⟨fs3, hr3, hrun3, hended3, hW3, hsame3⟩ := X0.leave (v := some (.int p2)) (fun h => by rw [Bd.returns] at h; cases h)
    refine ⟨_, _, pre2 _ ?_, hrun3, hended3, _, _, rfl, ?_, ⟨_, rfl⟩, hW3, hsame3.mono (by decide) (by decide)⟩
    · show Steps p.tables e below (s₁.setTop (mkF m 10 #[.val (.int p1), .val (.int p2)] [(.int p2)])) _
      exact retOut X0 hx (t := .int) Bd.returns rfl (Or.inl ⟨rfl, Or.inl rfl, _, rfl⟩) (hb hby d1_10) hr3
    · show Q1 Z p1 p2 h0 n0 _ s₁.heap _
      rw [e0]
      exact ⟨by simp [own_max, hc2], N0, rfl⟩
  have pre4 : ∀ t, Steps p.tables e below (s₁.setTop (mkF m 10 #[.val (.int p1), .val (.int p2)] [(.int p1)])) t → Steps p.tables e below (s₁.setTop (entryFrame m #[(.int p1), (.int p2)] 2)) t := fun t k => pre1 t (by
    show Steps p.tables e below (s₁.setTop (mkF m 2 #[.val (.int p1), .val (.int p2)] [(.int p2), (.int p1)])) _
    refine XS.icmpNo X0.here hx rfl (hb hby d1_2) rfl (flt hc2).1 ?_
    show Steps p.tables e below (s₁.setTop (mkF m 5 #[.val (.int p1), .val (.int p2)] [])) _
    refine XS.iloadN X0.here hx rfl (hb hby d1_5) rfl ?_
    show Steps p.tables e below (s₁.setTop (mkF m 6 #[.val (.int p1), .val (.int p2)] [(.int p1)])) _
    refine XS.goto X0.here hx rfl (pc0 := 6) (pc' := 10) rfl (hb hby d1_6) (by decide) (by decide) ?_
    exact k)
  obtain ⟨fs5, hr5, hrun5, hended5, hW5, hsame5⟩ := X0.leave (v := some (.int p1)) (fun h => by rw [Bd.returns] at h; cases h)
  refine ⟨_, _, pre4 _ ?_, hrun5, hended5, _, _, rfl, ?_, ⟨_, rfl⟩, hW5, hsame5.mono (by decide) (by decide)⟩
  · show Steps p.tables e below (s₁.setTop (mkF m 10 #[.val (.int p1), .val (.int p2)] [(.int p1)])) _
    exact retOut X0 hx (t := .int) Bd.returns rfl (Or.inl ⟨rfl, Or.inl rfl, _, rfl⟩) (hb hby d1_10) hr5
  · show Q1 Z p1 p2 h0 n0 _ s₁.heap _
    rw [e0]
    exact ⟨by simp [own_max, hc2], N0, rfl⟩

theorem ef_2 (m : MethodId) (x0 : Int32)  : entryFrame m #[(.int x0)] 1 = mkF m 0 #[.val (.int x0)] [] := by first | (simp [entryFrame, mkF, argsToLocals, Value.category]; done) | rfl
def Q2 (Z : State) (z : Nat → Addr) (p1 : Int32) (h0 : Heap) (n0 : Nat) (v : Option Value) (h : Heap) (L : List Loc) : Prop := v = some (.ref (own_it z p1)) ∧ Fr n0 L ∧ h = h0
set_option maxRecDepth 65536 in
set_option maxHeartbeats 40000000 in
theorem rm2 (l : Launch) (Z : State) (a0 : Array Value) (hw : ∀ d ∈ tables_1, d.before a0 Z = true) (ws : List Jvm.Cond) (z : Nat → Addr) (p1 : Int32) (h0 : Heap) (n0 : Nat) (Z0 : n0 ≤ h0.size) (OK : own_ok Z h0 z) :
    MetFree l (⟨"com/example/amphora/amphora/ItemCostPinLaw", "item", "(I)Lcom/example/amphora/amphora/Item;"⟩ : MethodName) (head1 (Jvm.Cond.code (⟨"com/example/amphora/amphora/ItemCostPinLaw", "item", "(I)Lcom/example/amphora/amphora/Item;"⟩ : MethodName) method_2_code 1 (some (.object "com/example/amphora/amphora/Item")) :: ws) ({ frames := 0, cells := 0, slots := 0, locals := 0 } : Room)) (fun a U => a = #[(.int p1)] ∧ Z.Warmed39 U.vm ∧ U.heap = h0) (fun _ _ _ _ _ => True) (fun _ U o U' => ∃ v L, o = .returned v ∧ Q2 Z z p1 h0 n0 v U'.heap L ∧ FrameEnd U o U' L ({ frames := 0, cells := 0, slots := 0, locals := 0 } : Room).cells ({ frames := 0, cells := 0, slots := 0, locals := 0 } : Room).slots) := by
  refine MetFree.of_bodySF (plainFor_of_name pn_0) hisR ?_
  intro p e s m args below meth c s₁ Bd hml0 hP hK
  obtain ⟨rfl, hZ, hh⟩ := hP
  have hx := Bd.exec
  have hby := Bd.bytes
  have hml : c.maxLocals = 1 := hml0
  have hown : s.vm.findClass "com/example/amphora/amphora/ItemCostPinLaw" = some m.cls := findClass_of_methodNamed Bd.named
  have hnm := (name_of_methodNamed Bd.named Bd.method).1
  have X0 : Stand p l e ({ frames := 0, cells := 0, slots := 0, locals := 0 } : Room) s m #[(.int p1)] below meth c s₁ [] 0 0 := Stand.of_body Bd
  have e0 : s₁.heap = h0 := by rw [← hh, Bd.state]; rfl
  have N0 := Fr.nil n0
  have pre0 : ∀ t, Steps p.tables e below (s₁.setTop (mkF m 0 #[.val (.int p1)] [])) t → Steps p.tables e below (s₁.setTop (entryFrame m #[(.int p1)] 1)) t := fun t k => castTop (ef_2 m p1) k
  obtain ⟨S0, S1, S2, S3, S4, S5, S6, S7, S8, S9, S10, S11, E0, E1, E2, E3, E4, E5, E6, E7, E8, E9, E10, E11, F0, F1, F2, F3, F4, F5, F6, F7, F8, F9, F10, F11, D0, D1, D2, D3, D4, D5, D6, D7, D8, D9, D11⟩ := OK
  have pre1 : ∀ t, Steps p.tables e below (s₁.setTop (mkF m 1 #[.val (.int p1)] [(.int p1)])) t → Steps p.tables e below (s₁.setTop (entryFrame m #[(.int p1)] 1)) t := fun t k => pre0 t (by
    show Steps p.tables e below (s₁.setTop (mkF m 0 #[.val (.int p1)] [])) _
    refine XS.iloadN X0.here hx rfl (hb hby d2_0) rfl ?_
    exact k)
  by_cases hc1 : p1 = (0 : Int32)
  · obtain ⟨T2, X2, e2, st2⟩ := getS2 X0 hx hZ hown (host := "") (Or.inl (hw _ (List.mem_of_getElem? (i := 9) rfl))) Via.refl e0 S0 (g := (mkF m 4 #[.val (.int p1)] [])) rfl (hb hby d2_4)
    have pre3 : ∀ t, Steps p.tables e below (T2.setTop (mkF m 7 #[.val (.int p1)] [(.ref (z 0))])) t → Steps p.tables e below (s₁.setTop (entryFrame m #[(.int p1)] 1)) t := fun t k => pre1 t (by
      show Steps p.tables e below (s₁.setTop (mkF m 1 #[.val (.int p1)] [(.int p1)])) _
      refine XS.ifNo X0.here hx rfl (hb hby d2_1) rfl ((if0 _ _).trans (teq hc1).2) ?_
      show Steps p.tables e below (s₁.setTop (mkF m 4 #[.val (.int p1)] [])) _
      refine st2 _ ?_
      exact k)
    obtain ⟨fs4, hr4, hrun4, hended4, hW4, hsame4⟩ := X2.leave (v := some (.ref (z 0))) (fun h => by rw [Bd.returns] at h; cases h)
    refine ⟨_, _, pre3 _ ?_, hrun4, hended4, _, _, rfl, ?_, ⟨_, rfl⟩, hW4, hsame4.mono (by decide) (by decide)⟩
    · show Steps p.tables e below (T2.setTop (mkF m 7 #[.val (.int p1)] [(.ref (z 0))])) _
      exact retOut X2 hx (t := (.object "com/example/amphora/amphora/Item")) Bd.returns rfl (Or.inr (Or.inr (Or.inr (Or.inr ⟨rfl, rfl, rfl⟩)))) (hb hby d2_7) hr4
    · show Q2 Z z p1 h0 n0 _ T2.heap _
      rw [e2]
      exact ⟨by simp [own_it, hc1], N0, rfl⟩
  have pre5 : ∀ t, Steps p.tables e below (s₁.setTop (mkF m 10 #[.val (.int p1)] [(.int (1 : Int32)), (.int p1)])) t → Steps p.tables e below (s₁.setTop (entryFrame m #[(.int p1)] 1)) t := fun t k => pre1 t (by
    show Steps p.tables e below (s₁.setTop (mkF m 1 #[.val (.int p1)] [(.int p1)])) _
    refine XS.ifYes X0.here hx rfl (pc0 := 1) (pc' := 8) rfl (hb hby d2_1) rfl ((if0 _ _).trans (feq hc1).2) (by decide) (by decide) ?_
    show Steps p.tables e below (s₁.setTop (mkF m 8 #[.val (.int p1)] [])) _
    refine XS.iloadN X0.here hx rfl (hb hby d2_8) rfl ?_
    show Steps p.tables e below (s₁.setTop (mkF m 9 #[.val (.int p1)] [(.int p1)])) _
    refine XS.iconst X0.here hx rfl (hb hby d2_9) ?_
    exact k)
  by_cases hc10 : p1 = (1 : Int32)
  · obtain ⟨T6, X6, e6, st6⟩ := getS2 X0 hx hZ hown (host := "") (Or.inl (hw _ (List.mem_of_getElem? (i := 30) rfl))) Via.refl e0 S1 (g := (mkF m 13 #[.val (.int p1)] [])) rfl (hb hby d2_13)
    have pre7 : ∀ t, Steps p.tables e below (T6.setTop (mkF m 16 #[.val (.int p1)] [(.ref (z 1))])) t → Steps p.tables e below (s₁.setTop (entryFrame m #[(.int p1)] 1)) t := fun t k => pre5 t (by
      show Steps p.tables e below (s₁.setTop (mkF m 10 #[.val (.int p1)] [(.int (1 : Int32)), (.int p1)])) _
      refine XS.icmpNo X0.here hx rfl (hb hby d2_10) rfl (teq hc10).2 ?_
      show Steps p.tables e below (s₁.setTop (mkF m 13 #[.val (.int p1)] [])) _
      refine st6 _ ?_
      exact k)
    obtain ⟨fs8, hr8, hrun8, hended8, hW8, hsame8⟩ := X6.leave (v := some (.ref (z 1))) (fun h => by rw [Bd.returns] at h; cases h)
    refine ⟨_, _, pre7 _ ?_, hrun8, hended8, _, _, rfl, ?_, ⟨_, rfl⟩, hW8, hsame8.mono (by decide) (by decide)⟩
    · show Steps p.tables e below (T6.setTop (mkF m 16 #[.val (.int p1)] [(.ref (z 1))])) _
      exact retOut X6 hx (t := (.object "com/example/amphora/amphora/Item")) Bd.returns rfl (Or.inr (Or.inr (Or.inr (Or.inr ⟨rfl, rfl, rfl⟩)))) (hb hby d2_16) hr8
    · show Q2 Z z p1 h0 n0 _ T6.heap _
      rw [e6]
      exact ⟨by simp [own_it, hc1, hc10], N0, rfl⟩
  have pre9 : ∀ t, Steps p.tables e below (s₁.setTop (mkF m 19 #[.val (.int p1)] [(.int (2 : Int32)), (.int p1)])) t → Steps p.tables e below (s₁.setTop (entryFrame m #[(.int p1)] 1)) t := fun t k => pre5 t (by
    show Steps p.tables e below (s₁.setTop (mkF m 10 #[.val (.int p1)] [(.int (1 : Int32)), (.int p1)])) _
    refine XS.icmpYes X0.here hx rfl (pc0 := 10) (pc' := 17) rfl (hb hby d2_10) rfl (feq hc10).2 (by decide) (by decide) ?_
    show Steps p.tables e below (s₁.setTop (mkF m 17 #[.val (.int p1)] [])) _
    refine XS.iloadN X0.here hx rfl (hb hby d2_17) rfl ?_
    show Steps p.tables e below (s₁.setTop (mkF m 18 #[.val (.int p1)] [(.int p1)])) _
    refine XS.iconst X0.here hx rfl (hb hby d2_18) ?_
    exact k)
  by_cases hc19 : p1 = (2 : Int32)
  · obtain ⟨T10, X10, e10, st10⟩ := getS2 X0 hx hZ hown (host := "") (Or.inl (hw _ (List.mem_of_getElem? (i := 24) rfl))) Via.refl e0 S2 (g := (mkF m 22 #[.val (.int p1)] [])) rfl (hb hby d2_22)
    have pre11 : ∀ t, Steps p.tables e below (T10.setTop (mkF m 25 #[.val (.int p1)] [(.ref (z 2))])) t → Steps p.tables e below (s₁.setTop (entryFrame m #[(.int p1)] 1)) t := fun t k => pre9 t (by
      show Steps p.tables e below (s₁.setTop (mkF m 19 #[.val (.int p1)] [(.int (2 : Int32)), (.int p1)])) _
      refine XS.icmpNo X0.here hx rfl (hb hby d2_19) rfl (teq hc19).2 ?_
      show Steps p.tables e below (s₁.setTop (mkF m 22 #[.val (.int p1)] [])) _
      refine st10 _ ?_
      exact k)
    obtain ⟨fs12, hr12, hrun12, hended12, hW12, hsame12⟩ := X10.leave (v := some (.ref (z 2))) (fun h => by rw [Bd.returns] at h; cases h)
    refine ⟨_, _, pre11 _ ?_, hrun12, hended12, _, _, rfl, ?_, ⟨_, rfl⟩, hW12, hsame12.mono (by decide) (by decide)⟩
    · show Steps p.tables e below (T10.setTop (mkF m 25 #[.val (.int p1)] [(.ref (z 2))])) _
      exact retOut X10 hx (t := (.object "com/example/amphora/amphora/Item")) Bd.returns rfl (Or.inr (Or.inr (Or.inr (Or.inr ⟨rfl, rfl, rfl⟩)))) (hb hby d2_25) hr12
    · show Q2 Z z p1 h0 n0 _ T10.heap _
      rw [e10]
      exact ⟨by simp [own_it, hc1, hc10, hc19], N0, rfl⟩
  have pre13 : ∀ t, Steps p.tables e below (s₁.setTop (mkF m 28 #[.val (.int p1)] [(.int (3 : Int32)), (.int p1)])) t → Steps p.tables e below (s₁.setTop (entryFrame m #[(.int p1)] 1)) t := fun t k => pre9 t (by
    show Steps p.tables e below (s₁.setTop (mkF m 19 #[.val (.int p1)] [(.int (2 : Int32)), (.int p1)])) _
    refine XS.icmpYes X0.here hx rfl (pc0 := 19) (pc' := 26) rfl (hb hby d2_19) rfl (feq hc19).2 (by decide) (by decide) ?_
    show Steps p.tables e below (s₁.setTop (mkF m 26 #[.val (.int p1)] [])) _
    refine XS.iloadN X0.here hx rfl (hb hby d2_26) rfl ?_
    show Steps p.tables e below (s₁.setTop (mkF m 27 #[.val (.int p1)] [(.int p1)])) _
    refine XS.iconst X0.here hx rfl (hb hby d2_27) ?_
    exact k)
  by_cases hc28 : p1 = (3 : Int32)
  · obtain ⟨T14, X14, e14, st14⟩ := getS2 X0 hx hZ hown (host := "") (Or.inl (hw _ (List.mem_of_getElem? (i := 36) rfl))) Via.refl e0 S3 (g := (mkF m 31 #[.val (.int p1)] [])) rfl (hb hby d2_31)
    have pre15 : ∀ t, Steps p.tables e below (T14.setTop (mkF m 34 #[.val (.int p1)] [(.ref (z 3))])) t → Steps p.tables e below (s₁.setTop (entryFrame m #[(.int p1)] 1)) t := fun t k => pre13 t (by
      show Steps p.tables e below (s₁.setTop (mkF m 28 #[.val (.int p1)] [(.int (3 : Int32)), (.int p1)])) _
      refine XS.icmpNo X0.here hx rfl (hb hby d2_28) rfl (teq hc28).2 ?_
      show Steps p.tables e below (s₁.setTop (mkF m 31 #[.val (.int p1)] [])) _
      refine st14 _ ?_
      exact k)
    obtain ⟨fs16, hr16, hrun16, hended16, hW16, hsame16⟩ := X14.leave (v := some (.ref (z 3))) (fun h => by rw [Bd.returns] at h; cases h)
    refine ⟨_, _, pre15 _ ?_, hrun16, hended16, _, _, rfl, ?_, ⟨_, rfl⟩, hW16, hsame16.mono (by decide) (by decide)⟩
    · show Steps p.tables e below (T14.setTop (mkF m 34 #[.val (.int p1)] [(.ref (z 3))])) _
      exact retOut X14 hx (t := (.object "com/example/amphora/amphora/Item")) Bd.returns rfl (Or.inr (Or.inr (Or.inr (Or.inr ⟨rfl, rfl, rfl⟩)))) (hb hby d2_34) hr16
    · show Q2 Z z p1 h0 n0 _ T14.heap _
      rw [e14]
      exact ⟨by simp [own_it, hc1, hc10, hc19, hc28], N0, rfl⟩
  have pre17 : ∀ t, Steps p.tables e below (s₁.setTop (mkF m 37 #[.val (.int p1)] [(.int (4 : Int32)), (.int p1)])) t → Steps p.tables e below (s₁.setTop (entryFrame m #[(.int p1)] 1)) t := fun t k => pre13 t (by
    show Steps p.tables e below (s₁.setTop (mkF m 28 #[.val (.int p1)] [(.int (3 : Int32)), (.int p1)])) _
    refine XS.icmpYes X0.here hx rfl (pc0 := 28) (pc' := 35) rfl (hb hby d2_28) rfl (feq hc28).2 (by decide) (by decide) ?_
    show Steps p.tables e below (s₁.setTop (mkF m 35 #[.val (.int p1)] [])) _
    refine XS.iloadN X0.here hx rfl (hb hby d2_35) rfl ?_
    show Steps p.tables e below (s₁.setTop (mkF m 36 #[.val (.int p1)] [(.int p1)])) _
    refine XS.iconst X0.here hx rfl (hb hby d2_36) ?_
    exact k)
  by_cases hc37 : p1 = (4 : Int32)
  · obtain ⟨T18, X18, e18, st18⟩ := getS2 X0 hx hZ hown (host := "") (Or.inl (hw _ (List.mem_of_getElem? (i := 28) rfl))) Via.refl e0 S4 (g := (mkF m 40 #[.val (.int p1)] [])) rfl (hb hby d2_40)
    have pre19 : ∀ t, Steps p.tables e below (T18.setTop (mkF m 43 #[.val (.int p1)] [(.ref (z 4))])) t → Steps p.tables e below (s₁.setTop (entryFrame m #[(.int p1)] 1)) t := fun t k => pre17 t (by
      show Steps p.tables e below (s₁.setTop (mkF m 37 #[.val (.int p1)] [(.int (4 : Int32)), (.int p1)])) _
      refine XS.icmpNo X0.here hx rfl (hb hby d2_37) rfl (teq hc37).2 ?_
      show Steps p.tables e below (s₁.setTop (mkF m 40 #[.val (.int p1)] [])) _
      refine st18 _ ?_
      exact k)
    obtain ⟨fs20, hr20, hrun20, hended20, hW20, hsame20⟩ := X18.leave (v := some (.ref (z 4))) (fun h => by rw [Bd.returns] at h; cases h)
    refine ⟨_, _, pre19 _ ?_, hrun20, hended20, _, _, rfl, ?_, ⟨_, rfl⟩, hW20, hsame20.mono (by decide) (by decide)⟩
    · show Steps p.tables e below (T18.setTop (mkF m 43 #[.val (.int p1)] [(.ref (z 4))])) _
      exact retOut X18 hx (t := (.object "com/example/amphora/amphora/Item")) Bd.returns rfl (Or.inr (Or.inr (Or.inr (Or.inr ⟨rfl, rfl, rfl⟩)))) (hb hby d2_43) hr20
    · show Q2 Z z p1 h0 n0 _ T18.heap _
      rw [e18]
      exact ⟨by simp [own_it, hc1, hc10, hc19, hc28, hc37], N0, rfl⟩
  have pre21 : ∀ t, Steps p.tables e below (s₁.setTop (mkF m 46 #[.val (.int p1)] [(.int (5 : Int32)), (.int p1)])) t → Steps p.tables e below (s₁.setTop (entryFrame m #[(.int p1)] 1)) t := fun t k => pre17 t (by
    show Steps p.tables e below (s₁.setTop (mkF m 37 #[.val (.int p1)] [(.int (4 : Int32)), (.int p1)])) _
    refine XS.icmpYes X0.here hx rfl (pc0 := 37) (pc' := 44) rfl (hb hby d2_37) rfl (feq hc37).2 (by decide) (by decide) ?_
    show Steps p.tables e below (s₁.setTop (mkF m 44 #[.val (.int p1)] [])) _
    refine XS.iloadN X0.here hx rfl (hb hby d2_44) rfl ?_
    show Steps p.tables e below (s₁.setTop (mkF m 45 #[.val (.int p1)] [(.int p1)])) _
    refine XS.iconst X0.here hx rfl (hb hby d2_45) ?_
    exact k)
  by_cases hc46 : p1 = (5 : Int32)
  · obtain ⟨T22, X22, e22, st22⟩ := getS2 X0 hx hZ hown (host := "") (Or.inl (hw _ (List.mem_of_getElem? (i := 43) rfl))) Via.refl e0 S5 (g := (mkF m 49 #[.val (.int p1)] [])) rfl (hb hby d2_49)
    have pre23 : ∀ t, Steps p.tables e below (T22.setTop (mkF m 52 #[.val (.int p1)] [(.ref (z 5))])) t → Steps p.tables e below (s₁.setTop (entryFrame m #[(.int p1)] 1)) t := fun t k => pre21 t (by
      show Steps p.tables e below (s₁.setTop (mkF m 46 #[.val (.int p1)] [(.int (5 : Int32)), (.int p1)])) _
      refine XS.icmpNo X0.here hx rfl (hb hby d2_46) rfl (teq hc46).2 ?_
      show Steps p.tables e below (s₁.setTop (mkF m 49 #[.val (.int p1)] [])) _
      refine st22 _ ?_
      exact k)
    obtain ⟨fs24, hr24, hrun24, hended24, hW24, hsame24⟩ := X22.leave (v := some (.ref (z 5))) (fun h => by rw [Bd.returns] at h; cases h)
    refine ⟨_, _, pre23 _ ?_, hrun24, hended24, _, _, rfl, ?_, ⟨_, rfl⟩, hW24, hsame24.mono (by decide) (by decide)⟩
    · show Steps p.tables e below (T22.setTop (mkF m 52 #[.val (.int p1)] [(.ref (z 5))])) _
      exact retOut X22 hx (t := (.object "com/example/amphora/amphora/Item")) Bd.returns rfl (Or.inr (Or.inr (Or.inr (Or.inr ⟨rfl, rfl, rfl⟩)))) (hb hby d2_52) hr24
    · show Q2 Z z p1 h0 n0 _ T22.heap _
      rw [e22]
      exact ⟨by simp [own_it, hc1, hc10, hc19, hc28, hc37, hc46], N0, rfl⟩
  have pre25 : ∀ t, Steps p.tables e below (s₁.setTop (mkF m 56 #[.val (.int p1)] [(.int (6 : Int32)), (.int p1)])) t → Steps p.tables e below (s₁.setTop (entryFrame m #[(.int p1)] 1)) t := fun t k => pre21 t (by
    show Steps p.tables e below (s₁.setTop (mkF m 46 #[.val (.int p1)] [(.int (5 : Int32)), (.int p1)])) _
    refine XS.icmpYes X0.here hx rfl (pc0 := 46) (pc' := 53) rfl (hb hby d2_46) rfl (feq hc46).2 (by decide) (by decide) ?_
    show Steps p.tables e below (s₁.setTop (mkF m 53 #[.val (.int p1)] [])) _
    refine XS.iloadN X0.here hx rfl (hb hby d2_53) rfl ?_
    show Steps p.tables e below (s₁.setTop (mkF m 54 #[.val (.int p1)] [(.int p1)])) _
    refine XS.bipush X0.here hx rfl (hb hby d2_54) ?_
    exact k)
  by_cases hc56 : p1 = (6 : Int32)
  · obtain ⟨T26, X26, e26, st26⟩ := getS2 X0 hx hZ hown (host := "") (Or.inl (hw _ (List.mem_of_getElem? (i := 32) rfl))) Via.refl e0 S6 (g := (mkF m 59 #[.val (.int p1)] [])) rfl (hb hby d2_59)
    have pre27 : ∀ t, Steps p.tables e below (T26.setTop (mkF m 62 #[.val (.int p1)] [(.ref (z 6))])) t → Steps p.tables e below (s₁.setTop (entryFrame m #[(.int p1)] 1)) t := fun t k => pre25 t (by
      show Steps p.tables e below (s₁.setTop (mkF m 56 #[.val (.int p1)] [(.int (6 : Int32)), (.int p1)])) _
      refine XS.icmpNo X0.here hx rfl (hb hby d2_56) rfl (teq hc56).2 ?_
      show Steps p.tables e below (s₁.setTop (mkF m 59 #[.val (.int p1)] [])) _
      refine st26 _ ?_
      exact k)
    obtain ⟨fs28, hr28, hrun28, hended28, hW28, hsame28⟩ := X26.leave (v := some (.ref (z 6))) (fun h => by rw [Bd.returns] at h; cases h)
    refine ⟨_, _, pre27 _ ?_, hrun28, hended28, _, _, rfl, ?_, ⟨_, rfl⟩, hW28, hsame28.mono (by decide) (by decide)⟩
    · show Steps p.tables e below (T26.setTop (mkF m 62 #[.val (.int p1)] [(.ref (z 6))])) _
      exact retOut X26 hx (t := (.object "com/example/amphora/amphora/Item")) Bd.returns rfl (Or.inr (Or.inr (Or.inr (Or.inr ⟨rfl, rfl, rfl⟩)))) (hb hby d2_62) hr28
    · show Q2 Z z p1 h0 n0 _ T26.heap _
      rw [e26]
      exact ⟨by simp [own_it, hc1, hc10, hc19, hc28, hc37, hc46, hc56], N0, rfl⟩
  have pre29 : ∀ t, Steps p.tables e below (s₁.setTop (mkF m 66 #[.val (.int p1)] [(.int (7 : Int32)), (.int p1)])) t → Steps p.tables e below (s₁.setTop (entryFrame m #[(.int p1)] 1)) t := fun t k => pre25 t (by
    show Steps p.tables e below (s₁.setTop (mkF m 56 #[.val (.int p1)] [(.int (6 : Int32)), (.int p1)])) _
    refine XS.icmpYes X0.here hx rfl (pc0 := 56) (pc' := 63) rfl (hb hby d2_56) rfl (feq hc56).2 (by decide) (by decide) ?_
    show Steps p.tables e below (s₁.setTop (mkF m 63 #[.val (.int p1)] [])) _
    refine XS.iloadN X0.here hx rfl (hb hby d2_63) rfl ?_
    show Steps p.tables e below (s₁.setTop (mkF m 64 #[.val (.int p1)] [(.int p1)])) _
    refine XS.bipush X0.here hx rfl (hb hby d2_64) ?_
    exact k)
  by_cases hc66 : p1 = (7 : Int32)
  · obtain ⟨T30, X30, e30, st30⟩ := getS2 X0 hx hZ hown (host := "") (Or.inl (hw _ (List.mem_of_getElem? (i := 40) rfl))) Via.refl e0 S7 (g := (mkF m 69 #[.val (.int p1)] [])) rfl (hb hby d2_69)
    have pre31 : ∀ t, Steps p.tables e below (T30.setTop (mkF m 72 #[.val (.int p1)] [(.ref (z 7))])) t → Steps p.tables e below (s₁.setTop (entryFrame m #[(.int p1)] 1)) t := fun t k => pre29 t (by
      show Steps p.tables e below (s₁.setTop (mkF m 66 #[.val (.int p1)] [(.int (7 : Int32)), (.int p1)])) _
      refine XS.icmpNo X0.here hx rfl (hb hby d2_66) rfl (teq hc66).2 ?_
      show Steps p.tables e below (s₁.setTop (mkF m 69 #[.val (.int p1)] [])) _
      refine st30 _ ?_
      exact k)
    obtain ⟨fs32, hr32, hrun32, hended32, hW32, hsame32⟩ := X30.leave (v := some (.ref (z 7))) (fun h => by rw [Bd.returns] at h; cases h)
    refine ⟨_, _, pre31 _ ?_, hrun32, hended32, _, _, rfl, ?_, ⟨_, rfl⟩, hW32, hsame32.mono (by decide) (by decide)⟩
    · show Steps p.tables e below (T30.setTop (mkF m 72 #[.val (.int p1)] [(.ref (z 7))])) _
      exact retOut X30 hx (t := (.object "com/example/amphora/amphora/Item")) Bd.returns rfl (Or.inr (Or.inr (Or.inr (Or.inr ⟨rfl, rfl, rfl⟩)))) (hb hby d2_72) hr32
    · show Q2 Z z p1 h0 n0 _ T30.heap _
      rw [e30]
      exact ⟨by simp [own_it, hc1, hc10, hc19, hc28, hc37, hc46, hc56, hc66], N0, rfl⟩
  have pre33 : ∀ t, Steps p.tables e below (s₁.setTop (mkF m 76 #[.val (.int p1)] [(.int (8 : Int32)), (.int p1)])) t → Steps p.tables e below (s₁.setTop (entryFrame m #[(.int p1)] 1)) t := fun t k => pre29 t (by
    show Steps p.tables e below (s₁.setTop (mkF m 66 #[.val (.int p1)] [(.int (7 : Int32)), (.int p1)])) _
    refine XS.icmpYes X0.here hx rfl (pc0 := 66) (pc' := 73) rfl (hb hby d2_66) rfl (feq hc66).2 (by decide) (by decide) ?_
    show Steps p.tables e below (s₁.setTop (mkF m 73 #[.val (.int p1)] [])) _
    refine XS.iloadN X0.here hx rfl (hb hby d2_73) rfl ?_
    show Steps p.tables e below (s₁.setTop (mkF m 74 #[.val (.int p1)] [(.int p1)])) _
    refine XS.bipush X0.here hx rfl (hb hby d2_74) ?_
    exact k)
  by_cases hc76 : p1 = (8 : Int32)
  · obtain ⟨T34, X34, e34, st34⟩ := getS2 X0 hx hZ hown (host := "") (Or.inl (hw _ (List.mem_of_getElem? (i := 26) rfl))) Via.refl e0 S8 (g := (mkF m 79 #[.val (.int p1)] [])) rfl (hb hby d2_79)
    have pre35 : ∀ t, Steps p.tables e below (T34.setTop (mkF m 82 #[.val (.int p1)] [(.ref (z 8))])) t → Steps p.tables e below (s₁.setTop (entryFrame m #[(.int p1)] 1)) t := fun t k => pre33 t (by
      show Steps p.tables e below (s₁.setTop (mkF m 76 #[.val (.int p1)] [(.int (8 : Int32)), (.int p1)])) _
      refine XS.icmpNo X0.here hx rfl (hb hby d2_76) rfl (teq hc76).2 ?_
      show Steps p.tables e below (s₁.setTop (mkF m 79 #[.val (.int p1)] [])) _
      refine st34 _ ?_
      exact k)
    obtain ⟨fs36, hr36, hrun36, hended36, hW36, hsame36⟩ := X34.leave (v := some (.ref (z 8))) (fun h => by rw [Bd.returns] at h; cases h)
    refine ⟨_, _, pre35 _ ?_, hrun36, hended36, _, _, rfl, ?_, ⟨_, rfl⟩, hW36, hsame36.mono (by decide) (by decide)⟩
    · show Steps p.tables e below (T34.setTop (mkF m 82 #[.val (.int p1)] [(.ref (z 8))])) _
      exact retOut X34 hx (t := (.object "com/example/amphora/amphora/Item")) Bd.returns rfl (Or.inr (Or.inr (Or.inr (Or.inr ⟨rfl, rfl, rfl⟩)))) (hb hby d2_82) hr36
    · show Q2 Z z p1 h0 n0 _ T34.heap _
      rw [e34]
      exact ⟨by simp [own_it, hc1, hc10, hc19, hc28, hc37, hc46, hc56, hc66, hc76], N0, rfl⟩
  have pre37 : ∀ t, Steps p.tables e below (s₁.setTop (mkF m 86 #[.val (.int p1)] [(.int (9 : Int32)), (.int p1)])) t → Steps p.tables e below (s₁.setTop (entryFrame m #[(.int p1)] 1)) t := fun t k => pre33 t (by
    show Steps p.tables e below (s₁.setTop (mkF m 76 #[.val (.int p1)] [(.int (8 : Int32)), (.int p1)])) _
    refine XS.icmpYes X0.here hx rfl (pc0 := 76) (pc' := 83) rfl (hb hby d2_76) rfl (feq hc76).2 (by decide) (by decide) ?_
    show Steps p.tables e below (s₁.setTop (mkF m 83 #[.val (.int p1)] [])) _
    refine XS.iloadN X0.here hx rfl (hb hby d2_83) rfl ?_
    show Steps p.tables e below (s₁.setTop (mkF m 84 #[.val (.int p1)] [(.int p1)])) _
    refine XS.bipush X0.here hx rfl (hb hby d2_84) ?_
    exact k)
  by_cases hc86 : p1 = (9 : Int32)
  · obtain ⟨T38, X38, e38, st38⟩ := getS2 X0 hx hZ hown (host := "") (Or.inl (hw _ (List.mem_of_getElem? (i := 38) rfl))) Via.refl e0 S9 (g := (mkF m 89 #[.val (.int p1)] [])) rfl (hb hby d2_89)
    have pre39 : ∀ t, Steps p.tables e below (T38.setTop (mkF m 92 #[.val (.int p1)] [(.ref (z 9))])) t → Steps p.tables e below (s₁.setTop (entryFrame m #[(.int p1)] 1)) t := fun t k => pre37 t (by
      show Steps p.tables e below (s₁.setTop (mkF m 86 #[.val (.int p1)] [(.int (9 : Int32)), (.int p1)])) _
      refine XS.icmpNo X0.here hx rfl (hb hby d2_86) rfl (teq hc86).2 ?_
      show Steps p.tables e below (s₁.setTop (mkF m 89 #[.val (.int p1)] [])) _
      refine st38 _ ?_
      exact k)
    obtain ⟨fs40, hr40, hrun40, hended40, hW40, hsame40⟩ := X38.leave (v := some (.ref (z 9))) (fun h => by rw [Bd.returns] at h; cases h)
    refine ⟨_, _, pre39 _ ?_, hrun40, hended40, _, _, rfl, ?_, ⟨_, rfl⟩, hW40, hsame40.mono (by decide) (by decide)⟩
    · show Steps p.tables e below (T38.setTop (mkF m 92 #[.val (.int p1)] [(.ref (z 9))])) _
      exact retOut X38 hx (t := (.object "com/example/amphora/amphora/Item")) Bd.returns rfl (Or.inr (Or.inr (Or.inr (Or.inr ⟨rfl, rfl, rfl⟩)))) (hb hby d2_92) hr40
    · show Q2 Z z p1 h0 n0 _ T38.heap _
      rw [e38]
      exact ⟨by simp [own_it, hc1, hc10, hc19, hc28, hc37, hc46, hc56, hc66, hc76, hc86], N0, rfl⟩
  have pre41 : ∀ t, Steps p.tables e below (s₁.setTop (mkF m 96 #[.val (.int p1)] [(.int (10 : Int32)), (.int p1)])) t → Steps p.tables e below (s₁.setTop (entryFrame m #[(.int p1)] 1)) t := fun t k => pre37 t (by
    show Steps p.tables e below (s₁.setTop (mkF m 86 #[.val (.int p1)] [(.int (9 : Int32)), (.int p1)])) _
    refine XS.icmpYes X0.here hx rfl (pc0 := 86) (pc' := 93) rfl (hb hby d2_86) rfl (feq hc86).2 (by decide) (by decide) ?_
    show Steps p.tables e below (s₁.setTop (mkF m 93 #[.val (.int p1)] [])) _
    refine XS.iloadN X0.here hx rfl (hb hby d2_93) rfl ?_
    show Steps p.tables e below (s₁.setTop (mkF m 94 #[.val (.int p1)] [(.int p1)])) _
    refine XS.bipush X0.here hx rfl (hb hby d2_94) ?_
    exact k)
  by_cases hc96 : p1 = (10 : Int32)
  · obtain ⟨T42, X42, e42, st42⟩ := getS2 X0 hx hZ hown (host := "") (Or.inl (hw _ (List.mem_of_getElem? (i := 42) rfl))) Via.refl e0 S10 (g := (mkF m 99 #[.val (.int p1)] [])) rfl (hb hby d2_99)
    have pre43 : ∀ t, Steps p.tables e below (T42.setTop (mkF m 102 #[.val (.int p1)] [(.ref (z 10))])) t → Steps p.tables e below (s₁.setTop (entryFrame m #[(.int p1)] 1)) t := fun t k => pre41 t (by
      show Steps p.tables e below (s₁.setTop (mkF m 96 #[.val (.int p1)] [(.int (10 : Int32)), (.int p1)])) _
      refine XS.icmpNo X0.here hx rfl (hb hby d2_96) rfl (teq hc96).2 ?_
      show Steps p.tables e below (s₁.setTop (mkF m 99 #[.val (.int p1)] [])) _
      refine st42 _ ?_
      exact k)
    obtain ⟨fs44, hr44, hrun44, hended44, hW44, hsame44⟩ := X42.leave (v := some (.ref (z 10))) (fun h => by rw [Bd.returns] at h; cases h)
    refine ⟨_, _, pre43 _ ?_, hrun44, hended44, _, _, rfl, ?_, ⟨_, rfl⟩, hW44, hsame44.mono (by decide) (by decide)⟩
    · show Steps p.tables e below (T42.setTop (mkF m 102 #[.val (.int p1)] [(.ref (z 10))])) _
      exact retOut X42 hx (t := (.object "com/example/amphora/amphora/Item")) Bd.returns rfl (Or.inr (Or.inr (Or.inr (Or.inr ⟨rfl, rfl, rfl⟩)))) (hb hby d2_102) hr44
    · show Q2 Z z p1 h0 n0 _ T42.heap _
      rw [e42]
      exact ⟨by simp [own_it, hc1, hc10, hc19, hc28, hc37, hc46, hc56, hc66, hc76, hc86, hc96], N0, rfl⟩
  obtain ⟨T45, X45, e45, st45⟩ := getS2 X0 hx hZ hown (host := "") (Or.inl (hw _ (List.mem_of_getElem? (i := 34) rfl))) Via.refl e0 S11 (g := (mkF m 103 #[.val (.int p1)] [])) rfl (hb hby d2_103)
  have pre46 : ∀ t, Steps p.tables e below (T45.setTop (mkF m 106 #[.val (.int p1)] [(.ref (z 11))])) t → Steps p.tables e below (s₁.setTop (entryFrame m #[(.int p1)] 1)) t := fun t k => pre41 t (by
    show Steps p.tables e below (s₁.setTop (mkF m 96 #[.val (.int p1)] [(.int (10 : Int32)), (.int p1)])) _
    refine XS.icmpYes X0.here hx rfl (pc0 := 96) (pc' := 103) rfl (hb hby d2_96) rfl (feq hc96).2 (by decide) (by decide) ?_
    show Steps p.tables e below (s₁.setTop (mkF m 103 #[.val (.int p1)] [])) _
    refine st45 _ ?_
    exact k)
  obtain ⟨fs47, hr47, hrun47, hended47, hW47, hsame47⟩ := X45.leave (v := some (.ref (z 11))) (fun h => by rw [Bd.returns] at h; cases h)
  refine ⟨_, _, pre46 _ ?_, hrun47, hended47, _, _, rfl, ?_, ⟨_, rfl⟩, hW47, hsame47.mono (by decide) (by decide)⟩
  · show Steps p.tables e below (T45.setTop (mkF m 106 #[.val (.int p1)] [(.ref (z 11))])) _
    exact retOut X45 hx (t := (.object "com/example/amphora/amphora/Item")) Bd.returns rfl (Or.inr (Or.inr (Or.inr (Or.inr ⟨rfl, rfl, rfl⟩)))) (hb hby d2_106) hr47
  · show Q2 Z z p1 h0 n0 _ T45.heap _
    rw [e45]
    exact ⟨by simp [own_it, hc1, hc10, hc19, hc28, hc37, hc46, hc56, hc66, hc76, hc86, hc96], N0, rfl⟩

theorem ef_3 (m : MethodId) (x0 : Addr) (x1 : Int32)  : entryFrame m #[(.ref x0), (.int x1)] 2 = mkF m 0 #[.val (.ref x0), .val (.int x1)] [] := by first | (simp [entryFrame, mkF, argsToLocals, Value.category]; done) | rfl
def Q3 (Z : State) (tl a1 : Addr) (cv p1 : Int32) (h0 : Heap) (n0 : Nat) (v : Option Value) (h : Heap) (L : List Loc) : Prop := v = some (.int (own_co a1 tl cv p1)) ∧ Fr n0 L ∧ h = h0
set_option maxRecDepth 65536 in
set_option maxHeartbeats 40000000 in
theorem rm3 (l : Launch) (Z : State) (a0 : Array Value) (hw : ∀ d ∈ tables_1, d.before a0 Z = true) (ws : List Jvm.Cond) (tl a1 : Addr) (cv p1 : Int32) (h0 : Heap) (n0 : Nat) (Z0 : n0 ≤ h0.size) (St : Sta Z h0 "com/example/amphora/amphora/Item" "TILE" "Lcom/example/amphora/amphora/Item;" (.ref tl)) (Fc : Fld Z h0 a1 "com/example/amphora/amphora/Item" "cost" "I" (.int cv)) :
    MetFree l (⟨"com/example/amphora/amphora/Item", "cost", "(I)I"⟩ : MethodName) (head1 (Jvm.Cond.code (⟨"com/example/amphora/amphora/Item", "cost", "(I)I"⟩ : MethodName) prog_4_method_8_code 2 (some .int) :: ws) ({ frames := 0, cells := 0, slots := 0, locals := 0 } : Room)) (fun a U => a = #[(.ref a1), (.int p1)] ∧ Z.Warmed39 U.vm ∧ U.heap = h0) (fun _ _ _ _ _ => True) (fun _ U o U' => ∃ v L, o = .returned v ∧ Q3 Z tl a1 cv p1 h0 n0 v U'.heap L ∧ FrameEnd U o U' L ({ frames := 0, cells := 0, slots := 0, locals := 0 } : Room).cells ({ frames := 0, cells := 0, slots := 0, locals := 0 } : Room).slots) := by
  refine MetFree.of_bodySF (plainFor_of_name pn_3) hisR ?_
  intro p e s m args below meth c s₁ Bd hml0 hP hK
  obtain ⟨rfl, hZ, hh⟩ := hP
  have hx := Bd.exec
  have hby := Bd.bytes
  have hml : c.maxLocals = 2 := hml0
  have hown : s.vm.findClass "com/example/amphora/amphora/Item" = some m.cls := findClass_of_methodNamed Bd.named
  have hnm := (name_of_methodNamed Bd.named Bd.method).1
  have X0 : Stand p l e ({ frames := 0, cells := 0, slots := 0, locals := 0 } : Room) s m #[(.ref a1), (.int p1)] below meth c s₁ [] 0 0 := Stand.of_body Bd
  have e0 : s₁.heap = h0 := by rw [← hh, Bd.state]; rfl
  have N0 := Fr.nil n0
  have pre0 : ∀ t, Steps p.tables e below (s₁.setTop (mkF m 0 #[.val (.ref a1), .val (.int p1)] [])) t → Steps p.tables e below (s₁.setTop (entryFrame m #[(.ref a1), (.int p1)] 2)) t := fun t k => castTop (ef_3 m a1 p1) k
  obtain ⟨T1, X1, e1, st1⟩ := getS2 X0 hx hZ hown (host := "") (Or.inl (hw _ (List.mem_of_getElem? (i := 17) rfl))) Via.refl e0 St (g := (mkF m 1 #[.val (.ref a1), .val (.int p1)] [(.ref a1)])) rfl (hb hby d3_1)
  have pre2 : ∀ t, Steps p.tables e below (T1.setTop (mkF m 4 #[.val (.ref a1), .val (.int p1)] [(.ref tl), (.ref a1)])) t → Steps p.tables e below (s₁.setTop (entryFrame m #[(.ref a1), (.int p1)] 2)) t := fun t k => pre0 t (by
    show Steps p.tables e below (s₁.setTop (mkF m 0 #[.val (.ref a1), .val (.int p1)] [])) _
    refine XS.aloadN X0.here hx rfl (hb hby d3_0) rfl rfl ?_
    show Steps p.tables e below (s₁.setTop (mkF m 1 #[.val (.ref a1), .val (.int p1)] [(.ref a1)])) _
    refine st1 _ ?_
    exact k)
  by_cases ha4 : ((.ref a1) : Value) = (.ref tl)
  · obtain ⟨T3, X3, e3, st3⟩ := getF X1 hx hZ hown (host := "") (Or.inl (hw _ (List.mem_of_getElem? (i := 19) rfl))) Via.refl e1 Fc (g := (mkF m 8 #[.val (.ref a1), .val (.int p1)] [(.ref a1)])) rfl rfl (hb hby d3_8)
    have pre4 : ∀ t, Steps p.tables e below (T3.setTop (mkF m 22 #[.val (.ref a1), .val (.int p1)] [(.int ((cv + p1) - (1 : Int32)))])) t → Steps p.tables e below (s₁.setTop (entryFrame m #[(.ref a1), (.int p1)] 2)) t := fun t k => pre2 t (by
      show Steps p.tables e below (T1.setTop (mkF m 4 #[.val (.ref a1), .val (.int p1)] [(.ref tl), (.ref a1)])) _
      refine Jvm.RoadKit.acmp (g := (mkF m 4 #[.val (.ref a1), .val (.int p1)] [(.ref tl), (.ref a1)])) X1 hx rfl rfl rfl (pc0 := 4) (pc' := 7) (same := true) rfl (hb hby d3_4) rfl (decide_eq_true (ha4)) (by decide) (by decide) ?_
      show Steps p.tables e below (T1.setTop (mkF m 7 #[.val (.ref a1), .val (.int p1)] [])) _
      refine XS.aloadN X1.here hx rfl (hb hby d3_7) rfl rfl ?_
      show Steps p.tables e below (T1.setTop (mkF m 8 #[.val (.ref a1), .val (.int p1)] [(.ref a1)])) _
      refine st3 _ ?_
      show Steps p.tables e below (T3.setTop (mkF m 11 #[.val (.ref a1), .val (.int p1)] [(.int cv)])) _
      refine XS.iloadN X3.here hx rfl (hb hby d3_11) rfl ?_
      show Steps p.tables e below (T3.setTop (mkF m 12 #[.val (.ref a1), .val (.int p1)] [(.int p1), (.int cv)])) _
      refine XS.iadd X3.here hx rfl (hb hby d3_12) rfl ?_
      show Steps p.tables e below (T3.setTop (mkF m 13 #[.val (.ref a1), .val (.int p1)] [(.int (cv + p1))])) _
      refine XS.iconst X3.here hx rfl (hb hby d3_13) ?_
      show Steps p.tables e below (T3.setTop (mkF m 14 #[.val (.ref a1), .val (.int p1)] [(.int (1 : Int32)), (.int (cv + p1))])) _
      refine XS.isub X3.here hx rfl (hb hby d3_14) rfl ?_
      show Steps p.tables e below (T3.setTop (mkF m 15 #[.val (.ref a1), .val (.int p1)] [(.int ((cv + p1) - (1 : Int32)))])) _
      refine XS.goto X3.here hx rfl (pc0 := 15) (pc' := 22) rfl (hb hby d3_15) (by decide) (by decide) ?_
      exact k)
    obtain ⟨fs5, hr5, hrun5, hended5, hW5, hsame5⟩ := X3.leave (v := some (.int ((cv + p1) - (1 : Int32)))) (fun h => by rw [Bd.returns] at h; cases h)
    refine ⟨_, _, pre4 _ ?_, hrun5, hended5, _, _, rfl, ?_, ⟨_, rfl⟩, hW5, hsame5.mono (by decide) (by decide)⟩
    · show Steps p.tables e below (T3.setTop (mkF m 22 #[.val (.ref a1), .val (.int p1)] [(.int ((cv + p1) - (1 : Int32)))])) _
      exact retOut X3 hx (t := .int) Bd.returns rfl (Or.inl ⟨rfl, Or.inl rfl, _, rfl⟩) (hb hby d3_22) hr5
    · show Q3 Z tl a1 cv p1 h0 n0 _ T3.heap _
      rw [e3]
      exact ⟨by simp [own_co, (Value.ref.inj ha4)], N0, rfl⟩
  obtain ⟨T6, X6, e6, st6⟩ := getF X1 hx hZ hown (host := "") (Or.inl (hw _ (List.mem_of_getElem? (i := 19) rfl))) Via.refl e1 Fc (g := (mkF m 19 #[.val (.ref a1), .val (.int p1)] [(.ref a1)])) rfl rfl (hb hby d3_19)
  have pre7 : ∀ t, Steps p.tables e below (T6.setTop (mkF m 22 #[.val (.ref a1), .val (.int p1)] [(.int cv)])) t → Steps p.tables e below (s₁.setTop (entryFrame m #[(.ref a1), (.int p1)] 2)) t := fun t k => pre2 t (by
    show Steps p.tables e below (T1.setTop (mkF m 4 #[.val (.ref a1), .val (.int p1)] [(.ref tl), (.ref a1)])) _
    refine Jvm.RoadKit.acmp (g := (mkF m 4 #[.val (.ref a1), .val (.int p1)] [(.ref tl), (.ref a1)])) X1 hx rfl rfl rfl (pc0 := 4) (pc' := 18) (same := false) rfl (hb hby d3_4) rfl (decide_eq_false (ha4)) (by decide) (by decide) ?_
    show Steps p.tables e below (T1.setTop (mkF m 18 #[.val (.ref a1), .val (.int p1)] [])) _
    refine XS.aloadN X1.here hx rfl (hb hby d3_18) rfl rfl ?_
    show Steps p.tables e below (T1.setTop (mkF m 19 #[.val (.ref a1), .val (.int p1)] [(.ref a1)])) _
    refine st6 _ ?_
    exact k)
  obtain ⟨fs8, hr8, hrun8, hended8, hW8, hsame8⟩ := X6.leave (v := some (.int cv)) (fun h => by rw [Bd.returns] at h; cases h)
  refine ⟨_, _, pre7 _ ?_, hrun8, hended8, _, _, rfl, ?_, ⟨_, rfl⟩, hW8, hsame8.mono (by decide) (by decide)⟩
  · show Steps p.tables e below (T6.setTop (mkF m 22 #[.val (.ref a1), .val (.int p1)] [(.int cv)])) _
    exact retOut X6 hx (t := .int) Bd.returns rfl (Or.inl ⟨rfl, Or.inl rfl, _, rfl⟩) (hb hby d3_22) hr8
  · show Q3 Z tl a1 cv p1 h0 n0 _ T6.heap _
    rw [e6]
    exact ⟨by simp [own_co, show ¬ a1 = tl from fun q => ha4 (congrArg Value.ref q)], N0, rfl⟩

theorem ef_4 (m : MethodId) (x0 : Int32) (x1 : Int32)  : entryFrame m #[(.int x0), (.int x1)] 2 = mkF m 0 #[.val (.int x0), .val (.int x1)] [] := by first | (simp [entryFrame, mkF, argsToLocals, Value.category]; done) | rfl
def Q4 (Z : State) (p1 p2 : Int32) (h0 : Heap) (n0 : Nat) (v : Option Value) (h : Heap) (L : List Loc) : Prop := v = some (.int (own_ex p1 p2)) ∧ Fr n0 L ∧ h = h0
set_option maxRecDepth 65536 in
set_option maxHeartbeats 40000000 in
theorem rm4 (l : Launch) (Z : State) (a0 : Array Value) (hw : ∀ d ∈ tables_1, d.before a0 Z = true) (ws : List Jvm.Cond) (p1 p2 : Int32) (h0 : Heap) (n0 : Nat) (Z0 : n0 ≤ h0.size)  :
    MetFree l (⟨"com/example/amphora/amphora/ItemCostPinLaw", "expected", "(II)I"⟩ : MethodName) (head1 (Jvm.Cond.code (⟨"com/example/amphora/amphora/ItemCostPinLaw", "expected", "(II)I"⟩ : MethodName) method_3_code 2 (some .int) :: ws) ({ frames := 0, cells := 0, slots := 0, locals := 0 } : Room)) (fun a U => a = #[(.int p1), (.int p2)] ∧ Z.Warmed39 U.vm ∧ U.heap = h0) (fun _ _ _ _ _ => True) (fun _ U o U' => ∃ v L, o = .returned v ∧ Q4 Z p1 p2 h0 n0 v U'.heap L ∧ FrameEnd U o U' L ({ frames := 0, cells := 0, slots := 0, locals := 0 } : Room).cells ({ frames := 0, cells := 0, slots := 0, locals := 0 } : Room).slots) := by
  refine MetFree.of_bodySF (plainFor_of_name pn_0) hisR ?_
  intro p e s m args below meth c s₁ Bd hml0 hP hK
  obtain ⟨rfl, hZ, hh⟩ := hP
  have hx := Bd.exec
  have hby := Bd.bytes
  have hml : c.maxLocals = 2 := hml0
  have hown : s.vm.findClass "com/example/amphora/amphora/ItemCostPinLaw" = some m.cls := findClass_of_methodNamed Bd.named
  have hnm := (name_of_methodNamed Bd.named Bd.method).1
  have X0 : Stand p l e ({ frames := 0, cells := 0, slots := 0, locals := 0 } : Room) s m #[(.int p1), (.int p2)] below meth c s₁ [] 0 0 := Stand.of_body Bd
  have e0 : s₁.heap = h0 := by rw [← hh, Bd.state]; rfl
  have N0 := Fr.nil n0
  have pre0 : ∀ t, Steps p.tables e below (s₁.setTop (mkF m 0 #[.val (.int p1), .val (.int p2)] [])) t → Steps p.tables e below (s₁.setTop (entryFrame m #[(.int p1), (.int p2)] 2)) t := fun t k => castTop (ef_4 m p1 p2) k
  have pre1 : ∀ t, Steps p.tables e below (s₁.setTop (mkF m 3 #[.val (.int p1), .val (.int p2)] [(.int (10 : Int32)), (.int p1)])) t → Steps p.tables e below (s₁.setTop (entryFrame m #[(.int p1), (.int p2)] 2)) t := fun t k => pre0 t (by
    show Steps p.tables e below (s₁.setTop (mkF m 0 #[.val (.int p1), .val (.int p2)] [])) _
    refine XS.iloadN X0.here hx rfl (hb hby d4_0) rfl ?_
    show Steps p.tables e below (s₁.setTop (mkF m 1 #[.val (.int p1), .val (.int p2)] [(.int p1)])) _
    refine XS.bipush X0.here hx rfl (hb hby d4_1) ?_
    exact k)
  by_cases hc3 : p1 = (10 : Int32)
  · have pre2 : ∀ t, Steps p.tables e below (s₁.setTop (mkF m 10 #[.val (.int p1), .val (.int p2)] [(.int (p2 + (6 : Int32)))])) t → Steps p.tables e below (s₁.setTop (entryFrame m #[(.int p1), (.int p2)] 2)) t := fun t k => pre1 t (by
      show Steps p.tables e below (s₁.setTop (mkF m 3 #[.val (.int p1), .val (.int p2)] [(.int (10 : Int32)), (.int p1)])) _
      refine XS.icmpNo X0.here hx rfl (hb hby d4_3) rfl (teq hc3).2 ?_
      show Steps p.tables e below (s₁.setTop (mkF m 6 #[.val (.int p1), .val (.int p2)] [])) _
      refine XS.iloadN X0.here hx rfl (hb hby d4_6) rfl ?_
      show Steps p.tables e below (s₁.setTop (mkF m 7 #[.val (.int p1), .val (.int p2)] [(.int p2)])) _
      refine XS.bipush X0.here hx rfl (hb hby d4_7) ?_
      show Steps p.tables e below (s₁.setTop (mkF m 9 #[.val (.int p1), .val (.int p2)] [(.int (6 : Int32)), (.int p2)])) _
      refine XS.iadd X0.here hx rfl (hb hby d4_9) rfl ?_
      exact k)
    obtain ⟨fs3, hr3, hrun3, hended3, hW3, hsame3⟩ := X0.leave (v := some (.int (p2 + (6 : Int32)))) (fun h => by rw [Bd.returns] at h; cases h)
    refine ⟨_, _, pre2 _ ?_, hrun3, hended3, _, _, rfl, ?_, ⟨_, rfl⟩, hW3, hsame3.mono (by decide) (by decide)⟩
    · show Steps p.tables e below (s₁.setTop (mkF m 10 #[.val (.int p1), .val (.int p2)] [(.int (p2 + (6 : Int32)))])) _
      exact retOut X0 hx (t := .int) Bd.returns rfl (Or.inl ⟨rfl, Or.inl rfl, _, rfl⟩) (hb hby d4_10) hr3
    · show Q4 Z p1 p2 h0 n0 _ s₁.heap _
      rw [e0]
      exact ⟨by simp [own_ex, hc3], N0, rfl⟩
  have pre4 : ∀ t, Steps p.tables e below (s₁.setTop (mkF m 14 #[.val (.int p1), .val (.int p2)] [(.int (11 : Int32)), (.int p1)])) t → Steps p.tables e below (s₁.setTop (entryFrame m #[(.int p1), (.int p2)] 2)) t := fun t k => pre1 t (by
    show Steps p.tables e below (s₁.setTop (mkF m 3 #[.val (.int p1), .val (.int p2)] [(.int (10 : Int32)), (.int p1)])) _
    refine XS.icmpYes X0.here hx rfl (pc0 := 3) (pc' := 11) rfl (hb hby d4_3) rfl (feq hc3).2 (by decide) (by decide) ?_
    show Steps p.tables e below (s₁.setTop (mkF m 11 #[.val (.int p1), .val (.int p2)] [])) _
    refine XS.iloadN X0.here hx rfl (hb hby d4_11) rfl ?_
    show Steps p.tables e below (s₁.setTop (mkF m 12 #[.val (.int p1), .val (.int p2)] [(.int p1)])) _
    refine XS.bipush X0.here hx rfl (hb hby d4_12) ?_
    exact k)
  by_cases hc14 : p1 = (11 : Int32)
  · have pre5 : ∀ t, Steps p.tables e below (s₁.setTop (mkF m 19 #[.val (.int p1), .val (.int p2)] [(.int (12 : Int32))])) t → Steps p.tables e below (s₁.setTop (entryFrame m #[(.int p1), (.int p2)] 2)) t := fun t k => pre4 t (by
      show Steps p.tables e below (s₁.setTop (mkF m 14 #[.val (.int p1), .val (.int p2)] [(.int (11 : Int32)), (.int p1)])) _
      refine XS.icmpNo X0.here hx rfl (hb hby d4_14) rfl (teq hc14).2 ?_
      show Steps p.tables e below (s₁.setTop (mkF m 17 #[.val (.int p1), .val (.int p2)] [])) _
      refine XS.bipush X0.here hx rfl (hb hby d4_17) ?_
      exact k)
    obtain ⟨fs6, hr6, hrun6, hended6, hW6, hsame6⟩ := X0.leave (v := some (.int (12 : Int32))) (fun h => by rw [Bd.returns] at h; cases h)
    refine ⟨_, _, pre5 _ ?_, hrun6, hended6, _, _, rfl, ?_, ⟨_, rfl⟩, hW6, hsame6.mono (by decide) (by decide)⟩
    · show Steps p.tables e below (s₁.setTop (mkF m 19 #[.val (.int p1), .val (.int p2)] [(.int (12 : Int32))])) _
      exact retOut X0 hx (t := .int) Bd.returns rfl (Or.inl ⟨rfl, Or.inl rfl, _, rfl⟩) (hb hby d4_19) hr6
    · show Q4 Z p1 p2 h0 n0 _ s₁.heap _
      rw [e0]
      exact ⟨by simp [own_ex, hc3, hc14], N0, rfl⟩
  have pre7 : ∀ t, Steps p.tables e below (s₁.setTop (mkF m 22 #[.val (.int p1), .val (.int p2)] [(.int (2 : Int32)), (.int p1)])) t → Steps p.tables e below (s₁.setTop (entryFrame m #[(.int p1), (.int p2)] 2)) t := fun t k => pre4 t (by
    show Steps p.tables e below (s₁.setTop (mkF m 14 #[.val (.int p1), .val (.int p2)] [(.int (11 : Int32)), (.int p1)])) _
    refine XS.icmpYes X0.here hx rfl (pc0 := 14) (pc' := 20) rfl (hb hby d4_14) rfl (feq hc14).2 (by decide) (by decide) ?_
    show Steps p.tables e below (s₁.setTop (mkF m 20 #[.val (.int p1), .val (.int p2)] [])) _
    refine XS.iloadN X0.here hx rfl (hb hby d4_20) rfl ?_
    show Steps p.tables e below (s₁.setTop (mkF m 21 #[.val (.int p1), .val (.int p2)] [(.int p1)])) _
    refine XS.iconst X0.here hx rfl (hb hby d4_21) ?_
    exact k)
  by_cases hc22 : p1 = (2 : Int32)
  · have pre8 : ∀ t, Steps p.tables e below (s₁.setTop (mkF m 32 #[.val (.int p1), .val (.int p2)] [(.int (6 : Int32))])) t → Steps p.tables e below (s₁.setTop (entryFrame m #[(.int p1), (.int p2)] 2)) t := fun t k => pre7 t (by
      show Steps p.tables e below (s₁.setTop (mkF m 22 #[.val (.int p1), .val (.int p2)] [(.int (2 : Int32)), (.int p1)])) _
      refine XS.icmpYes X0.here hx rfl (pc0 := 22) (pc' := 30) rfl (hb hby d4_22) rfl (teq hc22).1 (by decide) (by decide) ?_
      show Steps p.tables e below (s₁.setTop (mkF m 30 #[.val (.int p1), .val (.int p2)] [])) _
      refine XS.bipush X0.here hx rfl (hb hby d4_30) ?_
      exact k)
    obtain ⟨fs9, hr9, hrun9, hended9, hW9, hsame9⟩ := X0.leave (v := some (.int (6 : Int32))) (fun h => by rw [Bd.returns] at h; cases h)
    refine ⟨_, _, pre8 _ ?_, hrun9, hended9, _, _, rfl, ?_, ⟨_, rfl⟩, hW9, hsame9.mono (by decide) (by decide)⟩
    · show Steps p.tables e below (s₁.setTop (mkF m 32 #[.val (.int p1), .val (.int p2)] [(.int (6 : Int32))])) _
      exact retOut X0 hx (t := .int) Bd.returns rfl (Or.inl ⟨rfl, Or.inl rfl, _, rfl⟩) (hb hby d4_32) hr9
    · show Q4 Z p1 p2 h0 n0 _ s₁.heap _
      rw [e0]
      exact ⟨by simp [own_ex, hc3, hc14, hc22], N0, rfl⟩
  have pre10 : ∀ t, Steps p.tables e below (s₁.setTop (mkF m 27 #[.val (.int p1), .val (.int p2)] [(.int (3 : Int32)), (.int p1)])) t → Steps p.tables e below (s₁.setTop (entryFrame m #[(.int p1), (.int p2)] 2)) t := fun t k => pre7 t (by
    show Steps p.tables e below (s₁.setTop (mkF m 22 #[.val (.int p1), .val (.int p2)] [(.int (2 : Int32)), (.int p1)])) _
    refine XS.icmpNo X0.here hx rfl (hb hby d4_22) rfl (feq hc22).1 ?_
    show Steps p.tables e below (s₁.setTop (mkF m 25 #[.val (.int p1), .val (.int p2)] [])) _
    refine XS.iloadN X0.here hx rfl (hb hby d4_25) rfl ?_
    show Steps p.tables e below (s₁.setTop (mkF m 26 #[.val (.int p1), .val (.int p2)] [(.int p1)])) _
    refine XS.iconst X0.here hx rfl (hb hby d4_26) ?_
    exact k)
  by_cases hc27 : p1 = (3 : Int32)
  · have pre11 : ∀ t, Steps p.tables e below (s₁.setTop (mkF m 32 #[.val (.int p1), .val (.int p2)] [(.int (6 : Int32))])) t → Steps p.tables e below (s₁.setTop (entryFrame m #[(.int p1), (.int p2)] 2)) t := fun t k => pre10 t (by
      show Steps p.tables e below (s₁.setTop (mkF m 27 #[.val (.int p1), .val (.int p2)] [(.int (3 : Int32)), (.int p1)])) _
      refine XS.icmpNo X0.here hx rfl (hb hby d4_27) rfl (teq hc27).2 ?_
      show Steps p.tables e below (s₁.setTop (mkF m 30 #[.val (.int p1), .val (.int p2)] [])) _
      refine XS.bipush X0.here hx rfl (hb hby d4_30) ?_
      exact k)
    obtain ⟨fs12, hr12, hrun12, hended12, hW12, hsame12⟩ := X0.leave (v := some (.int (6 : Int32))) (fun h => by rw [Bd.returns] at h; cases h)
    refine ⟨_, _, pre11 _ ?_, hrun12, hended12, _, _, rfl, ?_, ⟨_, rfl⟩, hW12, hsame12.mono (by decide) (by decide)⟩
    · show Steps p.tables e below (s₁.setTop (mkF m 32 #[.val (.int p1), .val (.int p2)] [(.int (6 : Int32))])) _
      exact retOut X0 hx (t := .int) Bd.returns rfl (Or.inl ⟨rfl, Or.inl rfl, _, rfl⟩) (hb hby d4_32) hr12
    · show Q4 Z p1 p2 h0 n0 _ s₁.heap _
      rw [e0]
      exact ⟨by simp [own_ex, hc3, hc14, hc22, hc27], N0, rfl⟩
  have pre13 : ∀ t, Steps p.tables e below (s₁.setTop (mkF m 34 #[.val (.int p1), .val (.int p2)] [(.int (3 : Int32))])) t → Steps p.tables e below (s₁.setTop (entryFrame m #[(.int p1), (.int p2)] 2)) t := fun t k => pre10 t (by
    show Steps p.tables e below (s₁.setTop (mkF m 27 #[.val (.int p1), .val (.int p2)] [(.int (3 : Int32)), (.int p1)])) _
    refine XS.icmpYes X0.here hx rfl (pc0 := 27) (pc' := 33) rfl (hb hby d4_27) rfl (feq hc27).2 (by decide) (by decide) ?_
    show Steps p.tables e below (s₁.setTop (mkF m 33 #[.val (.int p1), .val (.int p2)] [])) _
    refine XS.iconst X0.here hx rfl (hb hby d4_33) ?_
    exact k)
  obtain ⟨fs14, hr14, hrun14, hended14, hW14, hsame14⟩ := X0.leave (v := some (.int (3 : Int32))) (fun h => by rw [Bd.returns] at h; cases h)
  refine ⟨_, _, pre13 _ ?_, hrun14, hended14, _, _, rfl, ?_, ⟨_, rfl⟩, hW14, hsame14.mono (by decide) (by decide)⟩
  · show Steps p.tables e below (s₁.setTop (mkF m 34 #[.val (.int p1), .val (.int p2)] [(.int (3 : Int32))])) _
    exact retOut X0 hx (t := .int) Bd.returns rfl (Or.inl ⟨rfl, Or.inl rfl, _, rfl⟩) (hb hby d4_34) hr14
  · show Q4 Z p1 p2 h0 n0 _ s₁.heap _
    rw [e0]
    exact ⟨by simp [own_ex, hc3, hc14, hc22, hc27], N0, rfl⟩

theorem ef_0 (m : MethodId) (x0 : Int32) (x1 : Int32)  : entryFrame m #[(.int x0), (.int x1)] maxLocals = mkF m 0 #[.val (.int x0), .val (.int x1), .unset, .unset, .unset] [] := by first | (simp [entryFrame, mkF, argsToLocals, Value.category, maxLocals]; done) | rfl
def Q0 (Z : State) (z : Nat → Addr) (p1 p2 : Int32) (h0 : Heap) (n0 : Nat) (v : Option Value) (h : Heap) (L : List Loc) : Prop := v = some (.int (1 : Int32)) ∧ Fr n0 L
set_option maxRecDepth 65536 in
set_option maxHeartbeats 40000000 in
theorem rm0 (l : Launch) (Z : State) (a0 : Array Value) (hw : ∀ d ∈ tables_1, d.before a0 Z = true) (ws : List Jvm.Cond) (z : Nat → Addr) (p1 p2 : Int32) (h0 : Heap) (n0 : Nat) (Z0 : n0 ≤ h0.size) (OK : own_ok Z h0 z) :
    MetFree l x (head1 (Jvm.Cond.code x code maxLocals ret :: ws) room_1) (fun a U => a = #[(.int p1), (.int p2)] ∧ Z.Warmed39 U.vm ∧ U.heap = h0) (fun _ _ _ _ _ => True) (fun _ U o U' => ∃ v L, o = .returned v ∧ Q0 Z z p1 p2 h0 n0 v U'.heap L ∧ FrameEnd U o U' L room_1.cells room_1.slots) := by
  refine MetFree.of_bodySF (plainFor_of_name pn_0) hisR ?_
  intro p e s m args below meth c s₁ Bd hml0 hP hK
  obtain ⟨rfl, hZ, hh⟩ := hP
  have hx := Bd.exec
  have hby := Bd.bytes
  have hml : c.maxLocals = 5 := hml0
  have hown : s.vm.findClass "com/example/amphora/amphora/ItemCostPinLaw" = some m.cls := findClass_of_methodNamed Bd.named
  have hnm := (name_of_methodNamed Bd.named Bd.method).1
  have X0 : Stand p l e room_1 s m #[(.int p1), (.int p2)] below meth c s₁ [] 0 0 := Stand.of_body Bd
  have e0 : s₁.heap = h0 := by rw [← hh, Bd.state]; rfl
  have N0 := Fr.nil n0
  have pre0 : ∀ t, Steps p.tables e below (s₁.setTop (mkF m 0 #[.val (.int p1), .val (.int p2), .unset, .unset, .unset] [])) t → Steps p.tables e below (s₁.setTop (entryFrame m #[(.int p1), (.int p2)] maxLocals)) t := fun t k => castTop (ef_0 m p1 p2) k
  obtain ⟨_, _, ⟨T1, L1, k1, n1⟩, -, X1, ⟨Lc1, hQ1, l1, y1, z1⟩, st1⟩ := Jvm.LawKit.callS X0 hx (y := (⟨"java/lang/Math", "max", "(II)I"⟩ : MethodName)) hown (mvT hZ (hw _ (List.mem_of_getElem? (i := 1) rfl))) (mvT hZ (hw _ (List.mem_of_getElem? (i := 2) rfl))) (mvT hZ (hw _ (List.mem_of_getElem? (i := 3) rfl))) (mvT hZ (hw _ (List.mem_of_getElem? (i := 4) rfl))) (by decide) (backOf (W := 0) (rm1 l Z a0 hw [] (1 : Int32) (p2 &&& (2147483647 : Int32)) h0 n0 Z0) hZ (hw _ (List.mem_of_getElem? (i := 4) rfl)) (hw _ (List.mem_of_getElem? (i := 3) rfl)) (by decide) (by decide)) (g := (mkF m 13 #[.val (.int p1), .val (.int p2), .val (.int ((p1 &&& (2147483647 : Int32)) % (12 : Int32))), .unset, .unset] [(.int (p2 &&& (2147483647 : Int32))), (.int (1 : Int32))])) rfl (by rw [hml]; rfl) (argsL := [(.int (1 : Int32)), (.int (p2 &&& (2147483647 : Int32)))]) (rest := []) (lenOf pd_1 rfl) rfl (by show 2 * 0 + _ ≤ _; exact Nat.le_of_eq rfl) (hb hby at_13) (fun _ _ => ⟨rfl, e0, (by decide : 0 + 0 ≤ _), (by decide : 0 + 0 ≤ _)⟩)
  dsimp only [Pt.U, Pt.locs, Pt.cells, Pt.slots] at X1 l1 y1 z1 st1 hQ1
  subst l1 y1 z1
  obtain ⟨rfl, N1q, q1⟩ := hQ1
  have N1 := Fr.app N0 N1q
  obtain ⟨_, _, ⟨T2, L2, k2, n2⟩, -, X2, ⟨Lc2, hQ2, l2, y2, z2⟩, st2⟩ := Jvm.LawKit.callS X1 hx (y := (⟨"com/example/amphora/amphora/ItemCostPinLaw", "item", "(I)Lcom/example/amphora/amphora/Item;"⟩ : MethodName)) hown (mvT hZ (hw _ (List.mem_of_getElem? (i := 5) rfl))) (mvT hZ (hw _ (List.mem_of_getElem? (i := 6) rfl))) (mvT hZ (hw _ (List.mem_of_getElem? (i := 7) rfl))) (mvT hZ (hw _ (List.mem_of_getElem? (i := 8) rfl))) (by decide) (backOf (W := 0) (rm2 l Z a0 hw [] z ((p1 &&& (2147483647 : Int32)) % (12 : Int32)) h0 n0 Z0 OK) hZ (hw _ (List.mem_of_getElem? (i := 8) rfl)) (hw _ (List.mem_of_getElem? (i := 7) rfl)) (by decide) (by decide)) (g := (mkF m 18 #[.val (.int p1), .val (.int p2), .val (.int ((p1 &&& (2147483647 : Int32)) % (12 : Int32))), .val (.int (own_max (1 : Int32) (p2 &&& (2147483647 : Int32)))), .unset] [(.int ((p1 &&& (2147483647 : Int32)) % (12 : Int32)))])) rfl (by rw [hml]; rfl) (argsL := [(.int ((p1 &&& (2147483647 : Int32)) % (12 : Int32)))]) (rest := []) (lenOf pd_2 rfl) rfl (by show 2 * 0 + _ ≤ _; exact Nat.le_of_eq rfl) (hb hby at_18) (fun _ _ => ⟨rfl, q1, (by decide : 0 + 0 ≤ _), (by decide : 0 + 0 ≤ _)⟩)
  dsimp only [Pt.U, Pt.locs, Pt.cells, Pt.slots] at X2 l2 y2 z2 st2 hQ2
  subst l2 y2 z2
  obtain ⟨rfl, N2q, q2⟩ := hQ2
  have N2 := Fr.app N1 N2q
  have hk := own_kk p1
  obtain ⟨cq3, kq3, qa3, qb3, qc3⟩ := isOf hZ q2 (own_itE OK hk)
  obtain ⟨_, _, ⟨T3, L3, k3, n3⟩, -, X3, ⟨Lc3, hQ3, l3, y3, z3⟩, st3⟩ := X2.virtualBack hx (y := (⟨"com/example/amphora/amphora/Item", "cost", "(I)I"⟩ : MethodName)) (z := (⟨"com/example/amphora/amphora/Item", "cost", "(I)I"⟩ : MethodName)) hown (mvT hZ (hw _ (List.mem_of_getElem? (i := 12) rfl))) (mvT hZ (hw _ (List.mem_of_getElem? (i := 13) rfl))) (notFace_of_selects (args := #[]) (mvT hZ (hw _ (List.mem_of_getElem? (i := 15) rfl)))) (mvT hZ (hw _ (List.mem_of_getElem? (i := 15) rfl))) (mvT hZ (hw _ (List.mem_of_getElem? (i := 14) rfl))) (by decide) (backOf (W := 0) (rm3 l Z a0 hw [] (z 10) (own_it z ((p1 &&& (2147483647 : Int32)) % (12 : Int32))) (own_cv ((p1 &&& (2147483647 : Int32)) % (12 : Int32))) (own_max (1 : Int32) (p2 &&& (2147483647 : Int32))) h0 n0 Z0 OK.2.2.2.2.2.2.2.2.2.2.1 (own_itF OK hk)) hZ (hw _ (List.mem_of_getElem? (i := 16) rfl)) (hw _ (List.mem_of_getElem? (i := 10) rfl)) (by decide) (by decide)) qa3 qc3 (g := (mkF m 26 #[.val (.int p1), .val (.int p2), .val (.int ((p1 &&& (2147483647 : Int32)) % (12 : Int32))), .val (.int (own_max (1 : Int32) (p2 &&& (2147483647 : Int32)))), .val (.ref (own_it z ((p1 &&& (2147483647 : Int32)) % (12 : Int32))))] [(.int (own_max (1 : Int32) (p2 &&& (2147483647 : Int32)))), (.ref (own_it z ((p1 &&& (2147483647 : Int32)) % (12 : Int32))))])) rfl (by rw [hml]; rfl) (Steps.refl _) (argsL := [(.int (own_max (1 : Int32) (p2 &&& (2147483647 : Int32))))]) (rest := []) (lenOf pd_3 rfl) rfl (by show 2 * 0 + _ ≤ _; exact Nat.le_of_eq rfl) (hb hby at_26) (fun _ _ => ⟨rfl, q2, (by decide : 0 + 0 ≤ _), (by decide : 0 + 0 ≤ _)⟩)
  dsimp only [Pt.U, Pt.locs, Pt.cells, Pt.slots] at X3 l3 y3 z3 st3 hQ3
  subst l3 y3 z3
  obtain ⟨rfl, N3q, q3⟩ := hQ3
  have N3 := Fr.app N2 N3q
  obtain ⟨_, _, ⟨T4, L4, k4, n4⟩, -, X4, ⟨Lc4, hQ4, l4, y4, z4⟩, st4⟩ := Jvm.LawKit.callS X3 hx (y := (⟨"com/example/amphora/amphora/ItemCostPinLaw", "expected", "(II)I"⟩ : MethodName)) hown (mvT hZ (hw _ (List.mem_of_getElem? (i := 21) rfl))) (mvT hZ (hw _ (List.mem_of_getElem? (i := 22) rfl))) (mvT hZ (hw _ (List.mem_of_getElem? (i := 7) rfl))) (mvT hZ (hw _ (List.mem_of_getElem? (i := 23) rfl))) (by decide) (backOf (W := 1) (rm4 l Z a0 hw [] ((p1 &&& (2147483647 : Int32)) % (12 : Int32)) (own_max (1 : Int32) (p2 &&& (2147483647 : Int32))) h0 n0 Z0) hZ (hw _ (List.mem_of_getElem? (i := 23) rfl)) (hw _ (List.mem_of_getElem? (i := 7) rfl)) (by decide) (by decide)) (g := (mkF m 31 #[.val (.int p1), .val (.int p2), .val (.int ((p1 &&& (2147483647 : Int32)) % (12 : Int32))), .val (.int (own_max (1 : Int32) (p2 &&& (2147483647 : Int32)))), .val (.ref (own_it z ((p1 &&& (2147483647 : Int32)) % (12 : Int32))))] [(.int (own_max (1 : Int32) (p2 &&& (2147483647 : Int32)))), (.int ((p1 &&& (2147483647 : Int32)) % (12 : Int32))), (.int (own_co (own_it z ((p1 &&& (2147483647 : Int32)) % (12 : Int32))) (z 10) (own_cv ((p1 &&& (2147483647 : Int32)) % (12 : Int32))) (own_max (1 : Int32) (p2 &&& (2147483647 : Int32)))))])) rfl (by rw [hml]; rfl) (argsL := [(.int ((p1 &&& (2147483647 : Int32)) % (12 : Int32))), (.int (own_max (1 : Int32) (p2 &&& (2147483647 : Int32))))]) (rest := [(.int (own_co (own_it z ((p1 &&& (2147483647 : Int32)) % (12 : Int32))) (z 10) (own_cv ((p1 &&& (2147483647 : Int32)) % (12 : Int32))) (own_max (1 : Int32) (p2 &&& (2147483647 : Int32)))))]) (lenOf pd_4 rfl) rfl (by show 2 * 0 + _ ≤ _; exact Nat.le_of_eq rfl) (hb hby at_31) (fun _ _ => ⟨rfl, q3, (by decide : 0 + 0 ≤ _), (by decide : 0 + 0 ≤ _)⟩)
  dsimp only [Pt.U, Pt.locs, Pt.cells, Pt.slots] at X4 l4 y4 z4 st4 hQ4
  subst l4 y4 z4
  obtain ⟨rfl, N4q, q4⟩ := hQ4
  have N4 := Fr.app N3 N4q
  have pre5 : ∀ t, Steps p.tables e below (T4.setTop (mkF m 42 #[.val (.int p1), .val (.int p2), .val (.int ((p1 &&& (2147483647 : Int32)) % (12 : Int32))), .val (.int (own_max (1 : Int32) (p2 &&& (2147483647 : Int32)))), .val (.ref (own_it z ((p1 &&& (2147483647 : Int32)) % (12 : Int32))))] [(.int (1 : Int32))])) t → Steps p.tables e below (s₁.setTop (entryFrame m #[(.int p1), (.int p2)] maxLocals)) t := fun t k => pre0 t (by
    show Steps p.tables e below (s₁.setTop (mkF m 0 #[.val (.int p1), .val (.int p2), .unset, .unset, .unset] [])) _
    refine XS.iloadN X0.here hx rfl (hb hby at_0) rfl ?_
    show Steps p.tables e below (s₁.setTop (mkF m 1 #[.val (.int p1), .val (.int p2), .unset, .unset, .unset] [(.int p1)])) _
    refine X0.ldcI hx hown (mvT hZ (hw _ (List.mem_of_getElem? (i := 0) rfl))) (g := (mkF m 1 #[.val (.int p1), .val (.int p2), .unset, .unset, .unset] [(.int p1)])) rfl (hb hby at_1) ?_
    show Steps p.tables e below (s₁.setTop (mkF m 3 #[.val (.int p1), .val (.int p2), .unset, .unset, .unset] [(.int (2147483647 : Int32)), (.int p1)])) _
    refine XS.iand X0.here hx rfl (hb hby at_3) rfl ?_
    show Steps p.tables e below (s₁.setTop (mkF m 4 #[.val (.int p1), .val (.int p2), .unset, .unset, .unset] [(.int (p1 &&& (2147483647 : Int32)))])) _
    refine XS.bipush X0.here hx rfl (hb hby at_4) ?_
    show Steps p.tables e below (s₁.setTop (mkF m 6 #[.val (.int p1), .val (.int p2), .unset, .unset, .unset] [(.int (12 : Int32)), (.int (p1 &&& (2147483647 : Int32)))])) _
    refine iremM (g := (mkF m 6 #[.val (.int p1), .val (.int p2), .unset, .unset, .unset] [(.int (12 : Int32)), (.int (p1 &&& (2147483647 : Int32)))])) X0 hx rfl (hb hby at_6) rfl (by decide) ?_
    show Steps p.tables e below (s₁.setTop (mkF m 7 #[.val (.int p1), .val (.int p2), .unset, .unset, .unset] [(.int ((p1 &&& (2147483647 : Int32)) % (12 : Int32)))])) _
    refine XS.istoreN X0.here hx rfl (hb hby at_7) rfl (l' := #[.val (.int p1), .val (.int p2), .val (.int ((p1 &&& (2147483647 : Int32)) % (12 : Int32))), .unset, .unset]) rfl ?_
    show Steps p.tables e below (s₁.setTop (mkF m 8 #[.val (.int p1), .val (.int p2), .val (.int ((p1 &&& (2147483647 : Int32)) % (12 : Int32))), .unset, .unset] [])) _
    refine XS.iconst X0.here hx rfl (hb hby at_8) ?_
    show Steps p.tables e below (s₁.setTop (mkF m 9 #[.val (.int p1), .val (.int p2), .val (.int ((p1 &&& (2147483647 : Int32)) % (12 : Int32))), .unset, .unset] [(.int (1 : Int32))])) _
    refine XS.iloadN X0.here hx rfl (hb hby at_9) rfl ?_
    show Steps p.tables e below (s₁.setTop (mkF m 10 #[.val (.int p1), .val (.int p2), .val (.int ((p1 &&& (2147483647 : Int32)) % (12 : Int32))), .unset, .unset] [(.int p2), (.int (1 : Int32))])) _
    refine X0.ldcI hx hown (mvT hZ (hw _ (List.mem_of_getElem? (i := 0) rfl))) (g := (mkF m 10 #[.val (.int p1), .val (.int p2), .val (.int ((p1 &&& (2147483647 : Int32)) % (12 : Int32))), .unset, .unset] [(.int p2), (.int (1 : Int32))])) rfl (hb hby at_10) ?_
    show Steps p.tables e below (s₁.setTop (mkF m 12 #[.val (.int p1), .val (.int p2), .val (.int ((p1 &&& (2147483647 : Int32)) % (12 : Int32))), .unset, .unset] [(.int (2147483647 : Int32)), (.int p2), (.int (1 : Int32))])) _
    refine XS.iand X0.here hx rfl (hb hby at_12) rfl ?_
    show Steps p.tables e below (s₁.setTop (mkF m 13 #[.val (.int p1), .val (.int p2), .val (.int ((p1 &&& (2147483647 : Int32)) % (12 : Int32))), .unset, .unset] [(.int (p2 &&& (2147483647 : Int32))), (.int (1 : Int32))])) _
    refine st1 _ ?_
    show Steps p.tables e below (T1.setTop (mkF m 16 #[.val (.int p1), .val (.int p2), .val (.int ((p1 &&& (2147483647 : Int32)) % (12 : Int32))), .unset, .unset] [(.int (own_max (1 : Int32) (p2 &&& (2147483647 : Int32))))])) _
    refine XS.istoreN X1.here hx rfl (hb hby at_16) rfl (l' := #[.val (.int p1), .val (.int p2), .val (.int ((p1 &&& (2147483647 : Int32)) % (12 : Int32))), .val (.int (own_max (1 : Int32) (p2 &&& (2147483647 : Int32)))), .unset]) rfl ?_
    show Steps p.tables e below (T1.setTop (mkF m 17 #[.val (.int p1), .val (.int p2), .val (.int ((p1 &&& (2147483647 : Int32)) % (12 : Int32))), .val (.int (own_max (1 : Int32) (p2 &&& (2147483647 : Int32)))), .unset] [])) _
    refine XS.iloadN X1.here hx rfl (hb hby at_17) rfl ?_
    show Steps p.tables e below (T1.setTop (mkF m 18 #[.val (.int p1), .val (.int p2), .val (.int ((p1 &&& (2147483647 : Int32)) % (12 : Int32))), .val (.int (own_max (1 : Int32) (p2 &&& (2147483647 : Int32)))), .unset] [(.int ((p1 &&& (2147483647 : Int32)) % (12 : Int32)))])) _
    refine st2 _ ?_
    show Steps p.tables e below (T2.setTop (mkF m 21 #[.val (.int p1), .val (.int p2), .val (.int ((p1 &&& (2147483647 : Int32)) % (12 : Int32))), .val (.int (own_max (1 : Int32) (p2 &&& (2147483647 : Int32)))), .unset] [(.ref (own_it z ((p1 &&& (2147483647 : Int32)) % (12 : Int32))))])) _
    refine XS.astore X2.here hx rfl (hb hby at_21) rfl rfl (l' := #[.val (.int p1), .val (.int p2), .val (.int ((p1 &&& (2147483647 : Int32)) % (12 : Int32))), .val (.int (own_max (1 : Int32) (p2 &&& (2147483647 : Int32)))), .val (.ref (own_it z ((p1 &&& (2147483647 : Int32)) % (12 : Int32))))]) rfl ?_
    show Steps p.tables e below (T2.setTop (mkF m 23 #[.val (.int p1), .val (.int p2), .val (.int ((p1 &&& (2147483647 : Int32)) % (12 : Int32))), .val (.int (own_max (1 : Int32) (p2 &&& (2147483647 : Int32)))), .val (.ref (own_it z ((p1 &&& (2147483647 : Int32)) % (12 : Int32))))] [])) _
    refine XS.aload X2.here hx rfl (hb hby at_23) rfl rfl ?_
    show Steps p.tables e below (T2.setTop (mkF m 25 #[.val (.int p1), .val (.int p2), .val (.int ((p1 &&& (2147483647 : Int32)) % (12 : Int32))), .val (.int (own_max (1 : Int32) (p2 &&& (2147483647 : Int32)))), .val (.ref (own_it z ((p1 &&& (2147483647 : Int32)) % (12 : Int32))))] [(.ref (own_it z ((p1 &&& (2147483647 : Int32)) % (12 : Int32))))])) _
    refine XS.iloadN X2.here hx rfl (hb hby at_25) rfl ?_
    show Steps p.tables e below (T2.setTop (mkF m 26 #[.val (.int p1), .val (.int p2), .val (.int ((p1 &&& (2147483647 : Int32)) % (12 : Int32))), .val (.int (own_max (1 : Int32) (p2 &&& (2147483647 : Int32)))), .val (.ref (own_it z ((p1 &&& (2147483647 : Int32)) % (12 : Int32))))] [(.int (own_max (1 : Int32) (p2 &&& (2147483647 : Int32)))), (.ref (own_it z ((p1 &&& (2147483647 : Int32)) % (12 : Int32))))])) _
    refine st3.trans ?_
    show Steps p.tables e below (T3.setTop (mkF m 29 #[.val (.int p1), .val (.int p2), .val (.int ((p1 &&& (2147483647 : Int32)) % (12 : Int32))), .val (.int (own_max (1 : Int32) (p2 &&& (2147483647 : Int32)))), .val (.ref (own_it z ((p1 &&& (2147483647 : Int32)) % (12 : Int32))))] [(.int (own_co (own_it z ((p1 &&& (2147483647 : Int32)) % (12 : Int32))) (z 10) (own_cv ((p1 &&& (2147483647 : Int32)) % (12 : Int32))) (own_max (1 : Int32) (p2 &&& (2147483647 : Int32)))))])) _
    refine XS.iloadN X3.here hx rfl (hb hby at_29) rfl ?_
    show Steps p.tables e below (T3.setTop (mkF m 30 #[.val (.int p1), .val (.int p2), .val (.int ((p1 &&& (2147483647 : Int32)) % (12 : Int32))), .val (.int (own_max (1 : Int32) (p2 &&& (2147483647 : Int32)))), .val (.ref (own_it z ((p1 &&& (2147483647 : Int32)) % (12 : Int32))))] [(.int ((p1 &&& (2147483647 : Int32)) % (12 : Int32))), (.int (own_co (own_it z ((p1 &&& (2147483647 : Int32)) % (12 : Int32))) (z 10) (own_cv ((p1 &&& (2147483647 : Int32)) % (12 : Int32))) (own_max (1 : Int32) (p2 &&& (2147483647 : Int32)))))])) _
    refine XS.iloadN X3.here hx rfl (hb hby at_30) rfl ?_
    show Steps p.tables e below (T3.setTop (mkF m 31 #[.val (.int p1), .val (.int p2), .val (.int ((p1 &&& (2147483647 : Int32)) % (12 : Int32))), .val (.int (own_max (1 : Int32) (p2 &&& (2147483647 : Int32)))), .val (.ref (own_it z ((p1 &&& (2147483647 : Int32)) % (12 : Int32))))] [(.int (own_max (1 : Int32) (p2 &&& (2147483647 : Int32)))), (.int ((p1 &&& (2147483647 : Int32)) % (12 : Int32))), (.int (own_co (own_it z ((p1 &&& (2147483647 : Int32)) % (12 : Int32))) (z 10) (own_cv ((p1 &&& (2147483647 : Int32)) % (12 : Int32))) (own_max (1 : Int32) (p2 &&& (2147483647 : Int32)))))])) _
    refine st4 _ ?_
    show Steps p.tables e below (T4.setTop (mkF m 34 #[.val (.int p1), .val (.int p2), .val (.int ((p1 &&& (2147483647 : Int32)) % (12 : Int32))), .val (.int (own_max (1 : Int32) (p2 &&& (2147483647 : Int32)))), .val (.ref (own_it z ((p1 &&& (2147483647 : Int32)) % (12 : Int32))))] [(.int (own_ex ((p1 &&& (2147483647 : Int32)) % (12 : Int32)) (own_max (1 : Int32) (p2 &&& (2147483647 : Int32))))), (.int (own_co (own_it z ((p1 &&& (2147483647 : Int32)) % (12 : Int32))) (z 10) (own_cv ((p1 &&& (2147483647 : Int32)) % (12 : Int32))) (own_max (1 : Int32) (p2 &&& (2147483647 : Int32)))))])) _
    refine XS.icmpNo X4.here hx rfl (hb hby at_34) rfl (teq (own_fin OK hk (own_max (1 : Int32) (p2 &&& (2147483647 : Int32))))).2 ?_
    show Steps p.tables e below (T4.setTop (mkF m 37 #[.val (.int p1), .val (.int p2), .val (.int ((p1 &&& (2147483647 : Int32)) % (12 : Int32))), .val (.int (own_max (1 : Int32) (p2 &&& (2147483647 : Int32)))), .val (.ref (own_it z ((p1 &&& (2147483647 : Int32)) % (12 : Int32))))] [])) _
    refine XS.iconst X4.here hx rfl (hb hby at_37) ?_
    show Steps p.tables e below (T4.setTop (mkF m 38 #[.val (.int p1), .val (.int p2), .val (.int ((p1 &&& (2147483647 : Int32)) % (12 : Int32))), .val (.int (own_max (1 : Int32) (p2 &&& (2147483647 : Int32)))), .val (.ref (own_it z ((p1 &&& (2147483647 : Int32)) % (12 : Int32))))] [(.int (1 : Int32))])) _
    refine XS.goto X4.here hx rfl (pc0 := 38) (pc' := 42) rfl (hb hby at_38) (by decide) (by decide) ?_
    exact k)
  obtain ⟨fs6, hr6, hrun6, hended6, hW6, hsame6⟩ := X4.leave (v := some (.int (1 : Int32))) (fun h => by rw [Bd.returns] at h; cases h)
  refine ⟨_, _, pre5 _ ?_, hrun6, hended6, _, _, rfl, ?_, ⟨_, rfl⟩, hW6, hsame6.mono (by decide) (by decide)⟩
  · show Steps p.tables e below (T4.setTop (mkF m 42 #[.val (.int p1), .val (.int p2), .val (.int ((p1 &&& (2147483647 : Int32)) % (12 : Int32))), .val (.int (own_max (1 : Int32) (p2 &&& (2147483647 : Int32)))), .val (.ref (own_it z ((p1 &&& (2147483647 : Int32)) % (12 : Int32))))] [(.int (1 : Int32))])) _
    exact retN X4 hx (t := .boolean) Bd.returns (by simp) (hb hby at_42) hr6
  · show Q0 Z z p1 p2 h0 n0 _ T4.heap _
    rw [q4]
    exact ⟨rfl, N4⟩

theorem own_fs {args : Array Value} {s : State} {t : Term} {a : Addr} {C n d : String} {k : Int32} (ev : t.eval args s none [] s = some (.ref a)) (h : (Jvm.Cond.eq (Jvm.Term.field t C n d) (Jvm.Term.int k)).value args s none s [] = some true) : Fld s s.heap a C n d (.int k) := by
  obtain ⟨x, y, e1, e2, -, k1⟩ := cmp_v (Or.inl h)
  have e3 : Value.int k = y := Option.some.inj ((Term.int_eval k).symm.trans e2)
  subst e3
  obtain ⟨z, rfl⟩ : ∃ z, x = .int z := k1
  have q := gotT (Cond.eq_ints e1 (Term.int_eval k)) h
  subst q
  rw [fld_at ev] at e1
  exact Fld.start e1
set_option maxRecDepth 65536 in
set_option maxHeartbeats 40000000 in
theorem comes_1 {Post : Tables → Env → Array Value → State → Outcome → State → Prop} (hpost : ∀ tb e args s v u, (limb_1_1.after args s (.returned v) u = true ∧ limb_1_2.after args s (.returned v) u = true ∧ True) → FrameEnd s (.returned v) u (Jvm.fieldLocs frame_1_writes args s ++ Jvm.arrayLocs frame_1_arrays args s ++ Jvm.staticLocs frame_1_statics s) 0 0 → Post tb e args s (.returned v) u) :
    ArmFor flags0 classFile x code maxLocals ret World_1 tables_1 room_1 Calls_1 rest_1 Pre_1 Post := by
  intro l hfl _ _ p e ha hc hk s m args below hf hA hF happ hP
  obtain ⟨hcalls, hrest, hpre⟩ := hP
  obtain ⟨-, -, -, hnamed, -, -, -, hat⟩ := (Spec.applies_iff hf).mp happ
  obtain ⟨hg, hn⟩ := and_e (Cond.before_iff.mp (show (Jvm.Cond.and given_1 narrow_1).before args s = true from hpre))
  obtain ⟨gg0, gr0⟩ := and_e hg
  obtain ⟨gg1, gr1⟩ := and_e gr0
  obtain ⟨w0, w1, rfl⟩ : ∃ w0 w1 : Value, args = #[w0, w1] := by
    have hs : args.size = 2 := by simpa [Cond.value, given_1] using gg0
    obtain ⟨L⟩ := args
    match L, hs with
    | [w0, w1], _ => exact ⟨w0, w1, rfl⟩
  have hw := fun d (hd : d ∈ tables_1) => atoms_spec (ws := Jvm.Cond.code x code maxLocals ret :: tables_1) hat d (List.mem_cons_of_mem _ hd)
  have hfit : Fit s := fun {y c} hc i hi => by
    obtain ⟨ha, rfl⟩ := Array.getElem?_eq_some_iff.mp hc
    have q := List.all_eq_true.mp ((Array.all_eq_true_iff_forall_mem.mp hF) _ (Array.getElem_mem ha)) i (List.mem_range.mpr hi)
    simpa [Array.getElem?_eq_getElem hi] using q
  obtain ⟨i0, ei0⟩ := is_v gg1
  obtain rfl : w0 = (.int i0) := Option.some.inj ei0
  obtain ⟨i1, ei1⟩ := is_v gr1
  obtain rfl : w1 = (.int i1) := Option.some.inj ei1
  obtain ⟨c0, rc0⟩ := and_e hn
  obtain ⟨c1, rc1⟩ := and_e rc0
  obtain ⟨c2, rc2⟩ := and_e rc1
  obtain ⟨c3, rc3⟩ := and_e rc2
  obtain ⟨c4, rc4⟩ := and_e rc3
  obtain ⟨c5, rc5⟩ := and_e rc4
  obtain ⟨c6, rc6⟩ := and_e rc5
  obtain ⟨c7, rc7⟩ := and_e rc6
  obtain ⟨c8, rc8⟩ := and_e rc7
  obtain ⟨c9, rc9⟩ := and_e rc8
  obtain ⟨c10, rc10⟩ := and_e rc9
  obtain ⟨c11, rc11⟩ := and_e rc10
  obtain ⟨c12, rc12⟩ := and_e rc11
  obtain ⟨c13, rc13⟩ := and_e rc12
  obtain ⟨c14, rc14⟩ := and_e rc13
  obtain ⟨c15, rc15⟩ := and_e rc14
  obtain ⟨c16, rc16⟩ := and_e rc15
  obtain ⟨c17, rc17⟩ := and_e rc16
  obtain ⟨c18, rc18⟩ := and_e rc17
  obtain ⟨c19, rc19⟩ := and_e rc18
  obtain ⟨c20, rc20⟩ := and_e rc19
  obtain ⟨c21, rc21⟩ := and_e rc20
  obtain ⟨c22, rc22⟩ := and_e rc21
  obtain ⟨c23, rc23⟩ := and_e rc22
  obtain ⟨c24, rc24⟩ := and_e rc23
  obtain ⟨c25, rc25⟩ := and_e rc24
  obtain ⟨c26, rc26⟩ := and_e rc25
  obtain ⟨c27, rc27⟩ := and_e rc26
  obtain ⟨c28, rc28⟩ := and_e rc27
  obtain ⟨c29, rc29⟩ := and_e rc28
  obtain ⟨c30, rc30⟩ := and_e rc29
  obtain ⟨c31, rc31⟩ := and_e rc30
  obtain ⟨c32, rc32⟩ := and_e rc31
  obtain ⟨c33, rc33⟩ := and_e rc32
  obtain ⟨c34, rc34⟩ := and_e rc33
  have c35 := rc34
  obtain ⟨y0, v0⟩ := exa_v c0
  obtain ⟨y1, v1⟩ := exa_v c14
  obtain ⟨y2, v2⟩ := exa_v c5
  obtain ⟨y3, v3⟩ := exa_v c23
  obtain ⟨y4, v4⟩ := exa_v c11
  obtain ⟨y5, v5⟩ := exa_v c33
  obtain ⟨y6, v6⟩ := exa_v c17
  obtain ⟨y7, v7⟩ := exa_v c29
  obtain ⟨y8, v8⟩ := exa_v c8
  obtain ⟨y9, v9⟩ := exa_v c26
  obtain ⟨y10, v10⟩ := exa_v c1
  obtain ⟨y11, v11⟩ := exa_v c20
  obtain ⟨z, hz⟩ : ∃ z : Nat → Addr, z = fun i => match i with | 0 => y0 | 1 => y1 | 2 => y2 | 3 => y3 | 4 => y4 | 5 => y5 | 6 => y6 | 7 => y7 | 8 => y8 | 9 => y9 | 10 => y10 | _ => y11 := ⟨_, rfl⟩
  have z0 : y0 = z 0 := (congrFun hz 0).symm
  rw [z0] at v0
  have S0 := Sta.start v0 (Or.inr ⟨(hw _ (List.mem_of_getElem? (i := 10) rfl)), (hw _ (List.mem_of_getElem? (i := 11) rfl))⟩)
  have E0 := Exa.start v0 c0
  have F0 := own_fs v0 c4
  have O0 := own_fs v0 c2
  have z1 : y1 = z 1 := (congrFun hz 1).symm
  rw [z1] at v1
  have S1 := Sta.start v1 (Or.inr ⟨(hw _ (List.mem_of_getElem? (i := 10) rfl)), (hw _ (List.mem_of_getElem? (i := 31) rfl))⟩)
  have E1 := Exa.start v1 c14
  have F1 := own_fs v1 c16
  have O1 := own_fs v1 c15
  have z2 : y2 = z 2 := (congrFun hz 2).symm
  rw [z2] at v2
  have S2 := Sta.start v2 (Or.inr ⟨(hw _ (List.mem_of_getElem? (i := 10) rfl)), (hw _ (List.mem_of_getElem? (i := 25) rfl))⟩)
  have E2 := Exa.start v2 c5
  have F2 := own_fs v2 c7
  have O2 := own_fs v2 c6
  have z3 : y3 = z 3 := (congrFun hz 3).symm
  rw [z3] at v3
  have S3 := Sta.start v3 (Or.inr ⟨(hw _ (List.mem_of_getElem? (i := 10) rfl)), (hw _ (List.mem_of_getElem? (i := 37) rfl))⟩)
  have E3 := Exa.start v3 c23
  have F3 := own_fs v3 c25
  have O3 := own_fs v3 c24
  have z4 : y4 = z 4 := (congrFun hz 4).symm
  rw [z4] at v4
  have S4 := Sta.start v4 (Or.inr ⟨(hw _ (List.mem_of_getElem? (i := 10) rfl)), (hw _ (List.mem_of_getElem? (i := 29) rfl))⟩)
  have E4 := Exa.start v4 c11
  have F4 := own_fs v4 c13
  have O4 := own_fs v4 c12
  have z5 : y5 = z 5 := (congrFun hz 5).symm
  rw [z5] at v5
  have S5 := Sta.start v5 (Or.inr ⟨(hw _ (List.mem_of_getElem? (i := 10) rfl)), (hw _ (List.mem_of_getElem? (i := 44) rfl))⟩)
  have E5 := Exa.start v5 c33
  have F5 := own_fs v5 c35
  have O5 := own_fs v5 c34
  have z6 : y6 = z 6 := (congrFun hz 6).symm
  rw [z6] at v6
  have S6 := Sta.start v6 (Or.inr ⟨(hw _ (List.mem_of_getElem? (i := 10) rfl)), (hw _ (List.mem_of_getElem? (i := 33) rfl))⟩)
  have E6 := Exa.start v6 c17
  have F6 := own_fs v6 c19
  have O6 := own_fs v6 c18
  have z7 : y7 = z 7 := (congrFun hz 7).symm
  rw [z7] at v7
  have S7 := Sta.start v7 (Or.inr ⟨(hw _ (List.mem_of_getElem? (i := 10) rfl)), (hw _ (List.mem_of_getElem? (i := 41) rfl))⟩)
  have E7 := Exa.start v7 c29
  have F7 := own_fs v7 c31
  have O7 := own_fs v7 c30
  have z8 : y8 = z 8 := (congrFun hz 8).symm
  rw [z8] at v8
  have S8 := Sta.start v8 (Or.inr ⟨(hw _ (List.mem_of_getElem? (i := 10) rfl)), (hw _ (List.mem_of_getElem? (i := 27) rfl))⟩)
  have E8 := Exa.start v8 c8
  have F8 := own_fs v8 c10
  have O8 := own_fs v8 c9
  have z9 : y9 = z 9 := (congrFun hz 9).symm
  rw [z9] at v9
  have S9 := Sta.start v9 (Or.inr ⟨(hw _ (List.mem_of_getElem? (i := 10) rfl)), (hw _ (List.mem_of_getElem? (i := 39) rfl))⟩)
  have E9 := Exa.start v9 c26
  have F9 := own_fs v9 c28
  have O9 := own_fs v9 c27
  have z10 : y10 = z 10 := (congrFun hz 10).symm
  rw [z10] at v10
  have S10 := Sta.start v10 (Or.inr ⟨(hw _ (List.mem_of_getElem? (i := 10) rfl)), (hw _ (List.mem_of_getElem? (i := 18) rfl))⟩)
  have E10 := Exa.start v10 c1
  have F10 := own_fs v10 c32
  have O10 := own_fs v10 c3
  have z11 : y11 = z 11 := (congrFun hz 11).symm
  rw [z11] at v11
  have S11 := Sta.start v11 (Or.inr ⟨(hw _ (List.mem_of_getElem? (i := 10) rfl)), (hw _ (List.mem_of_getElem? (i := 35) rfl))⟩)
  have E11 := Exa.start v11 c20
  have F11 := own_fs v11 c22
  have O11 := own_fs v11 c21
  have D0 : z 0 ≠ z 10 := O0.ne O10 (by decide)
  have D1 : z 1 ≠ z 10 := O1.ne O10 (by decide)
  have D2 : z 2 ≠ z 10 := O2.ne O10 (by decide)
  have D3 : z 3 ≠ z 10 := O3.ne O10 (by decide)
  have D4 : z 4 ≠ z 10 := O4.ne O10 (by decide)
  have D5 : z 5 ≠ z 10 := O5.ne O10 (by decide)
  have D6 : z 6 ≠ z 10 := O6.ne O10 (by decide)
  have D7 : z 7 ≠ z 10 := O7.ne O10 (by decide)
  have D8 : z 8 ≠ z 10 := O8.ne O10 (by decide)
  have D9 : z 9 ≠ z 10 := O9.ne O10 (by decide)
  have D11 : z 11 ≠ z 10 := O11.ne O10 (by decide)
  have OK : own_ok s s.heap z := ⟨S0, S1, S2, S3, S4, S5, S6, S7, S8, S9, S10, S11, E0, E1, E2, E3, E4, E5, E6, E7, E8, E9, E10, E11, F0, F1, F2, F3, F4, F5, F6, F7, F8, F9, F10, F11, D0, D1, D2, D3, D4, D5, D6, D7, D8, D9, D11⟩
  obtain ⟨n, o, h1, h2, h3, _, L, rfl, ⟨rfl, N⟩, hq⟩ := rm0 l s _ hw tables_1 z i0 i1 s.heap s.heap.size (Nat.le_refl _) OK p e ha hc hk s m _ below hf ((Spec.applies_iff_loose hf).mp happ).1 ⟨rfl, State.Warmed39.refl s, rfl⟩ trivial
  refine ⟨n, _, h1, h2, h3, hpost _ _ _ _ _ _ ⟨Cond.after_iff.mpr rfl, Cond.after_iff.mpr (eq_i res_at (Term.int_eval (1)) rfl), trivial⟩ ⟨hq.1, hq.2.1, (hq.2.2.sift fun y hy => Or.inr (N y hy)).mono (by decide) (by decide)⟩⟩
theorem main_1_1 : Claimed_1_1 := comes_1 fun _ _ _ _ _ _ h hF => ⟨h.1, hF⟩
theorem main_1_2 : Claimed_1_2 := comes_1 fun _ _ _ _ _ _ h hF => ⟨h.2.1, hF⟩
end Jvm.Pilot.@@N@@
namespace Jvm.Pilot.@@N@@
open Jvm Jvm.ClassFile Sem Op Lib Jvm.Free Jvm.Stand Jvm.Pilot.@@N@@.Jvm.D
/-! MADE BY PROGRAM (witnessworld.py) out of the Statement's table words and the real class files: 14 classes; the members and pool entries that the words name. The judged class is class 1, her method 3. -/
namespace start1
open Jvm.ClassFile
def u (s : String) : CpInfo := .utf8 (stringToUtf16 s)
/-- a pool by its gaps: so many unusable entries, then the entry; so many at the end -/
def gap : Nat → List CpInfo → List CpInfo
  | 0, r => r
  | n + 1, r => .unusable :: gap n r
def poolList (es : List (Nat × CpInfo)) (last : Nat) : List CpInfo := es.foldr (fun e r => gap e.1 (e.2 :: r)) (gap last [])
def pool (es : List (Nat × CpInfo)) (last : Nat) : Array CpInfo := ⟨poolList es last⟩
def fileOf (pool : Array CpInfo) (this : Nat) (attrs : Array Attribute := #[]) (ms : Array MethodInfo := #[]) (fl : Nat := 33) (sup : Nat := 0) (ifs : Array Nat := #[]) (fds : Array FieldInfo := #[]) : ClassFile where
  minorVersion := 0
  majorVersion := 65
  constantPool := pool
  accessFlags := fl
  thisClass := this
  superClass := sup
  interfaces := ifs
  fields := fds
  methods := ms
  attributes := attrs
def plain (name : String) (sup : Option ClassId) : Class where
  name := name
  kind := .ordinary
  loader := none
  accessFlags := 33
  super := sup
  interfaces := #[]
  cf := none
  fields := #[]
  methods := #[]
  instanceTypes := #[]
  staticTypes := #[]
  resolved := #[]
  callSites := []
  init := .initialized
  statics := none
  mirror := none

def pool0 : Array CpInfo := pool [(5, u "<init>"), (0, u "()V"), (1, .class_ 10), (1, u "java/lang/Object")] 113

def k0m0 : Method := { name := "<init>", desc := "()V", sig := { parameters := [], returnType := none }, accessFlags := 1, code := none }
/-- java/lang/Object -/
def k0 : Class := { plain "java/lang/Object" none with
  accessFlags := 33
  interfaces := #[]
  cf := some (fileOf pool0 8 #[] #[{ accessFlags := 1, nameIndex := 5, descriptorIndex := 6, attributes := #[] }] 33 0 #[] #[])
  fields := #[]
  methods := #[k0m0]
  instanceTypes := #[]
  staticTypes := #[]
  resolved := Array.replicate 124 none
  statics := none }

def pool1 : Array CpInfo := pool [(2, .class_ 4), (1, u "java/lang/Object"), (0, u "<init>"), (0, u "()V"), (0, .fieldref 8 9), (0, .class_ 10), (0, .nameAndType 11 12), (0, u "com/example/amphora/amphora/Item"), (0, u "CONTROL"), (0, u "Lcom/example/amphora/amphora/Item;"), (0, .fieldref 8 14), (0, .nameAndType 15 12), (0, u "CARAVAN"), (0, .fieldref 8 17), (0, .nameAndType 18 12), (0, u "MARKET"), (0, .fieldref 8 20), (0, .nameAndType 21 12), (0, u "TEMPLE"), (0, .fieldref 8 23), (0, .nameAndType 24 12), (0, u "CITY"), (0, .fieldref 8 26), (0, .nameAndType 27 12), (0, u "CAPITAL"), (0, .fieldref 8 29), (0, .nameAndType 30 12), (0, u "LEGENDARY"), (0, .fieldref 8 32), (0, .nameAndType 33 12), (0, u "LEGION"), (0, .fieldref 8 35), (0, .nameAndType 36 12), (0, u "FORT"), (0, .fieldref 8 38), (0, .nameAndType 39 12), (0, u "TRIREME"), (0, .fieldref 8 41), (0, .nameAndType 42 12), (0, u "TILE"), (0, .fieldref 8 44), (0, .nameAndType 45 12), (0, u "PYRAMIDS"), (0, .integer 2147483647), (0, .methodref 48 49), (0, .class_ 50), (0, .nameAndType 51 52), (0, u "java/lang/Math"), (0, u "max"), (0, u "(II)I"), (0, .methodref 54 55), (0, .class_ 56), (0, .nameAndType 57 58), (0, u "com/example/amphora/amphora/ItemCostPinLaw"), (0, u "item"), (0, u "(I)Lcom/example/amphora/amphora/Item;"), (0, .methodref 8 60), (0, .nameAndType 61 62), (0, u "cost"), (0, u "(I)I"), (0, .methodref 54 64), (0, .nameAndType 65 52), (0, u "expected"), (3, u "law"), (0, u "(II)Z")] 2

def k1m0 : Method := { name := "<init>", desc := "()V", sig := { parameters := [], returnType := none }, accessFlags := 2, code := none }
def k1c1 : Code := { maxStack := 2, maxLocals := 1, code := method_2_code, exceptionTable := #[], attributes := #[] }
def k1m1 : Method := { name := "item", desc := "(I)Lcom/example/amphora/amphora/Item;", sig := { parameters := [.int], returnType := some (.object "com/example/amphora/amphora/Item") }, accessFlags := 10, code := some k1c1 }
def k1c2 : Code := { maxStack := 2, maxLocals := 2, code := method_3_code, exceptionTable := #[], attributes := #[] }
def k1m2 : Method := { name := "expected", desc := "(II)I", sig := { parameters := [.int, .int], returnType := some .int }, accessFlags := 10, code := some k1c2 }
def k1c3 : Code := { maxStack := 3, maxLocals := 5, code := code, exceptionTable := #[], attributes := #[] }
def k1m3 : Method := { name := "law", desc := "(II)Z", sig := { parameters := [.int, .int], returnType := some .boolean }, accessFlags := 9, code := some k1c3 }
/-- com/example/amphora/amphora/ItemCostPinLaw -/
def k1 : Class := { plain "com/example/amphora/amphora/ItemCostPinLaw" (some 0) with
  accessFlags := 49
  interfaces := #[]
  cf := some (fileOf pool1 54 #[] #[{ accessFlags := 2, nameIndex := 5, descriptorIndex := 6, attributes := #[] }, { accessFlags := 10, nameIndex := 57, descriptorIndex := 58, attributes := #[] }, { accessFlags := 10, nameIndex := 65, descriptorIndex := 52, attributes := #[] }, { accessFlags := 9, nameIndex := 69, descriptorIndex := 70, attributes := #[] }] 49 2 #[] #[])
  fields := #[]
  methods := #[k1m0, k1m1, k1m2, k1m3]
  instanceTypes := #[]
  staticTypes := #[]
  resolved := Array.replicate 73 none
  statics := none }

def pool2 : Array CpInfo := pool [(1, .class_ 2), (0, u "java/lang/Math"), (1, .class_ 6), (1, u "java/lang/Object"), (0, u "<init>"), (0, u "()V"), (89, .class_ 100), (1, u "java/lang/Math$RandomNumberGeneratorHolder"), (71, u "negativeZeroFloatBits"), (0, u "J"), (2, u "negativeZeroDoubleBits"), (21, u "max"), (46, u "$assertionsDisabled"), (0, u "Z"), (88, u "(II)I"), (2, u "twoToTheDoubleScaleDown"), (0, u "D"), (4, u "twoToTheDoubleScaleUp"), (9, u "E"), (3, u "PI"), (2, u "TAU"), (2, u "DEGREES_TO_RADIANS"), (0, u "RADIANS_TO_DEGREES")] 94

def k2m0 : Method := { name := "<init>", desc := "()V", sig := { parameters := [], returnType := none }, accessFlags := 2, code := none }
def k2c1 : Code := { maxStack := 2, maxLocals := 2, code := jdk_29_method_65_code, exceptionTable := #[], attributes := #[] }
def k2m1 : Method := { name := "max", desc := "(II)I", sig := { parameters := [.int, .int], returnType := some .int }, accessFlags := 9, code := some k2c1 }
/-- java/lang/Math -/
def k2 : Class := { plain "java/lang/Math" (some 0) with
  accessFlags := 49
  interfaces := #[]
  cf := some (fileOf pool2 1 #[.nestMembers #[98]] #[{ accessFlags := 2, nameIndex := 7, descriptorIndex := 8, attributes := #[] }, { accessFlags := 9, nameIndex := 198, descriptorIndex := 335, attributes := #[] }] 49 4 #[] #[{ accessFlags := 25, nameIndex := 354, descriptorIndex := 339, attributes := #[] }, { accessFlags := 25, nameIndex := 358, descriptorIndex := 339, attributes := #[] }, { accessFlags := 25, nameIndex := 361, descriptorIndex := 339, attributes := #[] }, { accessFlags := 26, nameIndex := 364, descriptorIndex := 339, attributes := #[] }, { accessFlags := 26, nameIndex := 365, descriptorIndex := 339, attributes := #[] }, { accessFlags := 26, nameIndex := 172, descriptorIndex := 173, attributes := #[] }, { accessFlags := 26, nameIndex := 176, descriptorIndex := 173, attributes := #[] }, { accessFlags := 8, nameIndex := 344, descriptorIndex := 339, attributes := #[] }, { accessFlags := 8, nameIndex := 338, descriptorIndex := 339, attributes := #[] }, { accessFlags := 4120, nameIndex := 245, descriptorIndex := 246, attributes := #[] }])
  fields := #[{ name := "E", type := .double, accessFlags := 25, slot := 0, constantValue := 0 }, { name := "PI", type := .double, accessFlags := 25, slot := 1, constantValue := 0 }, { name := "TAU", type := .double, accessFlags := 25, slot := 2, constantValue := 0 }, { name := "DEGREES_TO_RADIANS", type := .double, accessFlags := 26, slot := 3, constantValue := 0 }, { name := "RADIANS_TO_DEGREES", type := .double, accessFlags := 26, slot := 4, constantValue := 0 }, { name := "negativeZeroFloatBits", type := .long, accessFlags := 26, slot := 5, constantValue := 0 }, { name := "negativeZeroDoubleBits", type := .long, accessFlags := 26, slot := 6, constantValue := 0 }, { name := "twoToTheDoubleScaleUp", type := .double, accessFlags := 8, slot := 7, constantValue := 0 }, { name := "twoToTheDoubleScaleDown", type := .double, accessFlags := 8, slot := 8, constantValue := 0 }, { name := "$assertionsDisabled", type := .boolean, accessFlags := 4120, slot := 9, constantValue := 0 }]
  methods := #[k2m0, k2m1]
  instanceTypes := #[]
  staticTypes := #[.double, .double, .double, .double, .double, .long, .long, .double, .double, .boolean]
  resolved := Array.replicate 460 none
  statics := none }

def pool3 : Array CpInfo := pool [(1, .class_ 2), (0, u "java/lang/constant/Constable"), (0, .class_ 4), (0, u "java/lang/Object")] 6

/-- java/lang/constant/Constable -/
def k3 : Class := { plain "java/lang/constant/Constable" (some 0) with
  accessFlags := 1537
  interfaces := #[]
  cf := some (fileOf pool3 1 #[] #[] 1537 3 #[] #[])
  fields := #[]
  methods := #[]
  instanceTypes := #[]
  staticTypes := #[]
  resolved := Array.replicate 11 none
  statics := none }

def pool4 : Array CpInfo := pool [(1, .class_ 2), (0, u "java/lang/Comparable"), (0, .class_ 4), (0, u "java/lang/Object")] 7

/-- java/lang/Comparable -/
def k4 : Class := { plain "java/lang/Comparable" (some 0) with
  accessFlags := 1537
  interfaces := #[]
  cf := some (fileOf pool4 1 #[] #[] 1537 3 #[] #[])
  fields := #[]
  methods := #[]
  instanceTypes := #[]
  staticTypes := #[]
  resolved := Array.replicate 12 none
  statics := none }

def pool5 : Array CpInfo := pool [(1, .class_ 2), (0, u "java/io/Serializable"), (0, .class_ 4), (0, u "java/lang/Object")] 2

/-- java/io/Serializable -/
def k5 : Class := { plain "java/io/Serializable" (some 0) with
  accessFlags := 1537
  interfaces := #[]
  cf := some (fileOf pool5 1 #[] #[] 1537 3 #[] #[])
  fields := #[]
  methods := #[]
  instanceTypes := #[]
  staticTypes := #[]
  resolved := Array.replicate 7 none
  statics := none }

def pool6 : Array CpInfo := pool [(2, .class_ 4), (1, u "java/lang/Enum"), (0, u "name"), (0, u "Ljava/lang/String;"), (2, u "ordinal"), (0, u "I"), (1, .class_ 14), (1, u "java/lang/Object"), (4, u "hash"), (86, .class_ 108), (1, u "java/lang/Enum$EnumDesc"), (2, .class_ 112), (0, u "java/lang/constant/Constable"), (0, .class_ 114), (0, u "java/lang/Comparable"), (0, .class_ 116), (0, u "java/io/Serializable")] 87

/-- java/lang/Enum -/
def k6 : Class := { plain "java/lang/Enum" (some 0) with
  accessFlags := 1057
  interfaces := #[3, 4, 5]
  cf := some (fileOf pool6 2 #[.nestMembers #[106]] #[] 1057 12 #[111, 113, 115] #[{ accessFlags := 18, nameIndex := 5, descriptorIndex := 6, attributes := #[] }, { accessFlags := 18, nameIndex := 9, descriptorIndex := 10, attributes := #[] }, { accessFlags := 2, nameIndex := 19, descriptorIndex := 10, attributes := #[] }])
  fields := #[{ name := "name", type := (.object "java/lang/String"), accessFlags := 18, slot := 0, constantValue := 0 }, { name := "ordinal", type := .int, accessFlags := 18, slot := 1, constantValue := 0 }, { name := "hash", type := .int, accessFlags := 2, slot := 2, constantValue := 0 }]
  methods := #[]
  instanceTypes := #[(.object "java/lang/String"), .int, .int]
  staticTypes := #[]
  resolved := Array.replicate 204 none
  statics := none }

def pool7 : Array CpInfo := pool [(2, .class_ 4), (1, u "com/example/amphora/amphora/Keyed"), (0, u "KEYS"), (0, u "Ljava/util/Map;"), (64, .class_ 72), (0, u "java/lang/Object")] 38

/-- com/example/amphora/amphora/Keyed -/
def k7 : Class := { plain "com/example/amphora/amphora/Keyed" (some 0) with
  accessFlags := 1536
  interfaces := #[]
  cf := some (fileOf pool7 2 #[] #[] 1536 71 #[] #[{ accessFlags := 25, nameIndex := 5, descriptorIndex := 6, attributes := #[] }])
  fields := #[{ name := "KEYS", type := (.object "java/util/Map"), accessFlags := 25, slot := 0, constantValue := 0 }]
  methods := #[]
  instanceTypes := #[]
  staticTypes := #[(.object "java/util/Map")]
  resolved := Array.replicate 111 none
  statics := none }

def pool8 : Array CpInfo := pool [(1, .class_ 2), (0, u "com/example/amphora/amphora/Item"), (2, u "CONTROL"), (0, u "Lcom/example/amphora/amphora/Item;"), (2, u "CARAVAN"), (2, u "MARKET"), (2, u "TEMPLE"), (2, u "CITY"), (2, u "CAPITAL"), (2, u "LEGENDARY"), (2, u "LEGION"), (2, u "FORT"), (2, u "TRIREME"), (0, .fieldref 1 35), (0, .nameAndType 36 6), (0, u "TILE"), (2, u "PYRAMIDS"), (2, u "$VALUES"), (0, u "[Lcom/example/amphora/amphora/Item;"), (6, .class_ 52), (1, u "java/lang/Enum"), (8, u "piece"), (0, u "Lcom/example/amphora/amphora/Piece;"), (2, u "noun"), (0, u "Ljava/lang/String;"), (0, .fieldref 1 68), (0, .nameAndType 69 70), (0, u "cost"), (0, u "I"), (5, .class_ 78), (1, u "com/example/amphora/amphora/Keyed"), (72, u "MOST_TILES"), (10, u "(I)I")] 6

def k8c0 : Code := { maxStack := 2, maxLocals := 2, code := prog_4_method_8_code, exceptionTable := #[], attributes := #[] }
def k8m0 : Method := { name := "cost", desc := "(I)I", sig := { parameters := [.int], returnType := some .int }, accessFlags := 0, code := some k8c0 }
/-- com/example/amphora/amphora/Item -/
def k8 : Class := { plain "com/example/amphora/amphora/Item" (some 6) with
  accessFlags := 16432
  interfaces := #[7]
  cf := some (fileOf pool8 1 #[] #[{ accessFlags := 0, nameIndex := 69, descriptorIndex := 162, attributes := #[] }] 16432 50 #[76] #[{ accessFlags := 16409, nameIndex := 5, descriptorIndex := 6, attributes := #[] }, { accessFlags := 16409, nameIndex := 9, descriptorIndex := 6, attributes := #[] }, { accessFlags := 16409, nameIndex := 12, descriptorIndex := 6, attributes := #[] }, { accessFlags := 16409, nameIndex := 15, descriptorIndex := 6, attributes := #[] }, { accessFlags := 16409, nameIndex := 18, descriptorIndex := 6, attributes := #[] }, { accessFlags := 16409, nameIndex := 21, descriptorIndex := 6, attributes := #[] }, { accessFlags := 16409, nameIndex := 24, descriptorIndex := 6, attributes := #[] }, { accessFlags := 16409, nameIndex := 27, descriptorIndex := 6, attributes := #[] }, { accessFlags := 16409, nameIndex := 30, descriptorIndex := 6, attributes := #[] }, { accessFlags := 16409, nameIndex := 33, descriptorIndex := 6, attributes := #[] }, { accessFlags := 16409, nameIndex := 36, descriptorIndex := 6, attributes := #[] }, { accessFlags := 16409, nameIndex := 39, descriptorIndex := 6, attributes := #[] }, { accessFlags := 24, nameIndex := 151, descriptorIndex := 70, attributes := #[] }, { accessFlags := 18, nameIndex := 61, descriptorIndex := 62, attributes := #[] }, { accessFlags := 18, nameIndex := 65, descriptorIndex := 66, attributes := #[] }, { accessFlags := 18, nameIndex := 69, descriptorIndex := 70, attributes := #[] }, { accessFlags := 4122, nameIndex := 42, descriptorIndex := 43, attributes := #[] }])
  fields := #[{ name := "CONTROL", type := (.object "com/example/amphora/amphora/Item"), accessFlags := 16409, slot := 0, constantValue := 0 }, { name := "CARAVAN", type := (.object "com/example/amphora/amphora/Item"), accessFlags := 16409, slot := 1, constantValue := 0 }, { name := "MARKET", type := (.object "com/example/amphora/amphora/Item"), accessFlags := 16409, slot := 2, constantValue := 0 }, { name := "TEMPLE", type := (.object "com/example/amphora/amphora/Item"), accessFlags := 16409, slot := 3, constantValue := 0 }, { name := "CITY", type := (.object "com/example/amphora/amphora/Item"), accessFlags := 16409, slot := 4, constantValue := 0 }, { name := "CAPITAL", type := (.object "com/example/amphora/amphora/Item"), accessFlags := 16409, slot := 5, constantValue := 0 }, { name := "LEGENDARY", type := (.object "com/example/amphora/amphora/Item"), accessFlags := 16409, slot := 6, constantValue := 0 }, { name := "LEGION", type := (.object "com/example/amphora/amphora/Item"), accessFlags := 16409, slot := 7, constantValue := 0 }, { name := "FORT", type := (.object "com/example/amphora/amphora/Item"), accessFlags := 16409, slot := 8, constantValue := 0 }, { name := "TRIREME", type := (.object "com/example/amphora/amphora/Item"), accessFlags := 16409, slot := 9, constantValue := 0 }, { name := "TILE", type := (.object "com/example/amphora/amphora/Item"), accessFlags := 16409, slot := 10, constantValue := 0 }, { name := "PYRAMIDS", type := (.object "com/example/amphora/amphora/Item"), accessFlags := 16409, slot := 11, constantValue := 0 }, { name := "MOST_TILES", type := .int, accessFlags := 24, slot := 12, constantValue := 0 }, { name := "piece", type := (.object "com/example/amphora/amphora/Piece"), accessFlags := 18, slot := 3, constantValue := 0 }, { name := "noun", type := (.object "java/lang/String"), accessFlags := 18, slot := 4, constantValue := 0 }, { name := "cost", type := .int, accessFlags := 18, slot := 5, constantValue := 0 }, { name := "$VALUES", type := (.array (.object "com/example/amphora/amphora/Item")), accessFlags := 4122, slot := 13, constantValue := 0 }]
  methods := #[k8m0]
  instanceTypes := #[(.object "java/lang/String"), .int, .int, (.object "com/example/amphora/amphora/Piece"), (.object "java/lang/String"), .int]
  staticTypes := #[(.object "com/example/amphora/amphora/Item"), (.object "com/example/amphora/amphora/Item"), (.object "com/example/amphora/amphora/Item"), (.object "com/example/amphora/amphora/Item"), (.object "com/example/amphora/amphora/Item"), (.object "com/example/amphora/amphora/Item"), (.object "com/example/amphora/amphora/Item"), (.object "com/example/amphora/amphora/Item"), (.object "com/example/amphora/amphora/Item"), (.object "com/example/amphora/amphora/Item"), (.object "com/example/amphora/amphora/Item"), (.object "com/example/amphora/amphora/Item"), .int, (.array (.object "com/example/amphora/amphora/Item"))]
  resolved := Array.replicate 169 none
  statics := some 0 }

def pool9 : Array CpInfo := pool [(1, u "java/lang/Cloneable"), (0, .class_ 1), (0, u "java/lang/Object"), (0, .class_ 3)] 3

/-- java/lang/Cloneable -/
def k9 : Class := { plain "java/lang/Cloneable" (some 0) with
  accessFlags := 1537
  interfaces := #[]
  cf := some (fileOf pool9 2 #[] #[] 1537 4 #[] #[])
  fields := #[]
  methods := #[]
  instanceTypes := #[]
  staticTypes := #[]
  resolved := Array.replicate 8 none
  statics := none }

/-- the primitive byte -/
def k10 : Class := { plain "byte" none with kind := .primitive 'B', accessFlags := 0x411 }
/-- [B -/
def k11 : Class := { plain "[B" (some 0) with kind := .array 10 .byte, interfaces := #[9, 5], accessFlags := 1041 }

/-- the primitive int -/
def k12 : Class := { plain "int" none with kind := .primitive 'I', accessFlags := 0x411 }
/-- [I -/
def k13 : Class := { plain "[I" (some 0) with kind := .array 12 .int, interfaces := #[9, 5], accessFlags := 1041 }

def heap : Heap := #[{ cls := 8, slots := #[.ref 1, .ref 2, .ref 3, .ref 4, .ref 5, .ref 6, .ref 7, .ref 8, .ref 9, .ref 10, .ref 11, .ref 12, .int 0, .null], vm := .statics 8 },
  { cls := 8, slots := #[.null, .int 0, .int 0, .null, .null, .int 3], vm := .none },
  { cls := 8, slots := #[.null, .int 1, .int 0, .null, .null, .int 3], vm := .none },
  { cls := 8, slots := #[.null, .int 2, .int 0, .null, .null, .int 6], vm := .none },
  { cls := 8, slots := #[.null, .int 3, .int 0, .null, .null, .int 6], vm := .none },
  { cls := 8, slots := #[.null, .int 4, .int 0, .null, .null, .int 3], vm := .none },
  { cls := 8, slots := #[.null, .int 5, .int 0, .null, .null, .int 3], vm := .none },
  { cls := 8, slots := #[.null, .int 6, .int 0, .null, .null, .int 3], vm := .none },
  { cls := 8, slots := #[.null, .int 7, .int 0, .null, .null, .int 3], vm := .none },
  { cls := 8, slots := #[.null, .int 8, .int 0, .null, .null, .int 3], vm := .none },
  { cls := 8, slots := #[.null, .int 9, .int 0, .null, .null, .int 3], vm := .none },
  { cls := 8, slots := #[.null, .int 10, .int 0, .null, .null, .int 7], vm := .none },
  { cls := 8, slots := #[.null, .int 11, .int 0, .null, .null, .int 12], vm := .none }]
def classes : Array Class := #[k0, k1, k2, k3, k4, k5, k6, k7, k8, k9, k10, k11, k12, k13]
def interned : List (Array UInt16 × Addr) := []
def slotsUsed : Nat := 86
def theMethod : MethodId := ⟨1, 3⟩
def args0 : Array Value := #[.int 5, .int 6]
def aboutOver (below : List Frame) : State where
  vm := { classes := classes, interned := interned.toArray }
  heap := heap
  slotsUsed := slotsUsed
  threads := #[{ frames := .invoking theMethod args0 :: below }]
def below0 : List Frame := [.native { method := ⟨0, 0⟩, args := #[] }]
def about1 : State := aboutOver below0
def p0 : Program := .bare "" "" ""
def e0 : Env := launch0.env 0 0 0
theorem w_frames : about1.frames = Frame.invoking theMethod args0 :: below0 := rfl
set_option maxRecDepth 65536 in
theorem w_args : argsFit about1.vm theMethod args0 = true := by decide +kernel
set_option maxRecDepth 65536 in
theorem w_heap : heapFits about1 = true := by decide +kernel
set_option maxRecDepth 65536 in
theorem w_runnable : about1.curStatus? = some .runnable := by decide +kernel
set_option maxRecDepth 65536 in
theorem w_alone : about1.alone = true := by decide +kernel
set_option maxRecDepth 65536 in
theorem w_named : about1.methodNamed? x = some theMethod := by decide +kernel
set_option maxRecDepth 65536 in
theorem w_hears : about1.hears theMethod below0 = true := by decide +kernel
set_option maxRecDepth 65536 in
theorem w_ripe : about1.ripe theMethod args0 below0 = true := by decide +kernel
theorem w_running : about1.status = .running := rfl
set_option maxRecDepth 65536 in
theorem w_room : about1.hasRoom e0.platform room_1 = true :=
  launch0.hasRoom_least _ room_1 (by decide +kernel) (by decide +kernel) (by decide +kernel) (by decide +kernel) (by decide +kernel) (by decide +kernel)
theorem allAtoms_all (ts : List Jvm.Cond) (a : Array Jvm.Value) (st : Jvm.State) : (allAtoms ts).before a st = ts.all (fun c => c.before a st) := by
  induction ts with
  | nil => rfl
  | cons c t ih =>
    show (Jvm.Cond.and c (allAtoms t)).before a st = _
    rw [Jvm.Cond.before_and, ih, List.all_cons]
def words1 : List Jvm.Cond := Jvm.Cond.code x code maxLocals ret :: tables_1
/-- a 'code' word, met by the world's own term for the bytes: nothing is compared byte by byte -/
theorem code_word {y : MethodName} {bytes : ByteArray} {mx : Nat} {rt : Option FieldType} {a : Array Value} {s : State} {m : MethodId} {meth : Method} {c : Code} (h1 : s.methodNamed? y = some m) (h2 : s.vm.method? m = some meth) (h3 : meth.code = some c) (h4 : c.code = bytes)
    (h5 : (c.maxLocals == mx && c.exceptionTable.isEmpty && decide (c.maxStack ≤ mostOperands) && decide (meth.sig.returnType = rt) && !meth.locks && decide (parseMethodDescriptor y.desc = some meth.sig)) = true) : (Jvm.Cond.code y bytes mx rt).before a s = true := by
  simp only [Bool.and_eq_true, beq_iff_eq, Bool.not_eq_true', decide_eq_true_eq] at h5
  obtain ⟨⟨⟨⟨⟨g1, g2⟩, g3⟩, g4⟩, g5⟩, g6⟩ := h5
  simp [Cond.before, Cond.holds, Cond.value, h1, h2, h3, h4, g1, g2, g3, g4, g5, g6]
def isCode : Jvm.Cond → Bool
  | .code _ _ _ _ => true
  | _ => false
theorem all_split {L : List Jvm.Cond} {P : Jvm.Cond → Bool} (h1 : L.all (fun c => isCode c || P c) = true) (h2 : ∀ c ∈ L.filter isCode, P c = true) : L.all P = true := by
  refine List.all_eq_true.mpr fun c hc => ?_
  have h := List.all_eq_true.mp h1 c hc
  rcases Bool.eq_false_or_eq_true (isCode c) with hi | hi
  · exact h2 c (List.mem_filter.mpr ⟨hc, hi⟩)
  · simpa [hi] using h
set_option maxRecDepth 65536 in
theorem w_c0 : (Jvm.Cond.code x code maxLocals ret).before args0 about1 = true := code_word (m := ⟨1, 3⟩) (meth := k1m3) (c := k1c3) (by decide +kernel) rfl rfl rfl (by decide +kernel)
set_option maxRecDepth 65536 in
theorem w_c1 : (Jvm.Cond.code ({ cls := "java/lang/Math", name := "max", desc := "(II)I" } : Jvm.MethodName) jdk_29_method_65_code (2 : Nat) (Option.some Jvm.ClassFile.FieldType.int)).before args0 about1 = true := code_word (m := ⟨2, 1⟩) (meth := k2m1) (c := k2c1) (by decide +kernel) rfl rfl rfl (by decide +kernel)
set_option maxRecDepth 65536 in
theorem w_c2 : (Jvm.Cond.code ({ cls := "com/example/amphora/amphora/ItemCostPinLaw", name := "item", desc := "(I)Lcom/example/amphora/amphora/Item;" } : Jvm.MethodName) method_2_code (1 : Nat) (Option.some (Jvm.ClassFile.FieldType.object "com/example/amphora/amphora/Item"))).before args0 about1 = true := code_word (m := ⟨1, 1⟩) (meth := k1m1) (c := k1c1) (by decide +kernel) rfl rfl rfl (by decide +kernel)
set_option maxRecDepth 65536 in
theorem w_c3 : (Jvm.Cond.code ({ cls := "com/example/amphora/amphora/Item", name := "cost", desc := "(I)I" } : Jvm.MethodName) prog_4_method_8_code (2 : Nat) (Option.some Jvm.ClassFile.FieldType.int)).before args0 about1 = true := code_word (m := ⟨8, 0⟩) (meth := k8m0) (c := k8c0) (by decide +kernel) rfl rfl rfl (by decide +kernel)
set_option maxRecDepth 65536 in
theorem w_c4 : (Jvm.Cond.code ({ cls := "com/example/amphora/amphora/ItemCostPinLaw", name := "expected", desc := "(II)I" } : Jvm.MethodName) method_3_code (2 : Nat) (Option.some Jvm.ClassFile.FieldType.int)).before args0 about1 = true := code_word (m := ⟨1, 2⟩) (meth := k1m2) (c := k1c2) (by decide +kernel) rfl rfl rfl (by decide +kernel)
def codes1 : List Jvm.Cond := [Jvm.Cond.code x code maxLocals ret, Jvm.Cond.code ({ cls := "java/lang/Math", name := "max", desc := "(II)I" } : Jvm.MethodName) jdk_29_method_65_code (2 : Nat) (Option.some Jvm.ClassFile.FieldType.int), Jvm.Cond.code ({ cls := "com/example/amphora/amphora/ItemCostPinLaw", name := "item", desc := "(I)Lcom/example/amphora/amphora/Item;" } : Jvm.MethodName) method_2_code (1 : Nat) (Option.some (Jvm.ClassFile.FieldType.object "com/example/amphora/amphora/Item")), Jvm.Cond.code ({ cls := "com/example/amphora/amphora/Item", name := "cost", desc := "(I)I" } : Jvm.MethodName) prog_4_method_8_code (2 : Nat) (Option.some Jvm.ClassFile.FieldType.int), Jvm.Cond.code ({ cls := "com/example/amphora/amphora/ItemCostPinLaw", name := "expected", desc := "(II)I" } : Jvm.MethodName) method_3_code (2 : Nat) (Option.some Jvm.ClassFile.FieldType.int)]
set_option maxRecDepth 65536 in
theorem codes_eq : words1.filter isCode = codes1 := rfl
theorem w_codes : ∀ c ∈ words1.filter isCode, c.before args0 about1 = true := by
  rw [codes_eq]
  intro c hc
  simp only [codes1, List.mem_cons, List.not_mem_nil, or_false] at hc
  rcases hc with rfl | rfl | rfl | rfl | rfl
  · exact w_c0
  · exact w_c1
  · exact w_c2
  · exact w_c3
  · exact w_c4
set_option maxRecDepth 65536 in
theorem w_t1 : (words1.take 24).all (fun c => isCode c || c.before args0 about1) = true := by decide +kernel
set_option maxRecDepth 65536 in
theorem w_t2 : (words1.drop 24).all (fun c => isCode c || c.before args0 about1) = true := by decide +kernel
theorem w_tables : (allAtoms (Jvm.Cond.code x code maxLocals ret :: tables_1)).before args0 about1 = true := by
  rw [allAtoms_all]
  show words1.all (fun c => c.before args0 about1) = true
  refine all_split ?_ w_codes
  rw [← List.take_append_drop 24 words1, List.all_append, w_t1, w_t2]
  rfl
set_option maxRecDepth 65536 in
theorem w_case : (Jvm.Cond.and given_1 narrow_1).before args0 about1 = true := by decide +kernel
theorem w_applies : (headSpec (Jvm.Cond.code x code maxLocals ret :: tables_1) room_1).applies x e0.platform about1 = true :=
  (Spec.applies_iff w_frames).mpr ⟨w_running, w_runnable, w_alone, w_named, w_hears, w_ripe, w_room, w_tables⟩
theorem atStart : AtStart classFile x code maxLocals ret World_1 tables_1 room_1 Calls_1 rest_1 Pre_1 launch0 p0 e0 about1 theMethod args0 below0 :=
  ⟨lists_1, trivial, launch0.admits_env _ _ _, launch0.least_env, fairChoices_fair.cas, fairChoices_fair.clock, w_frames, w_args, w_heap, w_applies, trivial, trivial, w_case⟩
end start1
theorem witness_1 : WitnessClaimed_1 := ⟨start1.p0, start1.e0, start1.about1, start1.theMethod, start1.args0, start1.below0, start1.atStart⟩
end Jvm.Pilot.@@N@@
