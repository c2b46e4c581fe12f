import JvmDerived
import JvmDerived.Pilot.@@N@@Statement
import JvmDerived.Pilot.@@N@@Code
set_option linter.unusedVariables false
set_option linter.unusedSimpArgs false
namespace Jvm.Pilot.@@N@@
open Jvm Jvm.ClassFile Sem Op Lib Jvm.Free Jvm.Stand Jvm.LawKit Jvm.RoadKit Bundle Jvm.Pilot.@@N@@.Jvm.D
theorem own_cat {v : Value} (h : v.isRef = true) : v.category = 1 := by rcases ref_cases h with rfl | ⟨_, rfl⟩ <;> rfl
theorem own_store {l : Array Slot} {i : Nat} {v : Value} {o : Slot} (ho : One o) (hv : v.category = 1) (hold : l[i]? = some o := by rfl) : storeLocals l i v = some (l.setIfInBounds i (.val v)) := XS.store1 hold ho hv

def own_pk (f lo co : Addr) (k : Int32) : Addr := if (k &&& (2147483647 : Int32)) % (3 : Int32) = 0 then f else if (k &&& (2147483647 : Int32)) % (3 : Int32) = 1 then lo else co
theorem own_pk3 (f lo co : Addr) (k : Int32) : own_pk f lo co k = f ∨ own_pk f lo co k = lo ∨ own_pk f lo co k = co := by
  unfold own_pk; split
  · exact Or.inl rfl
  · split
    · exact Or.inr (Or.inl rfl)
    · exact Or.inr (Or.inr rfl)
theorem own_pkE {Z : State} {h : Heap} {f lo co : Addr} (k : Int32) (E1 : Exa Z h f "com/example/tierline/tierline/Tier") (E2 : Exa Z h lo "com/example/tierline/tierline/Tier") (E3 : Exa Z h co "com/example/tierline/tierline/Tier") : Exa Z h (own_pk f lo co k) "com/example/tierline/tierline/Tier" := by
  rcases own_pk3 f lo co k with q | q | q <;> rw [q] <;> assumption
theorem own_bit (x : Int32) : ¬ (x &&& (1 : Int32)) < 0 ∧ (x &&& (1 : Int32)) < 2 := by
  have h := c_mask x 1 1 (by decide) (by decide)
  simp only [Int32.lt_iff_toInt_lt]
  have e1 : (0 : Int32).toInt = 0 := rfl
  have e2 : (2 : Int32).toInt = 2 := rfl
  omega
theorem own_ext {h h' : Heap} (K : Keep h h' []) : Ext h h' := ⟨K.1, fun a c q => K.2.1 a c q nin0⟩
theorem d1_0 : decode method_2_code 0 = .ok (.iload_n 0, 1) := by decide +kernel
theorem d1_1 : decode method_2_code 1 = .ok (.ldc 7, 2) := by decide +kernel
theorem d1_3 : decode method_2_code 3 = .ok (.iand, 1) := by decide +kernel
theorem d1_4 : decode method_2_code 4 = .ok (.iconst 3, 1) := by decide +kernel
theorem d1_5 : decode method_2_code 5 = .ok (.irem, 1) := by decide +kernel
theorem d1_6 : decode method_2_code 6 = .ok (.istore_n 1, 1) := by decide +kernel
theorem d1_7 : decode method_2_code 7 = .ok (.iload_n 1, 1) := by decide +kernel
theorem d1_8 : decode method_2_code 8 = .ok (.ifCond .ne 7, 3) := by decide +kernel
theorem d1_11 : decode method_2_code 11 = .ok (.getstatic 8, 3) := by decide +kernel
theorem d1_14 : decode method_2_code 14 = .ok (.areturn, 1) := by decide +kernel
theorem d1_15 : decode method_2_code 15 = .ok (.iload_n 1, 1) := by decide +kernel
theorem d1_16 : decode method_2_code 16 = .ok (.iconst 1, 1) := by decide +kernel
theorem d1_17 : decode method_2_code 17 = .ok (.if_icmp .ne 7, 3) := by decide +kernel
theorem d1_20 : decode method_2_code 20 = .ok (.getstatic 14, 3) := by decide +kernel
theorem d1_23 : decode method_2_code 23 = .ok (.areturn, 1) := by decide +kernel
theorem d1_24 : decode method_2_code 24 = .ok (.getstatic 17, 3) := by decide +kernel
theorem d1_27 : decode method_2_code 27 = .ok (.areturn, 1) := by decide +kernel

theorem d2_0 : decode prog_71_method_4_code 0 = .ok (.iconst 2, 1) := by decide +kernel
theorem d2_1 : decode prog_71_method_4_code 1 = .ok (.anewarray 1, 3) := by decide +kernel
theorem d2_4 : decode prog_71_method_4_code 4 = .ok (.dup, 1) := by decide +kernel
theorem d2_5 : decode prog_71_method_4_code 5 = .ok (.iconst 0, 1) := by decide +kernel
theorem d2_6 : decode prog_71_method_4_code 6 = .ok (.getstatic 3, 3) := by decide +kernel
theorem d2_9 : decode prog_71_method_4_code 9 = .ok (.aastore, 1) := by decide +kernel
theorem d2_10 : decode prog_71_method_4_code 10 = .ok (.dup, 1) := by decide +kernel
theorem d2_11 : decode prog_71_method_4_code 11 = .ok (.iconst 1, 1) := by decide +kernel
theorem d2_12 : decode prog_71_method_4_code 12 = .ok (.getstatic 7, 3) := by decide +kernel
theorem d2_15 : decode prog_71_method_4_code 15 = .ok (.aastore, 1) := by decide +kernel
theorem d2_16 : decode prog_71_method_4_code 16 = .ok (.areturn, 1) := by decide +kernel

theorem pn_0 : plainName "com/example/tierline/tierline/TierWithGoalsPinLaw" = true := by first | (simp [plainName, overriddenIn]; done) | decide +kernel

theorem pn_2 : plainName "com/example/tierline/tierline/Tier" = true := by first | (simp [plainName, overriddenIn]; done) | decide +kernel

theorem pd_1 : parseMethodDescriptor "(I)Lcom/example/tierline/tierline/Tier;" = some ⟨[.int], some (.object "com/example/tierline/tierline/Tier")⟩ := by decide +kernel

theorem pd_2 : parseMethodDescriptor "()[Lcom/example/tierline/tierline/Tier;" = some ⟨[], some (.array (.object "com/example/tierline/tierline/Tier"))⟩ := by decide +kernel

theorem ef_1 (m : MethodId) (x0 : Int32)  : entryFrame m #[(.int x0)] 2 = mkF m 0 #[.val (.int x0), .unset] [] := by first | (simp [entryFrame, mkF, argsToLocals, Value.category]; done) | rfl
def Q1 (Z : State) (f lo co : Addr) (p1 : Int32) (h0 : Heap) (n0 : Nat) (v : Option Value) (h : Heap) (L : List Loc) : Prop := v = some (.ref (own_pk f lo co p1)) ∧ Fr n0 L ∧ h = h0
set_option maxRecDepth 65536 in
set_option maxHeartbeats 40000000 in
theorem rm1 (l : Launch) (Z : State) (a0 : Array Value) (hw : ∀ d ∈ tables_1, d.before a0 Z = true) (ws : List Jvm.Cond) (f lo co : Addr) (p1 : Int32) (h0 : Heap) (n0 : Nat) (Z0 : n0 ≤ h0.size) (S1 : Sta Z h0 "com/example/tierline/tierline/Tier" "FIRST" "Lcom/example/tierline/tierline/Tier;" (.ref f)) (S2 : Sta Z h0 "com/example/tierline/tierline/Tier" "LOWER" "Lcom/example/tierline/tierline/Tier;" (.ref lo)) (S3 : Sta Z h0 "com/example/tierline/tierline/Tier" "COMBINED" "Lcom/example/tierline/tierline/Tier;" (.ref co)) :
    MetFree l (⟨"com/example/tierline/tierline/TierWithGoalsPinLaw", "pick", "(I)Lcom/example/tierline/tierline/Tier;"⟩ : MethodName) (head1 (Jvm.Cond.code (⟨"com/example/tierline/tierline/TierWithGoalsPinLaw", "pick", "(I)Lcom/example/tierline/tierline/Tier;"⟩ : MethodName) method_2_code 2 (some (.object "com/example/tierline/tierline/Tier")) :: ws) ({ frames := 0, cells := 0, slots := 0, locals := 0 } : Room)) (fun a U => a = #[(.int p1)] ∧ Z.Warmed39 U.vm ∧ U.heap = h0) (fun _ _ _ _ _ => True) (fun _ U o U' => ∃ v L, o = .returned v ∧ Q1 Z f lo co p1 h0 n0 v U'.heap L ∧ FrameEnd U o U' L ({ frames := 0, cells := 0, slots := 0, locals := 0 } : Room).cells ({ frames := 0, cells := 0, slots := 0, locals := 0 } : Room).slots) := by
  refine MetFree.of_bodySF (plainFor_of_name pn_0) hisR ?_
  intro p e s m args below meth c s₁ Bd hml0 hP hK
  obtain ⟨rfl, hZ, hh⟩ := hP
  have hx := Bd.exec
  have hby := Bd.bytes
  have hml : c.maxLocals = 2 := hml0
  have hown : s.vm.findClass "com/example/tierline/tierline/TierWithGoalsPinLaw" = some m.cls := findClass_of_methodNamed Bd.named
  have hnm := (name_of_methodNamed Bd.named Bd.method).1
  have X0 : Stand p l e ({ frames := 0, cells := 0, slots := 0, locals := 0 } : Room) s m #[(.int p1)] below meth c s₁ [] 0 0 := Stand.of_body Bd
  have e0 : s₁.heap = h0 := by rw [← hh, Bd.state]; rfl
  have N0 := Fr.nil n0
  have pre0 : ∀ t, Steps p.tables e below (s₁.setTop (mkF m 0 #[.val (.int p1), .unset] [])) t → Steps p.tables e below (s₁.setTop (entryFrame m #[(.int p1)] 2)) t := fun t k => castTop (ef_1 m p1) k
  have pre1 : ∀ t, Steps p.tables e below (s₁.setTop (mkF m 8 #[.val (.int p1), .val (.int ((p1 &&& (2147483647 : Int32)) % (3 : Int32)))] [(.int ((p1 &&& (2147483647 : Int32)) % (3 : Int32)))])) t → Steps p.tables e below (s₁.setTop (entryFrame m #[(.int p1)] 2)) t := fun t k => pre0 t (by
    show Steps p.tables e below (s₁.setTop (mkF m 0 #[.val (.int p1), .unset] [])) _
    refine XS.iloadN X0.here hx rfl (hb hby d1_0) rfl ?_
    show Steps p.tables e below (s₁.setTop (mkF m 1 #[.val (.int p1), .unset] [(.int p1)])) _
    refine X0.ldcI hx hown (mvT hZ (hw _ (List.mem_of_getElem? (i := 4) rfl))) (g := (mkF m 1 #[.val (.int p1), .unset] [(.int p1)])) rfl (hb hby d1_1) ?_
    show Steps p.tables e below (s₁.setTop (mkF m 3 #[.val (.int p1), .unset] [(.int (2147483647 : Int32)), (.int p1)])) _
    refine XS.iand X0.here hx rfl (hb hby d1_3) rfl ?_
    show Steps p.tables e below (s₁.setTop (mkF m 4 #[.val (.int p1), .unset] [(.int (p1 &&& (2147483647 : Int32)))])) _
    refine XS.iconst X0.here hx rfl (hb hby d1_4) ?_
    show Steps p.tables e below (s₁.setTop (mkF m 5 #[.val (.int p1), .unset] [(.int (3 : Int32)), (.int (p1 &&& (2147483647 : Int32)))])) _
    refine iremM (g := (mkF m 5 #[.val (.int p1), .unset] [(.int (3 : Int32)), (.int (p1 &&& (2147483647 : Int32)))])) X0 hx rfl (hb hby d1_5) rfl (by decide) ?_
    show Steps p.tables e below (s₁.setTop (mkF m 6 #[.val (.int p1), .unset] [(.int ((p1 &&& (2147483647 : Int32)) % (3 : Int32)))])) _
    refine XS.istoreN X0.here hx rfl (hb hby d1_6) rfl (l' := #[.val (.int p1), .val (.int ((p1 &&& (2147483647 : Int32)) % (3 : Int32)))]) rfl ?_
    show Steps p.tables e below (s₁.setTop (mkF m 7 #[.val (.int p1), .val (.int ((p1 &&& (2147483647 : Int32)) % (3 : Int32)))] [])) _
    refine XS.iloadN X0.here hx rfl (hb hby d1_7) rfl ?_
    exact k)
  by_cases hc8 : ((p1 &&& (2147483647 : Int32)) % (3 : Int32)) = (0 : Int32)
  · obtain ⟨T2, X2, e2, st2⟩ := getS2 X0 hx hZ hown (host := "") (Or.inl (hw _ (List.mem_of_getElem? (i := 5) rfl))) Via.refl e0 S1 (g := (mkF m 11 #[.val (.int p1), .val (.int ((p1 &&& (2147483647 : Int32)) % (3 : Int32)))] [])) rfl (hb hby d1_11)
    have pre3 : ∀ t, Steps p.tables e below (T2.setTop (mkF m 14 #[.val (.int p1), .val (.int ((p1 &&& (2147483647 : Int32)) % (3 : Int32)))] [(.ref f)])) t → Steps p.tables e below (s₁.setTop (entryFrame m #[(.int p1)] 2)) t := fun t k => pre1 t (by
      show Steps p.tables e below (s₁.setTop (mkF m 8 #[.val (.int p1), .val (.int ((p1 &&& (2147483647 : Int32)) % (3 : Int32)))] [(.int ((p1 &&& (2147483647 : Int32)) % (3 : Int32)))])) _
      refine XS.ifNo X0.here hx rfl (hb hby d1_8) rfl ((if0 _ _).trans (teq hc8).2) ?_
      show Steps p.tables e below (s₁.setTop (mkF m 11 #[.val (.int p1), .val (.int ((p1 &&& (2147483647 : Int32)) % (3 : Int32)))] [])) _
      refine st2 _ ?_
      exact k)
    obtain ⟨fs4, hr4, hrun4, hended4, hW4, hsame4⟩ := X2.leave (v := some (.ref f)) (fun h => by rw [Bd.returns] at h; cases h)
    refine ⟨_, _, pre3 _ ?_, hrun4, hended4, _, _, rfl, ?_, ⟨_, rfl⟩, hW4, hsame4.mono (by decide) (by decide)⟩
    · show Steps p.tables e below (T2.setTop (mkF m 14 #[.val (.int p1), .val (.int ((p1 &&& (2147483647 : Int32)) % (3 : Int32)))] [(.ref f)])) _
      exact retOut X2 hx (t := (.object "com/example/tierline/tierline/Tier")) Bd.returns rfl (Or.inr (Or.inr (Or.inr (Or.inr ⟨rfl, rfl, rfl⟩)))) (hb hby d1_14) hr4
    · show Q1 Z f lo co p1 h0 n0 _ T2.heap _
      rw [e2]
      exact ⟨by simp [own_pk, hc8], N0, rfl⟩
  have pre5 : ∀ t, Steps p.tables e below (s₁.setTop (mkF m 17 #[.val (.int p1), .val (.int ((p1 &&& (2147483647 : Int32)) % (3 : Int32)))] [(.int (1 : Int32)), (.int ((p1 &&& (2147483647 : Int32)) % (3 : Int32)))])) t → Steps p.tables e below (s₁.setTop (entryFrame m #[(.int p1)] 2)) t := fun t k => pre1 t (by
    show Steps p.tables e below (s₁.setTop (mkF m 8 #[.val (.int p1), .val (.int ((p1 &&& (2147483647 : Int32)) % (3 : Int32)))] [(.int ((p1 &&& (2147483647 : Int32)) % (3 : Int32)))])) _
    refine XS.ifYes X0.here hx rfl (pc0 := 8) (pc' := 15) rfl (hb hby d1_8) rfl ((if0 _ _).trans (feq hc8).2) (by decide) (by decide) ?_
    show Steps p.tables e below (s₁.setTop (mkF m 15 #[.val (.int p1), .val (.int ((p1 &&& (2147483647 : Int32)) % (3 : Int32)))] [])) _
    refine XS.iloadN X0.here hx rfl (hb hby d1_15) rfl ?_
    show Steps p.tables e below (s₁.setTop (mkF m 16 #[.val (.int p1), .val (.int ((p1 &&& (2147483647 : Int32)) % (3 : Int32)))] [(.int ((p1 &&& (2147483647 : Int32)) % (3 : Int32)))])) _
    refine XS.iconst X0.here hx rfl (hb hby d1_16) ?_
    exact k)
  by_cases hc17 : ((p1 &&& (2147483647 : Int32)) % (3 : Int32)) = (1 : Int32)
  · obtain ⟨T6, X6, e6, st6⟩ := getS2 X0 hx hZ hown (host := "") (Or.inl (hw _ (List.mem_of_getElem? (i := 17) rfl))) Via.refl e0 S2 (g := (mkF m 20 #[.val (.int p1), .val (.int ((p1 &&& (2147483647 : Int32)) % (3 : Int32)))] [])) rfl (hb hby d1_20)
    have pre7 : ∀ t, Steps p.tables e below (T6.setTop (mkF m 23 #[.val (.int p1), .val (.int ((p1 &&& (2147483647 : Int32)) % (3 : Int32)))] [(.ref lo)])) t → Steps p.tables e below (s₁.setTop (entryFrame m #[(.int p1)] 2)) t := fun t k => pre5 t (by
      show Steps p.tables e below (s₁.setTop (mkF m 17 #[.val (.int p1), .val (.int ((p1 &&& (2147483647 : Int32)) % (3 : Int32)))] [(.int (1 : Int32)), (.int ((p1 &&& (2147483647 : Int32)) % (3 : Int32)))])) _
      refine XS.icmpNo X0.here hx rfl (hb hby d1_17) rfl (teq hc17).2 ?_
      show Steps p.tables e below (s₁.setTop (mkF m 20 #[.val (.int p1), .val (.int ((p1 &&& (2147483647 : Int32)) % (3 : Int32)))] [])) _
      refine st6 _ ?_
      exact k)
    obtain ⟨fs8, hr8, hrun8, hended8, hW8, hsame8⟩ := X6.leave (v := some (.ref lo)) (fun h => by rw [Bd.returns] at h; cases h)
    refine ⟨_, _, pre7 _ ?_, hrun8, hended8, _, _, rfl, ?_, ⟨_, rfl⟩, hW8, hsame8.mono (by decide) (by decide)⟩
    · show Steps p.tables e below (T6.setTop (mkF m 23 #[.val (.int p1), .val (.int ((p1 &&& (2147483647 : Int32)) % (3 : Int32)))] [(.ref lo)])) _
      exact retOut X6 hx (t := (.object "com/example/tierline/tierline/Tier")) Bd.returns rfl (Or.inr (Or.inr (Or.inr (Or.inr ⟨rfl, rfl, rfl⟩)))) (hb hby d1_23) hr8
    · show Q1 Z f lo co p1 h0 n0 _ T6.heap _
      rw [e6]
      exact ⟨by simp [own_pk, hc8, hc17], N0, rfl⟩
  obtain ⟨T9, X9, e9, st9⟩ := getS2 X0 hx hZ hown (host := "") (Or.inl (hw _ (List.mem_of_getElem? (i := 18) rfl))) Via.refl e0 S3 (g := (mkF m 24 #[.val (.int p1), .val (.int ((p1 &&& (2147483647 : Int32)) % (3 : Int32)))] [])) rfl (hb hby d1_24)
  have pre10 : ∀ t, Steps p.tables e below (T9.setTop (mkF m 27 #[.val (.int p1), .val (.int ((p1 &&& (2147483647 : Int32)) % (3 : Int32)))] [(.ref co)])) t → Steps p.tables e below (s₁.setTop (entryFrame m #[(.int p1)] 2)) t := fun t k => pre5 t (by
    show Steps p.tables e below (s₁.setTop (mkF m 17 #[.val (.int p1), .val (.int ((p1 &&& (2147483647 : Int32)) % (3 : Int32)))] [(.int (1 : Int32)), (.int ((p1 &&& (2147483647 : Int32)) % (3 : Int32)))])) _
    refine XS.icmpYes X0.here hx rfl (pc0 := 17) (pc' := 24) rfl (hb hby d1_17) rfl (feq hc17).2 (by decide) (by decide) ?_
    show Steps p.tables e below (s₁.setTop (mkF m 24 #[.val (.int p1), .val (.int ((p1 &&& (2147483647 : Int32)) % (3 : Int32)))] [])) _
    refine st9 _ ?_
    exact k)
  obtain ⟨fs11, hr11, hrun11, hended11, hW11, hsame11⟩ := X9.leave (v := some (.ref co)) (fun h => by rw [Bd.returns] at h; cases h)
  refine ⟨_, _, pre10 _ ?_, hrun11, hended11, _, _, rfl, ?_, ⟨_, rfl⟩, hW11, hsame11.mono (by decide) (by decide)⟩
  · show Steps p.tables e below (T9.setTop (mkF m 27 #[.val (.int p1), .val (.int ((p1 &&& (2147483647 : Int32)) % (3 : Int32)))] [(.ref co)])) _
    exact retOut X9 hx (t := (.object "com/example/tierline/tierline/Tier")) Bd.returns rfl (Or.inr (Or.inr (Or.inr (Or.inr ⟨rfl, rfl, rfl⟩)))) (hb hby d1_27) hr11
  · show Q1 Z f lo co p1 h0 n0 _ T9.heap _
    rw [e9]
    exact ⟨by simp [own_pk, hc8, hc17], N0, rfl⟩

theorem ef_2 (m : MethodId)   : entryFrame m #[] 0 = mkF m 0 #[] [] := by first | (simp [entryFrame, mkF, argsToLocals, Value.category]; done) | rfl
def Q2 (Z : State) (f lo : Addr) (h0 : Heap) (n0 : Nat) (v : Option Value) (h : Heap) (L : List Loc) : Prop := v = some (.ref h0.size) ∧ Fr n0 L ∧ Ext h0 h ∧ ∃ k, Arv Z h h0.size k (.object "com/example/tierline/tierline/Tier") 2 [.ref f, .ref lo] .null ∧ Ovr Z k "com/example/tierline/tierline/Tier"
set_option maxRecDepth 65536 in
set_option maxHeartbeats 40000000 in
theorem rm2 (l : Launch) (Z : State) (a0 : Array Value) (hw : ∀ d ∈ tables_1, d.before a0 Z = true) (ws : List Jvm.Cond) (f lo : Addr) (h0 : Heap) (n0 : Nat) (Z0 : n0 ≤ h0.size) (S1 : Sta Z h0 "com/example/tierline/tierline/Tier" "FIRST" "Lcom/example/tierline/tierline/Tier;" (.ref f)) (S2 : Sta Z h0 "com/example/tierline/tierline/Tier" "LOWER" "Lcom/example/tierline/tierline/Tier;" (.ref lo)) (Xf : Exa Z h0 f "com/example/tierline/tierline/Tier") (Xl : Exa Z h0 lo "com/example/tierline/tierline/Tier") :
    MetFree l (⟨"com/example/tierline/tierline/Tier", "withGoals", "()[Lcom/example/tierline/tierline/Tier;"⟩ : MethodName) (head1 (Jvm.Cond.code (⟨"com/example/tierline/tierline/Tier", "withGoals", "()[Lcom/example/tierline/tierline/Tier;"⟩ : MethodName) prog_71_method_4_code 0 (some (.array (.object "com/example/tierline/tierline/Tier"))) :: ws) ({ frames := 0, cells := 1, slots := 2, locals := 0 } : Room)) (fun a U => a = #[] ∧ Z.Warmed39 U.vm ∧ U.heap = h0) (fun _ _ _ _ _ => True) (fun _ U o U' => ∃ v L, o = .returned v ∧ Q2 Z f lo h0 n0 v U'.heap L ∧ FrameEnd U o U' L ({ frames := 0, cells := 1, slots := 2, locals := 0 } : Room).cells ({ frames := 0, cells := 1, slots := 2, locals := 0 } : Room).slots) := by
  refine MetFree.of_bodySF (plainFor_of_name pn_2) hisR ?_
  intro p e s m args below meth c s₁ Bd hml0 hP hK
  obtain ⟨rfl, hZ, hh⟩ := hP
  have hx := Bd.exec
  have hby := Bd.bytes
  have hml : c.maxLocals = 0 := hml0
  have hown : s.vm.findClass "com/example/tierline/tierline/Tier" = some m.cls := findClass_of_methodNamed Bd.named
  have hnm := (name_of_methodNamed Bd.named Bd.method).1
  have X0 : Stand p l e ({ frames := 0, cells := 1, slots := 2, locals := 0 } : Room) s m #[] below meth c s₁ [] 0 0 := Stand.of_body Bd
  have e0 : s₁.heap = h0 := by rw [← hh, Bd.state]; rfl
  have N0 := Fr.nil n0
  have pre0 : ∀ t, Steps p.tables e below (s₁.setTop (mkF m 0 #[] [])) t → Steps p.tables e below (s₁.setTop (entryFrame m #[] 0)) t := fun t k => castTop (ef_2 m ) k
  obtain ⟨T1, h1, k1, X1, e1, E1, A1, O1, st1⟩ := newR X0 hx hZ hown (hw _ (List.mem_of_getElem? (i := 11) rfl)) (hw _ (List.mem_of_getElem? (i := 12) rfl)) e0 (g := (mkF m 1 #[] [(.int (2 : Int32))])) rfl (hb hby d2_1) rfl (by decide) (cap := 2) (by decide) (by decide) (by decide) (by decide)
  obtain ⟨b1, gb1⟩ : ∃ z, z = h0.size := ⟨_, rfl⟩
  rw [← gb1] at A1 st1
  have gn1 : n0 ≤ b1 := Nat.le_trans Z0 (Nat.le_of_eq gb1.symm)
  have ne_f_b1 : f ≠ b1 := Nat.ne_of_lt (Nat.lt_of_lt_of_le Xf.lt (Nat.le_of_eq gb1.symm))
  have ne_lo_b1 : lo ≠ b1 := Nat.ne_of_lt (Nat.lt_of_lt_of_le Xl.lt (Nat.le_of_eq gb1.symm))
  have S1_1 := S1.ext E1
  have S2_1 := S2.ext E1
  have Xf_1 := Xf.ext E1
  have Xl_1 := Xl.ext E1
  have V1 : Arv Z h1 b1 k1 (.object "com/example/tierline/tierline/Tier") (2 : Int32) [.null, .null] .null := (Arv.new A1 (by decide)).pad (pad_rep [] .null 2)
  obtain ⟨T2, X2, e2, st2⟩ := getS2 X1 hx hZ hown (host := "") (Or.inl (hw _ (List.mem_of_getElem? (i := 13) rfl))) Via.refl e1 S1_1 (g := (mkF m 6 #[] [(.int (0 : Int32)), (.ref b1), (.ref b1)])) rfl (hb hby d2_6)
  have Vc3 := V1
  obtain ⟨cl3, Ar3, qq3, sz3, nn3, Ha3, Gf3⟩ := Vc3
  have hin3 : ¬ ((0 : Int32) < 0 ∨ cl3.slots.size ≤ ((0 : Int32)).toNatClampNeg) := inb_of sz3 ⟨by decide, by decide⟩
  obtain ⟨T4, h4, X4, e4, W4, st4⟩ := stR X2 hx hZ e2 Ar3 (j := (0 : Int32)) hin3 rfl (Sto.ofV Ar3 qq3 O1 (Ins.self Xf_1)) (g := (mkF m 9 #[] [(.ref f), (.int (0 : Int32)), (.ref b1), (.ref b1)])) rfl rfl (hb hby d2_9)
  have N4 := Fr.snoc X4 N0 gn1
  have S1_4 := S1_1.wr W4
  have S2_4 := S2_1.wr W4
  have Xf_4 := Xf_1.wr W4
  have Xl_4 := Xl_1.wr W4
  have V1_4 := Arv.set Ar3 qq3 sz3 nn3 Ha3 Gf3 rfl W4 0 rfl (Nat.le_of_ble_eq_true rfl)
  obtain ⟨T5, X5, e5, st5⟩ := getS2 X4 hx hZ hown (host := "") (Or.inl (hw _ (List.mem_of_getElem? (i := 15) rfl))) Via.refl e4 S2_4 (g := (mkF m 12 #[] [(.int (1 : Int32)), (.ref b1), (.ref b1)])) rfl (hb hby d2_12)
  have Vc6 := V1_4
  obtain ⟨cl6, Ar6, qq6, sz6, nn6, Ha6, Gf6⟩ := Vc6
  have hin6 : ¬ ((1 : Int32) < 0 ∨ cl6.slots.size ≤ ((1 : Int32)).toNatClampNeg) := inb_of sz6 ⟨by decide, by decide⟩
  obtain ⟨T7, h7, X7, e7, W7, st7⟩ := stR X5 hx hZ e5 Ar6 (j := (1 : Int32)) hin6 rfl (Sto.ofV Ar6 qq6 O1 (Ins.self Xl_4)) (g := (mkF m 15 #[] [(.ref lo), (.int (1 : Int32)), (.ref b1), (.ref b1)])) rfl rfl (hb hby d2_15)
  have N7 := Fr.snoc X7 N4 gn1
  have S1_7 := S1_4.wr W7
  have S2_7 := S2_4.wr W7
  have Xf_7 := Xf_4.wr W7
  have Xl_7 := Xl_4.wr W7
  have V1_7 := Arv.set Ar6 qq6 sz6 nn6 Ha6 Gf6 rfl W7 1 rfl (Nat.le_of_ble_eq_true rfl)
  have pre8 : ∀ t, Steps p.tables e below (T7.setTop (mkF m 16 #[] [(.ref b1)])) t → Steps p.tables e below (s₁.setTop (entryFrame m #[] 0)) t := fun t k => pre0 t (by
    show Steps p.tables e below (s₁.setTop (mkF m 0 #[] [])) _
    refine XS.iconst X0.here hx rfl (hb hby d2_0) ?_
    show Steps p.tables e below (s₁.setTop (mkF m 1 #[] [(.int (2 : Int32))])) _
    refine st1 _ ?_
    show Steps p.tables e below (T1.setTop (mkF m 4 #[] [(.ref b1)])) _
    refine XS.dup X1.here hx rfl (hb hby d2_4) rfl rfl ?_
    show Steps p.tables e below (T1.setTop (mkF m 5 #[] [(.ref b1), (.ref b1)])) _
    refine XS.iconst X1.here hx rfl (hb hby d2_5) ?_
    show Steps p.tables e below (T1.setTop (mkF m 6 #[] [(.int (0 : Int32)), (.ref b1), (.ref b1)])) _
    refine st2 _ ?_
    show Steps p.tables e below (T2.setTop (mkF m 9 #[] [(.ref f), (.int (0 : Int32)), (.ref b1), (.ref b1)])) _
    refine st4 _ ?_
    show Steps p.tables e below (T4.setTop (mkF m 10 #[] [(.ref b1)])) _
    refine XS.dup X4.here hx rfl (hb hby d2_10) rfl rfl ?_
    show Steps p.tables e below (T4.setTop (mkF m 11 #[] [(.ref b1), (.ref b1)])) _
    refine XS.iconst X4.here hx rfl (hb hby d2_11) ?_
    show Steps p.tables e below (T4.setTop (mkF m 12 #[] [(.int (1 : Int32)), (.ref b1), (.ref b1)])) _
    refine st5 _ ?_
    show Steps p.tables e below (T5.setTop (mkF m 15 #[] [(.ref lo), (.int (1 : Int32)), (.ref b1), (.ref b1)])) _
    refine st7 _ ?_
    exact k)
  obtain ⟨fs9, hr9, hrun9, hended9, hW9, hsame9⟩ := X7.leave (v := some (.ref b1)) (fun h => by rw [Bd.returns] at h; cases h)
  refine ⟨_, _, pre8 _ ?_, hrun9, hended9, _, _, rfl, ?_, ⟨_, rfl⟩, hW9, hsame9.mono (by decide) (by decide)⟩
  · show Steps p.tables e below (T7.setTop (mkF m 16 #[] [(.ref b1)])) _
    exact retOut X7 hx (t := (.array (.object "com/example/tierline/tierline/Tier"))) Bd.returns rfl (Or.inr (Or.inr (Or.inr (Or.inr ⟨rfl, rfl, rfl⟩)))) (hb hby d2_16) hr9
  · show Q2 Z f lo h0 n0 _ T7.heap _
    rw [e7]
    refine ⟨by rw [gb1], N7, ?_, k1, ?_, O1⟩
    · exact own_ext ((((Keep.refl h0 []).ext E1).wr W4 (Or.inr (Nat.le_of_eq gb1.symm))).wr W7 (Or.inr (Nat.le_of_eq gb1.symm)))
    · rw [← gb1]; exact V1_7

theorem ef_0 (m : MethodId) (x0 : Int32) (x1 : Int32)  : entryFrame m #[(.int x0), (.int x1)] maxLocals = mkF m 0 #[.val (.int x0), .val (.int x1), .unset, .unset, .unset, .unset] [] := by first | (simp [entryFrame, mkF, argsToLocals, Value.category, maxLocals]; done) | rfl
def Q0 (Z : State) (f lo co : Addr) (p1 p2 : Int32) (h0 : Heap) (n0 : Nat) (v : Option Value) (h : Heap) (L : List Loc) : Prop := v = some (.int (1 : Int32)) ∧ Fr n0 L
set_option maxRecDepth 65536 in
set_option maxHeartbeats 40000000 in
theorem rm0 (l : Launch) (Z : State) (a0 : Array Value) (hw : ∀ d ∈ tables_1, d.before a0 Z = true) (ws : List Jvm.Cond) (f lo co : Addr) (p1 p2 : Int32) (h0 : Heap) (n0 : Nat) (Z0 : n0 ≤ h0.size) (S1 : Sta Z h0 "com/example/tierline/tierline/Tier" "FIRST" "Lcom/example/tierline/tierline/Tier;" (.ref f)) (S2 : Sta Z h0 "com/example/tierline/tierline/Tier" "LOWER" "Lcom/example/tierline/tierline/Tier;" (.ref lo)) (S3 : Sta Z h0 "com/example/tierline/tierline/Tier" "COMBINED" "Lcom/example/tierline/tierline/Tier;" (.ref co)) (Xf : Exa Z h0 f "com/example/tierline/tierline/Tier") (Xl : Exa Z h0 lo "com/example/tierline/tierline/Tier") (Xc : Exa Z h0 co "com/example/tierline/tierline/Tier") (Dfl : f ≠ lo) (Dfc : f ≠ co) (Dlc : lo ≠ co) :
    MetFree l x (head1 (Jvm.Cond.code x code maxLocals ret :: ws) room_1) (fun a U => a = #[(.int p1), (.int p2)] ∧ Z.Warmed39 U.vm ∧ U.heap = h0) (fun _ _ _ _ _ => True) (fun _ U o U' => ∃ v L, o = .returned v ∧ Q0 Z f lo co p1 p2 h0 n0 v U'.heap L ∧ FrameEnd U o U' L room_1.cells room_1.slots) := by
  refine MetFree.of_bodySF (plainFor_of_name pn_0) hisR ?_
  intro p e s m args below meth c s₁ Bd hml0 hP hK
  obtain ⟨rfl, hZ, hh⟩ := hP
  have hx := Bd.exec
  have hby := Bd.bytes
  have hml : c.maxLocals = 6 := hml0
  have hown : s.vm.findClass "com/example/tierline/tierline/TierWithGoalsPinLaw" = some m.cls := findClass_of_methodNamed Bd.named
  have hnm := (name_of_methodNamed Bd.named Bd.method).1
  have X0 : Stand p l e room_1 s m #[(.int p1), (.int p2)] below meth c s₁ [] 0 0 := Stand.of_body Bd
  have e0 : s₁.heap = h0 := by rw [← hh, Bd.state]; rfl
  have N0 := Fr.nil n0
  have pre0 : ∀ t, Steps p.tables e below (s₁.setTop (mkF m 0 #[.val (.int p1), .val (.int p2), .unset, .unset, .unset, .unset] [])) t → Steps p.tables e below (s₁.setTop (entryFrame m #[(.int p1), (.int p2)] maxLocals)) t := fun t k => castTop (ef_0 m p1 p2) k
  obtain ⟨_, _, ⟨T1, L1, k1, n1⟩, -, X1, ⟨Lc1, hQ1, l1, y1, z1⟩, st1⟩ := Jvm.LawKit.callS X0 hx (y := (⟨"com/example/tierline/tierline/TierWithGoalsPinLaw", "pick", "(I)Lcom/example/tierline/tierline/Tier;"⟩ : MethodName)) hown (mvT hZ (hw _ (List.mem_of_getElem? (i := 0) rfl))) (mvT hZ (hw _ (List.mem_of_getElem? (i := 1) rfl))) (mvT hZ (hw _ (List.mem_of_getElem? (i := 2) rfl))) (mvT hZ (hw _ (List.mem_of_getElem? (i := 3) rfl))) (by decide) (backOf (W := 0) (rm1 l Z a0 hw [] f lo co p1 h0 n0 Z0 S1 S2 S3) hZ (hw _ (List.mem_of_getElem? (i := 3) rfl)) (hw _ (List.mem_of_getElem? (i := 2) rfl)) (by decide) (by decide)) (g := (mkF m 1 #[.val (.int p1), .val (.int p2), .unset, .unset, .unset, .unset] [(.int p1)])) rfl (by rw [hml]; rfl) (argsL := [(.int p1)]) (rest := []) (lenOf pd_1 rfl) rfl (by show 2 * 0 + _ ≤ _; exact Nat.le_of_eq rfl) (hb hby at_1) (fun _ _ => ⟨rfl, e0, (by decide : 0 + 0 ≤ _), (by decide : 0 + 0 ≤ _)⟩)
  dsimp only [Pt.U, Pt.locs, Pt.cells, Pt.slots] at X1 l1 y1 z1 st1 hQ1
  subst l1 y1 z1
  obtain ⟨rfl, N1q, q1⟩ := hQ1
  have N1 := Fr.app N0 N1q
  obtain ⟨_, _, ⟨T2, L2, k2, n2⟩, -, X2, ⟨Lc2, hQ2, l2, y2, z2⟩, st2⟩ := Jvm.LawKit.callS X1 hx (y := (⟨"com/example/tierline/tierline/Tier", "withGoals", "()[Lcom/example/tierline/tierline/Tier;"⟩ : MethodName)) hown (mvT hZ (hw _ (List.mem_of_getElem? (i := 8) rfl))) (mvT hZ (hw _ (List.mem_of_getElem? (i := 9) rfl))) (mvT hZ (hw _ (List.mem_of_getElem? (i := 6) rfl))) (mvT hZ (hw _ (List.mem_of_getElem? (i := 10) rfl))) (by decide) (backOf (W := 0) (rm2 l Z a0 hw [] f lo h0 n0 Z0 S1 S2 Xf Xl) hZ (hw _ (List.mem_of_getElem? (i := 10) rfl)) (hw _ (List.mem_of_getElem? (i := 6) rfl)) (by decide) (by decide)) (g := (mkF m 5 #[.val (.int p1), .val (.int p2), .val (.ref (own_pk f lo co p1)), .unset, .unset, .unset] [])) rfl (by rw [hml]; rfl) (argsL := []) (rest := []) (lenOf pd_2 rfl) rfl (by show 2 * 0 + _ ≤ _; exact Nat.le_of_eq rfl) (hb hby at_5) (fun _ _ => ⟨rfl, q1, (by decide : 0 + 1 ≤ _), (by decide : 0 + 2 ≤ _)⟩)
  dsimp only [Pt.U, Pt.locs, Pt.cells, Pt.slots] at X2 l2 y2 z2 st2 hQ2
  subst l2 y2 z2
  obtain ⟨rfl, N2q, E2, k2, V2, O2⟩ := hQ2
  have N2 := Fr.app N1 N2q
  have S1_2 := S1.ext E2
  have S2_2 := S2.ext E2
  have S3_2 := S3.ext E2
  have Xf_2 := Xf.ext E2
  have Xl_2 := Xl.ext E2
  have Xc_2 := Xc.ext E2
  have Vc3 := V2
  obtain ⟨cl3, Ar3, qq3, sz3, nn3, Ha3, Gf3⟩ := Vc3
  have Vc4 := V2
  obtain ⟨cl4, Ar4, qq4, sz4, nn4, Ha4, Gf4⟩ := Vc4
  have hin4 : ¬ ((0 : Int32) < 0 ∨ cl4.slots.size ≤ ((0 : Int32)).toNatClampNeg) := inb_of sz4 ⟨by decide, by decide⟩
  obtain ⟨T5, X5, e5, st5⟩ := getS2 X2 hx hZ hown (host := "") (Or.inl (hw _ (List.mem_of_getElem? (i := 5) rfl))) Via.refl rfl S1_2 (g := (mkF m 24 #[.val (.int p1), .val (.int p2), .val (.ref (own_pk f lo co p1)), .val (.ref (h0.size)), .unset, .unset] [(.ref f)])) rfl (hb hby at_24)
  have Vc6 := V2
  obtain ⟨cl6, Ar6, qq6, sz6, nn6, Ha6, Gf6⟩ := Vc6
  have hin6 : ¬ ((1 : Int32) < 0 ∨ cl6.slots.size ≤ ((1 : Int32)).toNatClampNeg) := inb_of sz6 ⟨by decide, by decide⟩
  obtain ⟨T7, X7, e7, st7⟩ := getS2 X5 hx hZ hown (host := "") (Or.inl (hw _ (List.mem_of_getElem? (i := 17) rfl))) Via.refl e5 S2_2 (g := (mkF m 33 #[.val (.int p1), .val (.int p2), .val (.ref (own_pk f lo co p1)), .val (.ref (h0.size)), .unset, .unset] [(.ref lo)])) rfl (hb hby at_33)
  have Vc8 := V2
  obtain ⟨cl8, Ar8, qq8, sz8, nn8, Ha8, Gf8⟩ := Vc8
  have hin8 : ¬ ((0 : Int32) < 0 ∨ cl8.slots.size ≤ ((0 : Int32)).toNatClampNeg) := inb_of sz8 ⟨by decide, by decide⟩
  have pre9 : ∀ t, Steps p.tables e below (T7.setTop (mkF m 45 #[.val (.int p1), .val (.int p2), .val (.ref (own_pk f lo co p1)), .val (.ref (h0.size)), .unset, .unset] [(.ref (own_pk f lo co p1)), (.ref f)])) t → Steps p.tables e below (s₁.setTop (entryFrame m #[(.int p1), (.int p2)] maxLocals)) t := fun t k => pre0 t (by
    show Steps p.tables e below (s₁.setTop (mkF m 0 #[.val (.int p1), .val (.int p2), .unset, .unset, .unset, .unset] [])) _
    refine XS.iloadN X0.here hx rfl (hb hby at_0) rfl ?_
    show Steps p.tables e below (s₁.setTop (mkF m 1 #[.val (.int p1), .val (.int p2), .unset, .unset, .unset, .unset] [(.int p1)])) _
    refine st1 _ ?_
    show Steps p.tables e below (T1.setTop (mkF m 4 #[.val (.int p1), .val (.int p2), .unset, .unset, .unset, .unset] [(.ref (own_pk f lo co p1))])) _
    refine XS.astoreN X1.here hx rfl (hb hby at_4) rfl rfl (l' := #[.val (.int p1), .val (.int p2), .val (.ref (own_pk f lo co p1)), .unset, .unset, .unset]) rfl ?_
    show Steps p.tables e below (T1.setTop (mkF m 5 #[.val (.int p1), .val (.int p2), .val (.ref (own_pk f lo co p1)), .unset, .unset, .unset] [])) _
    refine st2 _ ?_
    show Steps p.tables e below (T2.setTop (mkF m 8 #[.val (.int p1), .val (.int p2), .val (.ref (own_pk f lo co p1)), .unset, .unset, .unset] [(.ref (h0.size))])) _
    refine XS.astoreN X2.here hx rfl (hb hby at_8) rfl rfl (l' := #[.val (.int p1), .val (.int p2), .val (.ref (own_pk f lo co p1)), .val (.ref (h0.size)), .unset, .unset]) rfl ?_
    show Steps p.tables e below (T2.setTop (mkF m 9 #[.val (.int p1), .val (.int p2), .val (.ref (own_pk f lo co p1)), .val (.ref (h0.size)), .unset, .unset] [])) _
    refine XS.aloadN X2.here hx rfl (hb hby at_9) rfl rfl ?_
    show Steps p.tables e below (T2.setTop (mkF m 10 #[.val (.int p1), .val (.int p2), .val (.ref (own_pk f lo co p1)), .val (.ref (h0.size)), .unset, .unset] [(.ref (h0.size))])) _
    refine XS.ifnullNo X2.here hx rfl (hb hby at_10) rfl ?_
    show Steps p.tables e below (T2.setTop (mkF m 13 #[.val (.int p1), .val (.int p2), .val (.ref (own_pk f lo co p1)), .val (.ref (h0.size)), .unset, .unset] [])) _
    refine XS.aloadN X2.here hx rfl (hb hby at_13) rfl rfl ?_
    show Steps p.tables e below (T2.setTop (mkF m 14 #[.val (.int p1), .val (.int p2), .val (.ref (own_pk f lo co p1)), .val (.ref (h0.size)), .unset, .unset] [(.ref (h0.size))])) _
    refine X2.arraylength hx Ar3.1 (State.isArrayOf_alike hZ.alike Ar3.2.1) (g := (mkF m 14 #[.val (.int p1), .val (.int p2), .val (.ref (own_pk f lo co p1)), .val (.ref (h0.size)), .unset, .unset] [(.ref (h0.size))])) rfl rfl (hb hby at_14) _ ?_
    rw [len_of sz3 nn3]
    show Steps p.tables e below (T2.setTop (mkF m 15 #[.val (.int p1), .val (.int p2), .val (.ref (own_pk f lo co p1)), .val (.ref (h0.size)), .unset, .unset] [(.int (2 : Int32))])) _
    refine XS.iconst X2.here hx rfl (hb hby at_15) ?_
    show Steps p.tables e below (T2.setTop (mkF m 16 #[.val (.int p1), .val (.int p2), .val (.ref (own_pk f lo co p1)), .val (.ref (h0.size)), .unset, .unset] [(.int (2 : Int32)), (.int (2 : Int32))])) _
    refine XS.icmpYes X2.here hx rfl (pc0 := 16) (pc' := 21) rfl (hb hby at_16) rfl (teq (rfl : (2 : Int32) = 2)).1 (by decide) (by decide) ?_
    show Steps p.tables e below (T2.setTop (mkF m 21 #[.val (.int p1), .val (.int p2), .val (.ref (own_pk f lo co p1)), .val (.ref (h0.size)), .unset, .unset] [])) _
    refine XS.aloadN X2.here hx rfl (hb hby at_21) rfl rfl ?_
    show Steps p.tables e below (T2.setTop (mkF m 22 #[.val (.int p1), .val (.int p2), .val (.ref (own_pk f lo co p1)), .val (.ref (h0.size)), .unset, .unset] [(.ref (h0.size))])) _
    refine XS.iconst X2.here hx rfl (hb hby at_22) ?_
    show Steps p.tables e below (T2.setTop (mkF m 23 #[.val (.int p1), .val (.int p2), .val (.ref (own_pk f lo co p1)), .val (.ref (h0.size)), .unset, .unset] [(.int (0 : Int32)), (.ref (h0.size))])) _
    refine X2.aaload hx (j := (0 : Int32)) (v := (.ref f)) Ar4.1 (State.isArrayOf_alike hZ.alike Ar4.2.1) rfl Ar4.2.2 hin4 (Has.at Ha4 hin4 rfl) (g := (mkF m 23 #[.val (.int p1), .val (.int p2), .val (.ref (own_pk f lo co p1)), .val (.ref (h0.size)), .unset, .unset] [(.int (0 : Int32)), (.ref (h0.size))])) rfl rfl (hb hby at_23) _ ?_
    show Steps p.tables e below (T2.setTop (mkF m 24 #[.val (.int p1), .val (.int p2), .val (.ref (own_pk f lo co p1)), .val (.ref (h0.size)), .unset, .unset] [(.ref f)])) _
    refine st5 _ ?_
    show Steps p.tables e below (T5.setTop (mkF m 27 #[.val (.int p1), .val (.int p2), .val (.ref (own_pk f lo co p1)), .val (.ref (h0.size)), .unset, .unset] [(.ref f), (.ref f)])) _
    refine Jvm.RoadKit.acmp (g := (mkF m 27 #[.val (.int p1), .val (.int p2), .val (.ref (own_pk f lo co p1)), .val (.ref (h0.size)), .unset, .unset] [(.ref f), (.ref f)])) X5 hx rfl rfl rfl (pc0 := 27) (pc' := 30) (same := true) rfl (hb hby at_27) rfl (decide_eq_true (rfl)) (by decide) (by decide) ?_
    show Steps p.tables e below (T5.setTop (mkF m 30 #[.val (.int p1), .val (.int p2), .val (.ref (own_pk f lo co p1)), .val (.ref (h0.size)), .unset, .unset] [])) _
    refine XS.aloadN X5.here hx rfl (hb hby at_30) rfl rfl ?_
    show Steps p.tables e below (T5.setTop (mkF m 31 #[.val (.int p1), .val (.int p2), .val (.ref (own_pk f lo co p1)), .val (.ref (h0.size)), .unset, .unset] [(.ref (h0.size))])) _
    refine XS.iconst X5.here hx rfl (hb hby at_31) ?_
    show Steps p.tables e below (T5.setTop (mkF m 32 #[.val (.int p1), .val (.int p2), .val (.ref (own_pk f lo co p1)), .val (.ref (h0.size)), .unset, .unset] [(.int (1 : Int32)), (.ref (h0.size))])) _
    refine X5.aaload hx (j := (1 : Int32)) (v := (.ref lo)) (by rw [e5]; exact Ar6.1) (State.isArrayOf_alike hZ.alike Ar6.2.1) rfl Ar6.2.2 hin6 (Has.at Ha6 hin6 rfl) (g := (mkF m 32 #[.val (.int p1), .val (.int p2), .val (.ref (own_pk f lo co p1)), .val (.ref (h0.size)), .unset, .unset] [(.int (1 : Int32)), (.ref (h0.size))])) rfl rfl (hb hby at_32) _ ?_
    show Steps p.tables e below (T5.setTop (mkF m 33 #[.val (.int p1), .val (.int p2), .val (.ref (own_pk f lo co p1)), .val (.ref (h0.size)), .unset, .unset] [(.ref lo)])) _
    refine st7 _ ?_
    show Steps p.tables e below (T7.setTop (mkF m 36 #[.val (.int p1), .val (.int p2), .val (.ref (own_pk f lo co p1)), .val (.ref (h0.size)), .unset, .unset] [(.ref lo), (.ref lo)])) _
    refine Jvm.RoadKit.acmp (g := (mkF m 36 #[.val (.int p1), .val (.int p2), .val (.ref (own_pk f lo co p1)), .val (.ref (h0.size)), .unset, .unset] [(.ref lo), (.ref lo)])) X7 hx rfl rfl rfl (pc0 := 36) (pc' := 41) (same := true) rfl (hb hby at_36) rfl (decide_eq_true (rfl)) (by decide) (by decide) ?_
    show Steps p.tables e below (T7.setTop (mkF m 41 #[.val (.int p1), .val (.int p2), .val (.ref (own_pk f lo co p1)), .val (.ref (h0.size)), .unset, .unset] [])) _
    refine XS.aloadN X7.here hx rfl (hb hby at_41) rfl rfl ?_
    show Steps p.tables e below (T7.setTop (mkF m 42 #[.val (.int p1), .val (.int p2), .val (.ref (own_pk f lo co p1)), .val (.ref (h0.size)), .unset, .unset] [(.ref (h0.size))])) _
    refine XS.iconst X7.here hx rfl (hb hby at_42) ?_
    show Steps p.tables e below (T7.setTop (mkF m 43 #[.val (.int p1), .val (.int p2), .val (.ref (own_pk f lo co p1)), .val (.ref (h0.size)), .unset, .unset] [(.int (0 : Int32)), (.ref (h0.size))])) _
    refine X7.aaload hx (j := (0 : Int32)) (v := (.ref f)) (by rw [e7]; exact Ar8.1) (State.isArrayOf_alike hZ.alike Ar8.2.1) rfl Ar8.2.2 hin8 (Has.at Ha8 hin8 rfl) (g := (mkF m 43 #[.val (.int p1), .val (.int p2), .val (.ref (own_pk f lo co p1)), .val (.ref (h0.size)), .unset, .unset] [(.int (0 : Int32)), (.ref (h0.size))])) rfl rfl (hb hby at_43) _ ?_
    show Steps p.tables e below (T7.setTop (mkF m 44 #[.val (.int p1), .val (.int p2), .val (.ref (own_pk f lo co p1)), .val (.ref (h0.size)), .unset, .unset] [(.ref f)])) _
    refine XS.aloadN X7.here hx rfl (hb hby at_44) rfl rfl ?_
    exact k)
  rcases own_pk3 f lo co p1 with hp | hp | hp
  · obtain ⟨T10, X10, e10, st10⟩ := getS2 X7 hx hZ hown (host := "") (Or.inl (hw _ (List.mem_of_getElem? (i := 18) rfl))) Via.refl e7 S3_2 (g := (mkF m 65 #[.val (.int p1), .val (.int p2), .val (.ref (own_pk f lo co p1)), .val (.ref (h0.size)), .val (.int (1 : Int32)), .unset] [(.ref (own_pk f lo co p1)), (.int (1 : Int32))])) rfl (hb hby at_65)
    obtain ⟨_, _, ⟨T11, L11, k11, n11⟩, -, X11, ⟨Lc11, hQ11, l11, y11, z11⟩, st11⟩ := Jvm.LawKit.callS X10 hx (y := (⟨"com/example/tierline/tierline/TierWithGoalsPinLaw", "pick", "(I)Lcom/example/tierline/tierline/Tier;"⟩ : MethodName)) hown (mvT hZ (hw _ (List.mem_of_getElem? (i := 0) rfl))) (mvT hZ (hw _ (List.mem_of_getElem? (i := 1) rfl))) (mvT hZ (hw _ (List.mem_of_getElem? (i := 2) rfl))) (mvT hZ (hw _ (List.mem_of_getElem? (i := 3) rfl))) (by decide) (backOf (W := 2) (rm1 l Z a0 hw [] f lo co ((p2.toUInt32 >>> ((1 : Int32) &&& 31).toUInt32).toInt32) T2.heap n0 (Nat.le_trans Z0 E2.1) S1_2 S2_2 S3_2) hZ (hw _ (List.mem_of_getElem? (i := 3) rfl)) (hw _ (List.mem_of_getElem? (i := 2) rfl)) (by decide) (by decide)) (g := (mkF m 88 #[.val (.int p1), .val (.int p2), .val (.ref (own_pk f lo co p1)), .val (.ref (h0.size)), .val (.int (1 : Int32)), .unset] [(.int ((p2.toUInt32 >>> ((1 : Int32) &&& 31).toUInt32).toInt32)), (.int (p2 &&& (1 : Int32))), (.ref (h0.size))])) rfl (by rw [hml]; rfl) (argsL := [(.int ((p2.toUInt32 >>> ((1 : Int32) &&& 31).toUInt32).toInt32))]) (rest := [(.int (p2 &&& (1 : Int32))), (.ref (h0.size))]) (lenOf pd_1 rfl) rfl (by show 2 * 0 + _ ≤ _; exact Nat.le_of_eq rfl) (hb hby at_88) (fun _ _ => ⟨rfl, e10, (by decide : 1 + 0 ≤ _), (by decide : 2 + 0 ≤ _)⟩)
    dsimp only [Pt.U, Pt.locs, Pt.cells, Pt.slots] at X11 l11 y11 z11 st11 hQ11
    subst l11 y11 z11
    obtain ⟨rfl, N11q, q11⟩ := hQ11
    have N11 := Fr.app N2 N11q
    have Vc12 := V2
    obtain ⟨cl12, Ar12, qq12, sz12, nn12, Ha12, Gf12⟩ := Vc12
    have hin12 : ¬ ((p2 &&& (1 : Int32)) < 0 ∨ cl12.slots.size ≤ ((p2 &&& (1 : Int32))).toNatClampNeg) := inb_of sz12 (own_bit p2)
    obtain ⟨T13, h13, X13, e13, W13, st13⟩ := stR X11 hx hZ q11 Ar12 (j := (p2 &&& (1 : Int32))) hin12 rfl (Sto.ofV Ar12 qq12 O2 (Ins.self (own_pkE ((p2.toUInt32 >>> ((1 : Int32) &&& 31).toUInt32).toInt32) Xf_2 Xl_2 Xc_2))) (g := (mkF m 91 #[.val (.int p1), .val (.int p2), .val (.ref (own_pk f lo co p1)), .val (.ref (h0.size)), .val (.int (1 : Int32)), .unset] [(.ref (own_pk f lo co ((p2.toUInt32 >>> ((1 : Int32) &&& 31).toUInt32).toInt32))), (.int (p2 &&& (1 : Int32))), (.ref (h0.size))])) rfl rfl (hb hby at_91)
    have N13 := Fr.snoc X13 N11 Z0
    have S1_13 := S1_2.wr W13
    have S2_13 := S2_2.wr W13
    have S3_13 := S3_2.wr W13
    have Xf_13 := Xf_2.wr W13
    have Xl_13 := Xl_2.wr W13
    have Xc_13 := Xc_2.wr W13
    obtain ⟨_, _, ⟨T14, L14, k14, n14⟩, -, X14, ⟨Lc14, hQ14, l14, y14, z14⟩, st14⟩ := Jvm.LawKit.callS X13 hx (y := (⟨"com/example/tierline/tierline/Tier", "withGoals", "()[Lcom/example/tierline/tierline/Tier;"⟩ : MethodName)) hown (mvT hZ (hw _ (List.mem_of_getElem? (i := 8) rfl))) (mvT hZ (hw _ (List.mem_of_getElem? (i := 9) rfl))) (mvT hZ (hw _ (List.mem_of_getElem? (i := 6) rfl))) (mvT hZ (hw _ (List.mem_of_getElem? (i := 10) rfl))) (by decide) (backOf (W := 0) (rm2 l Z a0 hw [] f lo h13 n0 (Nat.le_trans (Nat.le_trans Z0 E2.1) (Nat.le_of_eq W13.size.symm)) S1_13 S2_13 Xf_13 Xl_13) hZ (hw _ (List.mem_of_getElem? (i := 10) rfl)) (hw _ (List.mem_of_getElem? (i := 6) rfl)) (by decide) (by decide)) (g := (mkF m 92 #[.val (.int p1), .val (.int p2), .val (.ref (own_pk f lo co p1)), .val (.ref (h0.size)), .val (.int (1 : Int32)), .unset] [])) rfl (by rw [hml]; rfl) (argsL := []) (rest := []) (lenOf pd_2 rfl) rfl (by show 2 * 0 + _ ≤ _; exact Nat.le_of_eq rfl) (hb hby at_92) (fun _ _ => ⟨rfl, e13, (by decide : 1 + 1 ≤ _), (by decide : 2 + 2 ≤ _)⟩)
    dsimp only [Pt.U, Pt.locs, Pt.cells, Pt.slots] at X14 l14 y14 z14 st14 hQ14
    subst l14 y14 z14
    obtain ⟨rfl, N14q, E14, k14, V14, O14⟩ := hQ14
    have N14 := Fr.app N13 N14q
    have S1_14 := S1_13.ext E14
    have S2_14 := S2_13.ext E14
    have S3_14 := S3_13.ext E14
    have Xf_14 := Xf_13.ext E14
    have Xl_14 := Xl_13.ext E14
    have Xc_14 := Xc_13.ext E14
    have Vc15 := V14
    obtain ⟨cl15, Ar15, qq15, sz15, nn15, Ha15, Gf15⟩ := Vc15
    have Vc16 := V14
    obtain ⟨cl16, Ar16, qq16, sz16, nn16, Ha16, Gf16⟩ := Vc16
    have hin16 : ¬ ((0 : Int32) < 0 ∨ cl16.slots.size ≤ ((0 : Int32)).toNatClampNeg) := inb_of sz16 ⟨by decide, by decide⟩
    obtain ⟨T17, X17, e17, st17⟩ := getS2 X14 hx hZ hown (host := "") (Or.inl (hw _ (List.mem_of_getElem? (i := 5) rfl))) Via.refl rfl S1_14 (g := (mkF m 121 #[.val (.int p1), .val (.int p2), .val (.ref (own_pk f lo co p1)), .val (.ref (h0.size)), .val (.int (1 : Int32)), .val (.ref (h13.size))] [(.ref f)])) rfl (hb hby at_121)
    have Vc18 := V14
    obtain ⟨cl18, Ar18, qq18, sz18, nn18, Ha18, Gf18⟩ := Vc18
    have hin18 : ¬ ((1 : Int32) < 0 ∨ cl18.slots.size ≤ ((1 : Int32)).toNatClampNeg) := inb_of sz18 ⟨by decide, by decide⟩
    obtain ⟨T19, X19, e19, st19⟩ := getS2 X17 hx hZ hown (host := "") (Or.inl (hw _ (List.mem_of_getElem? (i := 17) rfl))) Via.refl e17 S2_14 (g := (mkF m 131 #[.val (.int p1), .val (.int p2), .val (.ref (own_pk f lo co p1)), .val (.ref (h0.size)), .val (.int (1 : Int32)), .val (.ref (h13.size))] [(.ref lo)])) rfl (hb hby at_131)
    have pre20 : ∀ t, Steps p.tables e below (T19.setTop (mkF m 142 #[.val (.int p1), .val (.int p2), .val (.ref (own_pk f lo co p1)), .val (.ref (h0.size)), .val (.int (1 : Int32)), .val (.ref (h13.size))] [(.int (1 : Int32))])) t → Steps p.tables e below (s₁.setTop (entryFrame m #[(.int p1), (.int p2)] maxLocals)) t := fun t k => pre9 t (by
      show Steps p.tables e below (T7.setTop (mkF m 45 #[.val (.int p1), .val (.int p2), .val (.ref (own_pk f lo co p1)), .val (.ref (h0.size)), .unset, .unset] [(.ref (own_pk f lo co p1)), (.ref f)])) _
      refine Jvm.RoadKit.acmp (g := (mkF m 45 #[.val (.int p1), .val (.int p2), .val (.ref (own_pk f lo co p1)), .val (.ref (h0.size)), .unset, .unset] [(.ref (own_pk f lo co p1)), (.ref f)])) X7 hx rfl rfl rfl (pc0 := 45) (pc' := 55) (same := true) rfl (hb hby at_45) rfl (decide_eq_true (congrArg Value.ref hp.symm)) (by decide) (by decide) ?_
      show Steps p.tables e below (T7.setTop (mkF m 55 #[.val (.int p1), .val (.int p2), .val (.ref (own_pk f lo co p1)), .val (.ref (h0.size)), .unset, .unset] [])) _
      refine XS.iconst X7.here hx rfl (hb hby at_55) ?_
      show Steps p.tables e below (T7.setTop (mkF m 56 #[.val (.int p1), .val (.int p2), .val (.ref (own_pk f lo co p1)), .val (.ref (h0.size)), .unset, .unset] [(.int (1 : Int32))])) _
      refine XS.goto X7.here hx rfl (pc0 := 56) (pc' := 60) rfl (hb hby at_56) (by decide) (by decide) ?_
      show Steps p.tables e below (T7.setTop (mkF m 60 #[.val (.int p1), .val (.int p2), .val (.ref (own_pk f lo co p1)), .val (.ref (h0.size)), .unset, .unset] [(.int (1 : Int32))])) _
      refine XS.istore X7.here hx rfl (hb hby at_60) rfl (l' := #[.val (.int p1), .val (.int p2), .val (.ref (own_pk f lo co p1)), .val (.ref (h0.size)), .val (.int (1 : Int32)), .unset]) rfl ?_
      show Steps p.tables e below (T7.setTop (mkF m 62 #[.val (.int p1), .val (.int p2), .val (.ref (own_pk f lo co p1)), .val (.ref (h0.size)), .val (.int (1 : Int32)), .unset] [])) _
      refine XS.iload X7.here hx rfl (hb hby at_62) rfl ?_
      show Steps p.tables e below (T7.setTop (mkF m 64 #[.val (.int p1), .val (.int p2), .val (.ref (own_pk f lo co p1)), .val (.ref (h0.size)), .val (.int (1 : Int32)), .unset] [(.int (1 : Int32))])) _
      refine XS.aloadN X7.here hx rfl (hb hby at_64) rfl rfl ?_
      show Steps p.tables e below (T7.setTop (mkF m 65 #[.val (.int p1), .val (.int p2), .val (.ref (own_pk f lo co p1)), .val (.ref (h0.size)), .val (.int (1 : Int32)), .unset] [(.ref (own_pk f lo co p1)), (.int (1 : Int32))])) _
      refine st10 _ ?_
      show Steps p.tables e below (T10.setTop (mkF m 68 #[.val (.int p1), .val (.int p2), .val (.ref (own_pk f lo co p1)), .val (.ref (h0.size)), .val (.int (1 : Int32)), .unset] [(.ref co), (.ref (own_pk f lo co p1)), (.int (1 : Int32))])) _
      refine Jvm.RoadKit.acmp (g := (mkF m 68 #[.val (.int p1), .val (.int p2), .val (.ref (own_pk f lo co p1)), .val (.ref (h0.size)), .val (.int (1 : Int32)), .unset] [(.ref co), (.ref (own_pk f lo co p1)), (.int (1 : Int32))])) X10 hx rfl rfl rfl (pc0 := 68) (pc' := 71) (same := false) rfl (hb hby at_68) rfl (decide_eq_false (fun q => Dfc (hp.symm.trans (Value.ref.inj q)))) (by decide) (by decide) ?_
      show Steps p.tables e below (T10.setTop (mkF m 71 #[.val (.int p1), .val (.int p2), .val (.ref (own_pk f lo co p1)), .val (.ref (h0.size)), .val (.int (1 : Int32)), .unset] [(.int (1 : Int32))])) _
      refine XS.iconst X10.here hx rfl (hb hby at_71) ?_
      show Steps p.tables e below (T10.setTop (mkF m 72 #[.val (.int p1), .val (.int p2), .val (.ref (own_pk f lo co p1)), .val (.ref (h0.size)), .val (.int (1 : Int32)), .unset] [(.int (1 : Int32)), (.int (1 : Int32))])) _
      refine XS.goto X10.here hx rfl (pc0 := 72) (pc' := 76) rfl (hb hby at_72) (by decide) (by decide) ?_
      show Steps p.tables e below (T10.setTop (mkF m 76 #[.val (.int p1), .val (.int p2), .val (.ref (own_pk f lo co p1)), .val (.ref (h0.size)), .val (.int (1 : Int32)), .unset] [(.int (1 : Int32)), (.int (1 : Int32))])) _
      refine XS.icmpYes X10.here hx rfl (pc0 := 76) (pc' := 81) rfl (hb hby at_76) rfl (teq rfl).1 (by decide) (by decide) ?_
      show Steps p.tables e below (T10.setTop (mkF m 81 #[.val (.int p1), .val (.int p2), .val (.ref (own_pk f lo co p1)), .val (.ref (h0.size)), .val (.int (1 : Int32)), .unset] [])) _
      refine XS.aloadN X10.here hx rfl (hb hby at_81) rfl rfl ?_
      show Steps p.tables e below (T10.setTop (mkF m 82 #[.val (.int p1), .val (.int p2), .val (.ref (own_pk f lo co p1)), .val (.ref (h0.size)), .val (.int (1 : Int32)), .unset] [(.ref (h0.size))])) _
      refine XS.iloadN X10.here hx rfl (hb hby at_82) rfl ?_
      show Steps p.tables e below (T10.setTop (mkF m 83 #[.val (.int p1), .val (.int p2), .val (.ref (own_pk f lo co p1)), .val (.ref (h0.size)), .val (.int (1 : Int32)), .unset] [(.int p2), (.ref (h0.size))])) _
      refine XS.iconst X10.here hx rfl (hb hby at_83) ?_
      show Steps p.tables e below (T10.setTop (mkF m 84 #[.val (.int p1), .val (.int p2), .val (.ref (own_pk f lo co p1)), .val (.ref (h0.size)), .val (.int (1 : Int32)), .unset] [(.int (1 : Int32)), (.int p2), (.ref (h0.size))])) _
      refine XS.iand X10.here hx rfl (hb hby at_84) rfl ?_
      show Steps p.tables e below (T10.setTop (mkF m 85 #[.val (.int p1), .val (.int p2), .val (.ref (own_pk f lo co p1)), .val (.ref (h0.size)), .val (.int (1 : Int32)), .unset] [(.int (p2 &&& (1 : Int32))), (.ref (h0.size))])) _
      refine XS.iloadN X10.here hx rfl (hb hby at_85) rfl ?_
      show Steps p.tables e below (T10.setTop (mkF m 86 #[.val (.int p1), .val (.int p2), .val (.ref (own_pk f lo co p1)), .val (.ref (h0.size)), .val (.int (1 : Int32)), .unset] [(.int p2), (.int (p2 &&& (1 : Int32))), (.ref (h0.size))])) _
      refine XS.iconst X10.here hx rfl (hb hby at_86) ?_
      show Steps p.tables e below (T10.setTop (mkF m 87 #[.val (.int p1), .val (.int p2), .val (.ref (own_pk f lo co p1)), .val (.ref (h0.size)), .val (.int (1 : Int32)), .unset] [(.int (1 : Int32)), (.int p2), (.int (p2 &&& (1 : Int32))), (.ref (h0.size))])) _
      refine XS.iushr X10.here hx rfl (hb hby at_87) rfl ?_
      show Steps p.tables e below (T10.setTop (mkF m 88 #[.val (.int p1), .val (.int p2), .val (.ref (own_pk f lo co p1)), .val (.ref (h0.size)), .val (.int (1 : Int32)), .unset] [(.int ((p2.toUInt32 >>> ((1 : Int32) &&& 31).toUInt32).toInt32)), (.int (p2 &&& (1 : Int32))), (.ref (h0.size))])) _
      refine st11 _ ?_
      show Steps p.tables e below (T11.setTop (mkF m 91 #[.val (.int p1), .val (.int p2), .val (.ref (own_pk f lo co p1)), .val (.ref (h0.size)), .val (.int (1 : Int32)), .unset] [(.ref (own_pk f lo co ((p2.toUInt32 >>> ((1 : Int32) &&& 31).toUInt32).toInt32))), (.int (p2 &&& (1 : Int32))), (.ref (h0.size))])) _
      refine st13 _ ?_
      show Steps p.tables e below (T13.setTop (mkF m 92 #[.val (.int p1), .val (.int p2), .val (.ref (own_pk f lo co p1)), .val (.ref (h0.size)), .val (.int (1 : Int32)), .unset] [])) _
      refine st14 _ ?_
      show Steps p.tables e below (T14.setTop (mkF m 95 #[.val (.int p1), .val (.int p2), .val (.ref (own_pk f lo co p1)), .val (.ref (h0.size)), .val (.int (1 : Int32)), .unset] [(.ref (h13.size))])) _
      refine XS.astore X14.here hx rfl (hb hby at_95) rfl rfl (l' := #[.val (.int p1), .val (.int p2), .val (.ref (own_pk f lo co p1)), .val (.ref (h0.size)), .val (.int (1 : Int32)), .val (.ref (h13.size))]) rfl ?_
      show Steps p.tables e below (T14.setTop (mkF m 97 #[.val (.int p1), .val (.int p2), .val (.ref (own_pk f lo co p1)), .val (.ref (h0.size)), .val (.int (1 : Int32)), .val (.ref (h13.size))] [])) _
      refine XS.aload X14.here hx rfl (hb hby at_97) rfl rfl ?_
      show Steps p.tables e below (T14.setTop (mkF m 99 #[.val (.int p1), .val (.int p2), .val (.ref (own_pk f lo co p1)), .val (.ref (h0.size)), .val (.int (1 : Int32)), .val (.ref (h13.size))] [(.ref (h13.size))])) _
      refine XS.aloadN X14.here hx rfl (hb hby at_99) rfl rfl ?_
      show Steps p.tables e below (T14.setTop (mkF m 100 #[.val (.int p1), .val (.int p2), .val (.ref (own_pk f lo co p1)), .val (.ref (h0.size)), .val (.int (1 : Int32)), .val (.ref (h13.size))] [(.ref (h0.size)), (.ref (h13.size))])) _
      refine Jvm.RoadKit.acmp (g := (mkF m 100 #[.val (.int p1), .val (.int p2), .val (.ref (own_pk f lo co p1)), .val (.ref (h0.size)), .val (.int (1 : Int32)), .val (.ref (h13.size))] [(.ref (h0.size)), (.ref (h13.size))])) X14 hx rfl rfl rfl (pc0 := 100) (pc' := 103) (same := false) rfl (hb hby at_100) rfl (decide_eq_false (fun q => absurd (Value.ref.inj q).symm (Nat.ne_of_lt (W13.size ▸ V2.lt)))) (by decide) (by decide) ?_
      show Steps p.tables e below (T14.setTop (mkF m 103 #[.val (.int p1), .val (.int p2), .val (.ref (own_pk f lo co p1)), .val (.ref (h0.size)), .val (.int (1 : Int32)), .val (.ref (h13.size))] [])) _
      refine XS.aload X14.here hx rfl (hb hby at_103) rfl rfl ?_
      show Steps p.tables e below (T14.setTop (mkF m 105 #[.val (.int p1), .val (.int p2), .val (.ref (own_pk f lo co p1)), .val (.ref (h0.size)), .val (.int (1 : Int32)), .val (.ref (h13.size))] [(.ref (h13.size))])) _
      refine XS.ifnullNo X14.here hx rfl (hb hby at_105) rfl ?_
      show Steps p.tables e below (T14.setTop (mkF m 108 #[.val (.int p1), .val (.int p2), .val (.ref (own_pk f lo co p1)), .val (.ref (h0.size)), .val (.int (1 : Int32)), .val (.ref (h13.size))] [])) _
      refine XS.aload X14.here hx rfl (hb hby at_108) rfl rfl ?_
      show Steps p.tables e below (T14.setTop (mkF m 110 #[.val (.int p1), .val (.int p2), .val (.ref (own_pk f lo co p1)), .val (.ref (h0.size)), .val (.int (1 : Int32)), .val (.ref (h13.size))] [(.ref (h13.size))])) _
      refine X14.arraylength hx Ar15.1 (State.isArrayOf_alike hZ.alike Ar15.2.1) (g := (mkF m 110 #[.val (.int p1), .val (.int p2), .val (.ref (own_pk f lo co p1)), .val (.ref (h0.size)), .val (.int (1 : Int32)), .val (.ref (h13.size))] [(.ref (h13.size))])) rfl rfl (hb hby at_110) _ ?_
      rw [len_of sz15 nn15]
      show Steps p.tables e below (T14.setTop (mkF m 111 #[.val (.int p1), .val (.int p2), .val (.ref (own_pk f lo co p1)), .val (.ref (h0.size)), .val (.int (1 : Int32)), .val (.ref (h13.size))] [(.int (2 : Int32))])) _
      refine XS.iconst X14.here hx rfl (hb hby at_111) ?_
      show Steps p.tables e below (T14.setTop (mkF m 112 #[.val (.int p1), .val (.int p2), .val (.ref (own_pk f lo co p1)), .val (.ref (h0.size)), .val (.int (1 : Int32)), .val (.ref (h13.size))] [(.int (2 : Int32)), (.int (2 : Int32))])) _
      refine XS.icmpYes X14.here hx rfl (pc0 := 112) (pc' := 117) rfl (hb hby at_112) rfl (teq (rfl : (2 : Int32) = 2)).1 (by decide) (by decide) ?_
      show Steps p.tables e below (T14.setTop (mkF m 117 #[.val (.int p1), .val (.int p2), .val (.ref (own_pk f lo co p1)), .val (.ref (h0.size)), .val (.int (1 : Int32)), .val (.ref (h13.size))] [])) _
      refine XS.aload X14.here hx rfl (hb hby at_117) rfl rfl ?_
      show Steps p.tables e below (T14.setTop (mkF m 119 #[.val (.int p1), .val (.int p2), .val (.ref (own_pk f lo co p1)), .val (.ref (h0.size)), .val (.int (1 : Int32)), .val (.ref (h13.size))] [(.ref (h13.size))])) _
      refine XS.iconst X14.here hx rfl (hb hby at_119) ?_
      show Steps p.tables e below (T14.setTop (mkF m 120 #[.val (.int p1), .val (.int p2), .val (.ref (own_pk f lo co p1)), .val (.ref (h0.size)), .val (.int (1 : Int32)), .val (.ref (h13.size))] [(.int (0 : Int32)), (.ref (h13.size))])) _
      refine X14.aaload hx (j := (0 : Int32)) (v := (.ref f)) Ar16.1 (State.isArrayOf_alike hZ.alike Ar16.2.1) rfl Ar16.2.2 hin16 (Has.at Ha16 hin16 rfl) (g := (mkF m 120 #[.val (.int p1), .val (.int p2), .val (.ref (own_pk f lo co p1)), .val (.ref (h0.size)), .val (.int (1 : Int32)), .val (.ref (h13.size))] [(.int (0 : Int32)), (.ref (h13.size))])) rfl rfl (hb hby at_120) _ ?_
      show Steps p.tables e below (T14.setTop (mkF m 121 #[.val (.int p1), .val (.int p2), .val (.ref (own_pk f lo co p1)), .val (.ref (h0.size)), .val (.int (1 : Int32)), .val (.ref (h13.size))] [(.ref f)])) _
      refine st17 _ ?_
      show Steps p.tables e below (T17.setTop (mkF m 124 #[.val (.int p1), .val (.int p2), .val (.ref (own_pk f lo co p1)), .val (.ref (h0.size)), .val (.int (1 : Int32)), .val (.ref (h13.size))] [(.ref f), (.ref f)])) _
      refine Jvm.RoadKit.acmp (g := (mkF m 124 #[.val (.int p1), .val (.int p2), .val (.ref (own_pk f lo co p1)), .val (.ref (h0.size)), .val (.int (1 : Int32)), .val (.ref (h13.size))] [(.ref f), (.ref f)])) X17 hx rfl rfl rfl (pc0 := 124) (pc' := 127) (same := true) rfl (hb hby at_124) rfl (decide_eq_true (rfl)) (by decide) (by decide) ?_
      show Steps p.tables e below (T17.setTop (mkF m 127 #[.val (.int p1), .val (.int p2), .val (.ref (own_pk f lo co p1)), .val (.ref (h0.size)), .val (.int (1 : Int32)), .val (.ref (h13.size))] [])) _
      refine XS.aload X17.here hx rfl (hb hby at_127) rfl rfl ?_
      show Steps p.tables e below (T17.setTop (mkF m 129 #[.val (.int p1), .val (.int p2), .val (.ref (own_pk f lo co p1)), .val (.ref (h0.size)), .val (.int (1 : Int32)), .val (.ref (h13.size))] [(.ref (h13.size))])) _
      refine XS.iconst X17.here hx rfl (hb hby at_129) ?_
      show Steps p.tables e below (T17.setTop (mkF m 130 #[.val (.int p1), .val (.int p2), .val (.ref (own_pk f lo co p1)), .val (.ref (h0.size)), .val (.int (1 : Int32)), .val (.ref (h13.size))] [(.int (1 : Int32)), (.ref (h13.size))])) _
      refine X17.aaload hx (j := (1 : Int32)) (v := (.ref lo)) (by rw [e17]; exact Ar18.1) (State.isArrayOf_alike hZ.alike Ar18.2.1) rfl Ar18.2.2 hin18 (Has.at Ha18 hin18 rfl) (g := (mkF m 130 #[.val (.int p1), .val (.int p2), .val (.ref (own_pk f lo co p1)), .val (.ref (h0.size)), .val (.int (1 : Int32)), .val (.ref (h13.size))] [(.int (1 : Int32)), (.ref (h13.size))])) rfl rfl (hb hby at_130) _ ?_
      show Steps p.tables e below (T17.setTop (mkF m 131 #[.val (.int p1), .val (.int p2), .val (.ref (own_pk f lo co p1)), .val (.ref (h0.size)), .val (.int (1 : Int32)), .val (.ref (h13.size))] [(.ref lo)])) _
      refine st19 _ ?_
      show Steps p.tables e below (T19.setTop (mkF m 134 #[.val (.int p1), .val (.int p2), .val (.ref (own_pk f lo co p1)), .val (.ref (h0.size)), .val (.int (1 : Int32)), .val (.ref (h13.size))] [(.ref lo), (.ref lo)])) _
      refine Jvm.RoadKit.acmp (g := (mkF m 134 #[.val (.int p1), .val (.int p2), .val (.ref (own_pk f lo co p1)), .val (.ref (h0.size)), .val (.int (1 : Int32)), .val (.ref (h13.size))] [(.ref lo), (.ref lo)])) X19 hx rfl rfl rfl (pc0 := 134) (pc' := 137) (same := true) rfl (hb hby at_134) rfl (decide_eq_true (rfl)) (by decide) (by decide) ?_
      show Steps p.tables e below (T19.setTop (mkF m 137 #[.val (.int p1), .val (.int p2), .val (.ref (own_pk f lo co p1)), .val (.ref (h0.size)), .val (.int (1 : Int32)), .val (.ref (h13.size))] [])) _
      refine XS.iconst X19.here hx rfl (hb hby at_137) ?_
      show Steps p.tables e below (T19.setTop (mkF m 138 #[.val (.int p1), .val (.int p2), .val (.ref (own_pk f lo co p1)), .val (.ref (h0.size)), .val (.int (1 : Int32)), .val (.ref (h13.size))] [(.int (1 : Int32))])) _
      refine XS.goto X19.here hx rfl (pc0 := 138) (pc' := 142) rfl (hb hby at_138) (by decide) (by decide) ?_
      exact k)
    obtain ⟨fs21, hr21, hrun21, hended21, hW21, hsame21⟩ := X19.leave (v := some (.int (1 : Int32))) (fun h => by rw [Bd.returns] at h; cases h)
    refine ⟨_, _, pre20 _ ?_, hrun21, hended21, _, _, rfl, ?_, ⟨_, rfl⟩, hW21, hsame21.mono (by decide) (by decide)⟩
    · show Steps p.tables e below (T19.setTop (mkF m 142 #[.val (.int p1), .val (.int p2), .val (.ref (own_pk f lo co p1)), .val (.ref (h0.size)), .val (.int (1 : Int32)), .val (.ref (h13.size))] [(.int (1 : Int32))])) _
      exact retN X19 hx (t := .boolean) Bd.returns (by simp) (hb hby at_142) hr21
    · show Q0 Z f lo co p1 p2 h0 n0 _ T19.heap _
      rw [e19]
      exact ⟨rfl, N14⟩
  · have Vc22 := V2
    obtain ⟨cl22, Ar22, qq22, sz22, nn22, Ha22, Gf22⟩ := Vc22
    have hin22 : ¬ ((1 : Int32) < 0 ∨ cl22.slots.size ≤ ((1 : Int32)).toNatClampNeg) := inb_of sz22 ⟨by decide, by decide⟩
    obtain ⟨T23, X23, e23, st23⟩ := getS2 X7 hx hZ hown (host := "") (Or.inl (hw _ (List.mem_of_getElem? (i := 18) rfl))) Via.refl e7 S3_2 (g := (mkF m 65 #[.val (.int p1), .val (.int p2), .val (.ref (own_pk f lo co p1)), .val (.ref (h0.size)), .val (.int (1 : Int32)), .unset] [(.ref (own_pk f lo co p1)), (.int (1 : Int32))])) rfl (hb hby at_65)
    obtain ⟨_, _, ⟨T24, L24, k24, n24⟩, -, X24, ⟨Lc24, hQ24, l24, y24, z24⟩, st24⟩ := Jvm.LawKit.callS X23 hx (y := (⟨"com/example/tierline/tierline/TierWithGoalsPinLaw", "pick", "(I)Lcom/example/tierline/tierline/Tier;"⟩ : MethodName)) hown (mvT hZ (hw _ (List.mem_of_getElem? (i := 0) rfl))) (mvT hZ (hw _ (List.mem_of_getElem? (i := 1) rfl))) (mvT hZ (hw _ (List.mem_of_getElem? (i := 2) rfl))) (mvT hZ (hw _ (List.mem_of_getElem? (i := 3) rfl))) (by decide) (backOf (W := 2) (rm1 l Z a0 hw [] f lo co ((p2.toUInt32 >>> ((1 : Int32) &&& 31).toUInt32).toInt32) T2.heap n0 (Nat.le_trans Z0 E2.1) S1_2 S2_2 S3_2) hZ (hw _ (List.mem_of_getElem? (i := 3) rfl)) (hw _ (List.mem_of_getElem? (i := 2) rfl)) (by decide) (by decide)) (g := (mkF m 88 #[.val (.int p1), .val (.int p2), .val (.ref (own_pk f lo co p1)), .val (.ref (h0.size)), .val (.int (1 : Int32)), .unset] [(.int ((p2.toUInt32 >>> ((1 : Int32) &&& 31).toUInt32).toInt32)), (.int (p2 &&& (1 : Int32))), (.ref (h0.size))])) rfl (by rw [hml]; rfl) (argsL := [(.int ((p2.toUInt32 >>> ((1 : Int32) &&& 31).toUInt32).toInt32))]) (rest := [(.int (p2 &&& (1 : Int32))), (.ref (h0.size))]) (lenOf pd_1 rfl) rfl (by show 2 * 0 + _ ≤ _; exact Nat.le_of_eq rfl) (hb hby at_88) (fun _ _ => ⟨rfl, e23, (by decide : 1 + 0 ≤ _), (by decide : 2 + 0 ≤ _)⟩)
    dsimp only [Pt.U, Pt.locs, Pt.cells, Pt.slots] at X24 l24 y24 z24 st24 hQ24
    subst l24 y24 z24
    obtain ⟨rfl, N24q, q24⟩ := hQ24
    have N24 := Fr.app N2 N24q
    have Vc25 := V2
    obtain ⟨cl25, Ar25, qq25, sz25, nn25, Ha25, Gf25⟩ := Vc25
    have hin25 : ¬ ((p2 &&& (1 : Int32)) < 0 ∨ cl25.slots.size ≤ ((p2 &&& (1 : Int32))).toNatClampNeg) := inb_of sz25 (own_bit p2)
    obtain ⟨T26, h26, X26, e26, W26, st26⟩ := stR X24 hx hZ q24 Ar25 (j := (p2 &&& (1 : Int32))) hin25 rfl (Sto.ofV Ar25 qq25 O2 (Ins.self (own_pkE ((p2.toUInt32 >>> ((1 : Int32) &&& 31).toUInt32).toInt32) Xf_2 Xl_2 Xc_2))) (g := (mkF m 91 #[.val (.int p1), .val (.int p2), .val (.ref (own_pk f lo co p1)), .val (.ref (h0.size)), .val (.int (1 : Int32)), .unset] [(.ref (own_pk f lo co ((p2.toUInt32 >>> ((1 : Int32) &&& 31).toUInt32).toInt32))), (.int (p2 &&& (1 : Int32))), (.ref (h0.size))])) rfl rfl (hb hby at_91)
    have N26 := Fr.snoc X26 N24 Z0
    have S1_26 := S1_2.wr W26
    have S2_26 := S2_2.wr W26
    have S3_26 := S3_2.wr W26
    have Xf_26 := Xf_2.wr W26
    have Xl_26 := Xl_2.wr W26
    have Xc_26 := Xc_2.wr W26
    obtain ⟨_, _, ⟨T27, L27, k27, n27⟩, -, X27, ⟨Lc27, hQ27, l27, y27, z27⟩, st27⟩ := Jvm.LawKit.callS X26 hx (y := (⟨"com/example/tierline/tierline/Tier", "withGoals", "()[Lcom/example/tierline/tierline/Tier;"⟩ : MethodName)) hown (mvT hZ (hw _ (List.mem_of_getElem? (i := 8) rfl))) (mvT hZ (hw _ (List.mem_of_getElem? (i := 9) rfl))) (mvT hZ (hw _ (List.mem_of_getElem? (i := 6) rfl))) (mvT hZ (hw _ (List.mem_of_getElem? (i := 10) rfl))) (by decide) (backOf (W := 0) (rm2 l Z a0 hw [] f lo h26 n0 (Nat.le_trans (Nat.le_trans Z0 E2.1) (Nat.le_of_eq W26.size.symm)) S1_26 S2_26 Xf_26 Xl_26) hZ (hw _ (List.mem_of_getElem? (i := 10) rfl)) (hw _ (List.mem_of_getElem? (i := 6) rfl)) (by decide) (by decide)) (g := (mkF m 92 #[.val (.int p1), .val (.int p2), .val (.ref (own_pk f lo co p1)), .val (.ref (h0.size)), .val (.int (1 : Int32)), .unset] [])) rfl (by rw [hml]; rfl) (argsL := []) (rest := []) (lenOf pd_2 rfl) rfl (by show 2 * 0 + _ ≤ _; exact Nat.le_of_eq rfl) (hb hby at_92) (fun _ _ => ⟨rfl, e26, (by decide : 1 + 1 ≤ _), (by decide : 2 + 2 ≤ _)⟩)
    dsimp only [Pt.U, Pt.locs, Pt.cells, Pt.slots] at X27 l27 y27 z27 st27 hQ27
    subst l27 y27 z27
    obtain ⟨rfl, N27q, E27, k27, V27, O27⟩ := hQ27
    have N27 := Fr.app N26 N27q
    have S1_27 := S1_26.ext E27
    have S2_27 := S2_26.ext E27
    have S3_27 := S3_26.ext E27
    have Xf_27 := Xf_26.ext E27
    have Xl_27 := Xl_26.ext E27
    have Xc_27 := Xc_26.ext E27
    have Vc28 := V27
    obtain ⟨cl28, Ar28, qq28, sz28, nn28, Ha28, Gf28⟩ := Vc28
    have Vc29 := V27
    obtain ⟨cl29, Ar29, qq29, sz29, nn29, Ha29, Gf29⟩ := Vc29
    have hin29 : ¬ ((0 : Int32) < 0 ∨ cl29.slots.size ≤ ((0 : Int32)).toNatClampNeg) := inb_of sz29 ⟨by decide, by decide⟩
    obtain ⟨T30, X30, e30, st30⟩ := getS2 X27 hx hZ hown (host := "") (Or.inl (hw _ (List.mem_of_getElem? (i := 5) rfl))) Via.refl rfl S1_27 (g := (mkF m 121 #[.val (.int p1), .val (.int p2), .val (.ref (own_pk f lo co p1)), .val (.ref (h0.size)), .val (.int (1 : Int32)), .val (.ref (h26.size))] [(.ref f)])) rfl (hb hby at_121)
    have Vc31 := V27
    obtain ⟨cl31, Ar31, qq31, sz31, nn31, Ha31, Gf31⟩ := Vc31
    have hin31 : ¬ ((1 : Int32) < 0 ∨ cl31.slots.size ≤ ((1 : Int32)).toNatClampNeg) := inb_of sz31 ⟨by decide, by decide⟩
    obtain ⟨T32, X32, e32, st32⟩ := getS2 X30 hx hZ hown (host := "") (Or.inl (hw _ (List.mem_of_getElem? (i := 17) rfl))) Via.refl e30 S2_27 (g := (mkF m 131 #[.val (.int p1), .val (.int p2), .val (.ref (own_pk f lo co p1)), .val (.ref (h0.size)), .val (.int (1 : Int32)), .val (.ref (h26.size))] [(.ref lo)])) rfl (hb hby at_131)
    have pre33 : ∀ t, Steps p.tables e below (T32.setTop (mkF m 142 #[.val (.int p1), .val (.int p2), .val (.ref (own_pk f lo co p1)), .val (.ref (h0.size)), .val (.int (1 : Int32)), .val (.ref (h26.size))] [(.int (1 : Int32))])) t → Steps p.tables e below (s₁.setTop (entryFrame m #[(.int p1), (.int p2)] maxLocals)) t := fun t k => pre9 t (by
      show Steps p.tables e below (T7.setTop (mkF m 45 #[.val (.int p1), .val (.int p2), .val (.ref (own_pk f lo co p1)), .val (.ref (h0.size)), .unset, .unset] [(.ref (own_pk f lo co p1)), (.ref f)])) _
      refine Jvm.RoadKit.acmp (g := (mkF m 45 #[.val (.int p1), .val (.int p2), .val (.ref (own_pk f lo co p1)), .val (.ref (h0.size)), .unset, .unset] [(.ref (own_pk f lo co p1)), (.ref f)])) X7 hx rfl rfl rfl (pc0 := 45) (pc' := 48) (same := false) rfl (hb hby at_45) rfl (decide_eq_false (fun q => Dfl ((Value.ref.inj q).trans hp))) (by decide) (by decide) ?_
      show Steps p.tables e below (T7.setTop (mkF m 48 #[.val (.int p1), .val (.int p2), .val (.ref (own_pk f lo co p1)), .val (.ref (h0.size)), .unset, .unset] [])) _
      refine XS.aloadN X7.here hx rfl (hb hby at_48) rfl rfl ?_
      show Steps p.tables e below (T7.setTop (mkF m 49 #[.val (.int p1), .val (.int p2), .val (.ref (own_pk f lo co p1)), .val (.ref (h0.size)), .unset, .unset] [(.ref (h0.size))])) _
      refine XS.iconst X7.here hx rfl (hb hby at_49) ?_
      show Steps p.tables e below (T7.setTop (mkF m 50 #[.val (.int p1), .val (.int p2), .val (.ref (own_pk f lo co p1)), .val (.ref (h0.size)), .unset, .unset] [(.int (1 : Int32)), (.ref (h0.size))])) _
      refine X7.aaload hx (j := (1 : Int32)) (v := (.ref lo)) (by rw [e7]; exact Ar22.1) (State.isArrayOf_alike hZ.alike Ar22.2.1) rfl Ar22.2.2 hin22 (Has.at Ha22 hin22 rfl) (g := (mkF m 50 #[.val (.int p1), .val (.int p2), .val (.ref (own_pk f lo co p1)), .val (.ref (h0.size)), .unset, .unset] [(.int (1 : Int32)), (.ref (h0.size))])) rfl rfl (hb hby at_50) _ ?_
      show Steps p.tables e below (T7.setTop (mkF m 51 #[.val (.int p1), .val (.int p2), .val (.ref (own_pk f lo co p1)), .val (.ref (h0.size)), .unset, .unset] [(.ref lo)])) _
      refine XS.aloadN X7.here hx rfl (hb hby at_51) rfl rfl ?_
      show Steps p.tables e below (T7.setTop (mkF m 52 #[.val (.int p1), .val (.int p2), .val (.ref (own_pk f lo co p1)), .val (.ref (h0.size)), .unset, .unset] [(.ref (own_pk f lo co p1)), (.ref lo)])) _
      refine Jvm.RoadKit.acmp (g := (mkF m 52 #[.val (.int p1), .val (.int p2), .val (.ref (own_pk f lo co p1)), .val (.ref (h0.size)), .unset, .unset] [(.ref (own_pk f lo co p1)), (.ref lo)])) X7 hx rfl rfl rfl (pc0 := 52) (pc' := 55) (same := true) rfl (hb hby at_52) rfl (decide_eq_true (congrArg Value.ref hp.symm)) (by decide) (by decide) ?_
      show Steps p.tables e below (T7.setTop (mkF m 55 #[.val (.int p1), .val (.int p2), .val (.ref (own_pk f lo co p1)), .val (.ref (h0.size)), .unset, .unset] [])) _
      refine XS.iconst X7.here hx rfl (hb hby at_55) ?_
      show Steps p.tables e below (T7.setTop (mkF m 56 #[.val (.int p1), .val (.int p2), .val (.ref (own_pk f lo co p1)), .val (.ref (h0.size)), .unset, .unset] [(.int (1 : Int32))])) _
      refine XS.goto X7.here hx rfl (pc0 := 56) (pc' := 60) rfl (hb hby at_56) (by decide) (by decide) ?_
      show Steps p.tables e below (T7.setTop (mkF m 60 #[.val (.int p1), .val (.int p2), .val (.ref (own_pk f lo co p1)), .val (.ref (h0.size)), .unset, .unset] [(.int (1 : Int32))])) _
      refine XS.istore X7.here hx rfl (hb hby at_60) rfl (l' := #[.val (.int p1), .val (.int p2), .val (.ref (own_pk f lo co p1)), .val (.ref (h0.size)), .val (.int (1 : Int32)), .unset]) rfl ?_
      show Steps p.tables e below (T7.setTop (mkF m 62 #[.val (.int p1), .val (.int p2), .val (.ref (own_pk f lo co p1)), .val (.ref (h0.size)), .val (.int (1 : Int32)), .unset] [])) _
      refine XS.iload X7.here hx rfl (hb hby at_62) rfl ?_
      show Steps p.tables e below (T7.setTop (mkF m 64 #[.val (.int p1), .val (.int p2), .val (.ref (own_pk f lo co p1)), .val (.ref (h0.size)), .val (.int (1 : Int32)), .unset] [(.int (1 : Int32))])) _
      refine XS.aloadN X7.here hx rfl (hb hby at_64) rfl rfl ?_
      show Steps p.tables e below (T7.setTop (mkF m 65 #[.val (.int p1), .val (.int p2), .val (.ref (own_pk f lo co p1)), .val (.ref (h0.size)), .val (.int (1 : Int32)), .unset] [(.ref (own_pk f lo co p1)), (.int (1 : Int32))])) _
      refine st23 _ ?_
      show Steps p.tables e below (T23.setTop (mkF m 68 #[.val (.int p1), .val (.int p2), .val (.ref (own_pk f lo co p1)), .val (.ref (h0.size)), .val (.int (1 : Int32)), .unset] [(.ref co), (.ref (own_pk f lo co p1)), (.int (1 : Int32))])) _
      refine Jvm.RoadKit.acmp (g := (mkF m 68 #[.val (.int p1), .val (.int p2), .val (.ref (own_pk f lo co p1)), .val (.ref (h0.size)), .val (.int (1 : Int32)), .unset] [(.ref co), (.ref (own_pk f lo co p1)), (.int (1 : Int32))])) X23 hx rfl rfl rfl (pc0 := 68) (pc' := 71) (same := false) rfl (hb hby at_68) rfl (decide_eq_false (fun q => Dlc (hp.symm.trans (Value.ref.inj q)))) (by decide) (by decide) ?_
      show Steps p.tables e below (T23.setTop (mkF m 71 #[.val (.int p1), .val (.int p2), .val (.ref (own_pk f lo co p1)), .val (.ref (h0.size)), .val (.int (1 : Int32)), .unset] [(.int (1 : Int32))])) _
      refine XS.iconst X23.here hx rfl (hb hby at_71) ?_
      show Steps p.tables e below (T23.setTop (mkF m 72 #[.val (.int p1), .val (.int p2), .val (.ref (own_pk f lo co p1)), .val (.ref (h0.size)), .val (.int (1 : Int32)), .unset] [(.int (1 : Int32)), (.int (1 : Int32))])) _
      refine XS.goto X23.here hx rfl (pc0 := 72) (pc' := 76) rfl (hb hby at_72) (by decide) (by decide) ?_
      show Steps p.tables e below (T23.setTop (mkF m 76 #[.val (.int p1), .val (.int p2), .val (.ref (own_pk f lo co p1)), .val (.ref (h0.size)), .val (.int (1 : Int32)), .unset] [(.int (1 : Int32)), (.int (1 : Int32))])) _
      refine XS.icmpYes X23.here hx rfl (pc0 := 76) (pc' := 81) rfl (hb hby at_76) rfl (teq rfl).1 (by decide) (by decide) ?_
      show Steps p.tables e below (T23.setTop (mkF m 81 #[.val (.int p1), .val (.int p2), .val (.ref (own_pk f lo co p1)), .val (.ref (h0.size)), .val (.int (1 : Int32)), .unset] [])) _
      refine XS.aloadN X23.here hx rfl (hb hby at_81) rfl rfl ?_
      show Steps p.tables e below (T23.setTop (mkF m 82 #[.val (.int p1), .val (.int p2), .val (.ref (own_pk f lo co p1)), .val (.ref (h0.size)), .val (.int (1 : Int32)), .unset] [(.ref (h0.size))])) _
      refine XS.iloadN X23.here hx rfl (hb hby at_82) rfl ?_
      show Steps p.tables e below (T23.setTop (mkF m 83 #[.val (.int p1), .val (.int p2), .val (.ref (own_pk f lo co p1)), .val (.ref (h0.size)), .val (.int (1 : Int32)), .unset] [(.int p2), (.ref (h0.size))])) _
      refine XS.iconst X23.here hx rfl (hb hby at_83) ?_
      show Steps p.tables e below (T23.setTop (mkF m 84 #[.val (.int p1), .val (.int p2), .val (.ref (own_pk f lo co p1)), .val (.ref (h0.size)), .val (.int (1 : Int32)), .unset] [(.int (1 : Int32)), (.int p2), (.ref (h0.size))])) _
      refine XS.iand X23.here hx rfl (hb hby at_84) rfl ?_
      show Steps p.tables e below (T23.setTop (mkF m 85 #[.val (.int p1), .val (.int p2), .val (.ref (own_pk f lo co p1)), .val (.ref (h0.size)), .val (.int (1 : Int32)), .unset] [(.int (p2 &&& (1 : Int32))), (.ref (h0.size))])) _
      refine XS.iloadN X23.here hx rfl (hb hby at_85) rfl ?_
      show Steps p.tables e below (T23.setTop (mkF m 86 #[.val (.int p1), .val (.int p2), .val (.ref (own_pk f lo co p1)), .val (.ref (h0.size)), .val (.int (1 : Int32)), .unset] [(.int p2), (.int (p2 &&& (1 : Int32))), (.ref (h0.size))])) _
      refine XS.iconst X23.here hx rfl (hb hby at_86) ?_
      show Steps p.tables e below (T23.setTop (mkF m 87 #[.val (.int p1), .val (.int p2), .val (.ref (own_pk f lo co p1)), .val (.ref (h0.size)), .val (.int (1 : Int32)), .unset] [(.int (1 : Int32)), (.int p2), (.int (p2 &&& (1 : Int32))), (.ref (h0.size))])) _
      refine XS.iushr X23.here hx rfl (hb hby at_87) rfl ?_
      show Steps p.tables e below (T23.setTop (mkF m 88 #[.val (.int p1), .val (.int p2), .val (.ref (own_pk f lo co p1)), .val (.ref (h0.size)), .val (.int (1 : Int32)), .unset] [(.int ((p2.toUInt32 >>> ((1 : Int32) &&& 31).toUInt32).toInt32)), (.int (p2 &&& (1 : Int32))), (.ref (h0.size))])) _
      refine st24 _ ?_
      show Steps p.tables e below (T24.setTop (mkF m 91 #[.val (.int p1), .val (.int p2), .val (.ref (own_pk f lo co p1)), .val (.ref (h0.size)), .val (.int (1 : Int32)), .unset] [(.ref (own_pk f lo co ((p2.toUInt32 >>> ((1 : Int32) &&& 31).toUInt32).toInt32))), (.int (p2 &&& (1 : Int32))), (.ref (h0.size))])) _
      refine st26 _ ?_
      show Steps p.tables e below (T26.setTop (mkF m 92 #[.val (.int p1), .val (.int p2), .val (.ref (own_pk f lo co p1)), .val (.ref (h0.size)), .val (.int (1 : Int32)), .unset] [])) _
      refine st27 _ ?_
      show Steps p.tables e below (T27.setTop (mkF m 95 #[.val (.int p1), .val (.int p2), .val (.ref (own_pk f lo co p1)), .val (.ref (h0.size)), .val (.int (1 : Int32)), .unset] [(.ref (h26.size))])) _
      refine XS.astore X27.here hx rfl (hb hby at_95) rfl rfl (l' := #[.val (.int p1), .val (.int p2), .val (.ref (own_pk f lo co p1)), .val (.ref (h0.size)), .val (.int (1 : Int32)), .val (.ref (h26.size))]) rfl ?_
      show Steps p.tables e below (T27.setTop (mkF m 97 #[.val (.int p1), .val (.int p2), .val (.ref (own_pk f lo co p1)), .val (.ref (h0.size)), .val (.int (1 : Int32)), .val (.ref (h26.size))] [])) _
      refine XS.aload X27.here hx rfl (hb hby at_97) rfl rfl ?_
      show Steps p.tables e below (T27.setTop (mkF m 99 #[.val (.int p1), .val (.int p2), .val (.ref (own_pk f lo co p1)), .val (.ref (h0.size)), .val (.int (1 : Int32)), .val (.ref (h26.size))] [(.ref (h26.size))])) _
      refine XS.aloadN X27.here hx rfl (hb hby at_99) rfl rfl ?_
      show Steps p.tables e below (T27.setTop (mkF m 100 #[.val (.int p1), .val (.int p2), .val (.ref (own_pk f lo co p1)), .val (.ref (h0.size)), .val (.int (1 : Int32)), .val (.ref (h26.size))] [(.ref (h0.size)), (.ref (h26.size))])) _
      refine Jvm.RoadKit.acmp (g := (mkF m 100 #[.val (.int p1), .val (.int p2), .val (.ref (own_pk f lo co p1)), .val (.ref (h0.size)), .val (.int (1 : Int32)), .val (.ref (h26.size))] [(.ref (h0.size)), (.ref (h26.size))])) X27 hx rfl rfl rfl (pc0 := 100) (pc' := 103) (same := false) rfl (hb hby at_100) rfl (decide_eq_false (fun q => absurd (Value.ref.inj q).symm (Nat.ne_of_lt (W26.size ▸ V2.lt)))) (by decide) (by decide) ?_
      show Steps p.tables e below (T27.setTop (mkF m 103 #[.val (.int p1), .val (.int p2), .val (.ref (own_pk f lo co p1)), .val (.ref (h0.size)), .val (.int (1 : Int32)), .val (.ref (h26.size))] [])) _
      refine XS.aload X27.here hx rfl (hb hby at_103) rfl rfl ?_
      show Steps p.tables e below (T27.setTop (mkF m 105 #[.val (.int p1), .val (.int p2), .val (.ref (own_pk f lo co p1)), .val (.ref (h0.size)), .val (.int (1 : Int32)), .val (.ref (h26.size))] [(.ref (h26.size))])) _
      refine XS.ifnullNo X27.here hx rfl (hb hby at_105) rfl ?_
      show Steps p.tables e below (T27.setTop (mkF m 108 #[.val (.int p1), .val (.int p2), .val (.ref (own_pk f lo co p1)), .val (.ref (h0.size)), .val (.int (1 : Int32)), .val (.ref (h26.size))] [])) _
      refine XS.aload X27.here hx rfl (hb hby at_108) rfl rfl ?_
      show Steps p.tables e below (T27.setTop (mkF m 110 #[.val (.int p1), .val (.int p2), .val (.ref (own_pk f lo co p1)), .val (.ref (h0.size)), .val (.int (1 : Int32)), .val (.ref (h26.size))] [(.ref (h26.size))])) _
      refine X27.arraylength hx Ar28.1 (State.isArrayOf_alike hZ.alike Ar28.2.1) (g := (mkF m 110 #[.val (.int p1), .val (.int p2), .val (.ref (own_pk f lo co p1)), .val (.ref (h0.size)), .val (.int (1 : Int32)), .val (.ref (h26.size))] [(.ref (h26.size))])) rfl rfl (hb hby at_110) _ ?_
      rw [len_of sz28 nn28]
      show Steps p.tables e below (T27.setTop (mkF m 111 #[.val (.int p1), .val (.int p2), .val (.ref (own_pk f lo co p1)), .val (.ref (h0.size)), .val (.int (1 : Int32)), .val (.ref (h26.size))] [(.int (2 : Int32))])) _
      refine XS.iconst X27.here hx rfl (hb hby at_111) ?_
      show Steps p.tables e below (T27.setTop (mkF m 112 #[.val (.int p1), .val (.int p2), .val (.ref (own_pk f lo co p1)), .val (.ref (h0.size)), .val (.int (1 : Int32)), .val (.ref (h26.size))] [(.int (2 : Int32)), (.int (2 : Int32))])) _
      refine XS.icmpYes X27.here hx rfl (pc0 := 112) (pc' := 117) rfl (hb hby at_112) rfl (teq (rfl : (2 : Int32) = 2)).1 (by decide) (by decide) ?_
      show Steps p.tables e below (T27.setTop (mkF m 117 #[.val (.int p1), .val (.int p2), .val (.ref (own_pk f lo co p1)), .val (.ref (h0.size)), .val (.int (1 : Int32)), .val (.ref (h26.size))] [])) _
      refine XS.aload X27.here hx rfl (hb hby at_117) rfl rfl ?_
      show Steps p.tables e below (T27.setTop (mkF m 119 #[.val (.int p1), .val (.int p2), .val (.ref (own_pk f lo co p1)), .val (.ref (h0.size)), .val (.int (1 : Int32)), .val (.ref (h26.size))] [(.ref (h26.size))])) _
      refine XS.iconst X27.here hx rfl (hb hby at_119) ?_
      show Steps p.tables e below (T27.setTop (mkF m 120 #[.val (.int p1), .val (.int p2), .val (.ref (own_pk f lo co p1)), .val (.ref (h0.size)), .val (.int (1 : Int32)), .val (.ref (h26.size))] [(.int (0 : Int32)), (.ref (h26.size))])) _
      refine X27.aaload hx (j := (0 : Int32)) (v := (.ref f)) Ar29.1 (State.isArrayOf_alike hZ.alike Ar29.2.1) rfl Ar29.2.2 hin29 (Has.at Ha29 hin29 rfl) (g := (mkF m 120 #[.val (.int p1), .val (.int p2), .val (.ref (own_pk f lo co p1)), .val (.ref (h0.size)), .val (.int (1 : Int32)), .val (.ref (h26.size))] [(.int (0 : Int32)), (.ref (h26.size))])) rfl rfl (hb hby at_120) _ ?_
      show Steps p.tables e below (T27.setTop (mkF m 121 #[.val (.int p1), .val (.int p2), .val (.ref (own_pk f lo co p1)), .val (.ref (h0.size)), .val (.int (1 : Int32)), .val (.ref (h26.size))] [(.ref f)])) _
      refine st30 _ ?_
      show Steps p.tables e below (T30.setTop (mkF m 124 #[.val (.int p1), .val (.int p2), .val (.ref (own_pk f lo co p1)), .val (.ref (h0.size)), .val (.int (1 : Int32)), .val (.ref (h26.size))] [(.ref f), (.ref f)])) _
      refine Jvm.RoadKit.acmp (g := (mkF m 124 #[.val (.int p1), .val (.int p2), .val (.ref (own_pk f lo co p1)), .val (.ref (h0.size)), .val (.int (1 : Int32)), .val (.ref (h26.size))] [(.ref f), (.ref f)])) X30 hx rfl rfl rfl (pc0 := 124) (pc' := 127) (same := true) rfl (hb hby at_124) rfl (decide_eq_true (rfl)) (by decide) (by decide) ?_
      show Steps p.tables e below (T30.setTop (mkF m 127 #[.val (.int p1), .val (.int p2), .val (.ref (own_pk f lo co p1)), .val (.ref (h0.size)), .val (.int (1 : Int32)), .val (.ref (h26.size))] [])) _
      refine XS.aload X30.here hx rfl (hb hby at_127) rfl rfl ?_
      show Steps p.tables e below (T30.setTop (mkF m 129 #[.val (.int p1), .val (.int p2), .val (.ref (own_pk f lo co p1)), .val (.ref (h0.size)), .val (.int (1 : Int32)), .val (.ref (h26.size))] [(.ref (h26.size))])) _
      refine XS.iconst X30.here hx rfl (hb hby at_129) ?_
      show Steps p.tables e below (T30.setTop (mkF m 130 #[.val (.int p1), .val (.int p2), .val (.ref (own_pk f lo co p1)), .val (.ref (h0.size)), .val (.int (1 : Int32)), .val (.ref (h26.size))] [(.int (1 : Int32)), (.ref (h26.size))])) _
      refine X30.aaload hx (j := (1 : Int32)) (v := (.ref lo)) (by rw [e30]; exact Ar31.1) (State.isArrayOf_alike hZ.alike Ar31.2.1) rfl Ar31.2.2 hin31 (Has.at Ha31 hin31 rfl) (g := (mkF m 130 #[.val (.int p1), .val (.int p2), .val (.ref (own_pk f lo co p1)), .val (.ref (h0.size)), .val (.int (1 : Int32)), .val (.ref (h26.size))] [(.int (1 : Int32)), (.ref (h26.size))])) rfl rfl (hb hby at_130) _ ?_
      show Steps p.tables e below (T30.setTop (mkF m 131 #[.val (.int p1), .val (.int p2), .val (.ref (own_pk f lo co p1)), .val (.ref (h0.size)), .val (.int (1 : Int32)), .val (.ref (h26.size))] [(.ref lo)])) _
      refine st32 _ ?_
      show Steps p.tables e below (T32.setTop (mkF m 134 #[.val (.int p1), .val (.int p2), .val (.ref (own_pk f lo co p1)), .val (.ref (h0.size)), .val (.int (1 : Int32)), .val (.ref (h26.size))] [(.ref lo), (.ref lo)])) _
      refine Jvm.RoadKit.acmp (g := (mkF m 134 #[.val (.int p1), .val (.int p2), .val (.ref (own_pk f lo co p1)), .val (.ref (h0.size)), .val (.int (1 : Int32)), .val (.ref (h26.size))] [(.ref lo), (.ref lo)])) X32 hx rfl rfl rfl (pc0 := 134) (pc' := 137) (same := true) rfl (hb hby at_134) rfl (decide_eq_true (rfl)) (by decide) (by decide) ?_
      show Steps p.tables e below (T32.setTop (mkF m 137 #[.val (.int p1), .val (.int p2), .val (.ref (own_pk f lo co p1)), .val (.ref (h0.size)), .val (.int (1 : Int32)), .val (.ref (h26.size))] [])) _
      refine XS.iconst X32.here hx rfl (hb hby at_137) ?_
      show Steps p.tables e below (T32.setTop (mkF m 138 #[.val (.int p1), .val (.int p2), .val (.ref (own_pk f lo co p1)), .val (.ref (h0.size)), .val (.int (1 : Int32)), .val (.ref (h26.size))] [(.int (1 : Int32))])) _
      refine XS.goto X32.here hx rfl (pc0 := 138) (pc' := 142) rfl (hb hby at_138) (by decide) (by decide) ?_
      exact k)
    obtain ⟨fs34, hr34, hrun34, hended34, hW34, hsame34⟩ := X32.leave (v := some (.int (1 : Int32))) (fun h => by rw [Bd.returns] at h; cases h)
    refine ⟨_, _, pre33 _ ?_, hrun34, hended34, _, _, rfl, ?_, ⟨_, rfl⟩, hW34, hsame34.mono (by decide) (by decide)⟩
    · show Steps p.tables e below (T32.setTop (mkF m 142 #[.val (.int p1), .val (.int p2), .val (.ref (own_pk f lo co p1)), .val (.ref (h0.size)), .val (.int (1 : Int32)), .val (.ref (h26.size))] [(.int (1 : Int32))])) _
      exact retN X32 hx (t := .boolean) Bd.returns (by simp) (hb hby at_142) hr34
    · show Q0 Z f lo co p1 p2 h0 n0 _ T32.heap _
      rw [e32]
      exact ⟨rfl, N27⟩
  · have Vc35 := V2
    obtain ⟨cl35, Ar35, qq35, sz35, nn35, Ha35, Gf35⟩ := Vc35
    have hin35 : ¬ ((1 : Int32) < 0 ∨ cl35.slots.size ≤ ((1 : Int32)).toNatClampNeg) := inb_of sz35 ⟨by decide, by decide⟩
    obtain ⟨T36, X36, e36, st36⟩ := getS2 X7 hx hZ hown (host := "") (Or.inl (hw _ (List.mem_of_getElem? (i := 18) rfl))) Via.refl e7 S3_2 (g := (mkF m 65 #[.val (.int p1), .val (.int p2), .val (.ref (own_pk f lo co p1)), .val (.ref (h0.size)), .val (.int (0 : Int32)), .unset] [(.ref (own_pk f lo co p1)), (.int (0 : Int32))])) rfl (hb hby at_65)
    obtain ⟨_, _, ⟨T37, L37, k37, n37⟩, -, X37, ⟨Lc37, hQ37, l37, y37, z37⟩, st37⟩ := Jvm.LawKit.callS X36 hx (y := (⟨"com/example/tierline/tierline/TierWithGoalsPinLaw", "pick", "(I)Lcom/example/tierline/tierline/Tier;"⟩ : MethodName)) hown (mvT hZ (hw _ (List.mem_of_getElem? (i := 0) rfl))) (mvT hZ (hw _ (List.mem_of_getElem? (i := 1) rfl))) (mvT hZ (hw _ (List.mem_of_getElem? (i := 2) rfl))) (mvT hZ (hw _ (List.mem_of_getElem? (i := 3) rfl))) (by decide) (backOf (W := 2) (rm1 l Z a0 hw [] f lo co ((p2.toUInt32 >>> ((1 : Int32) &&& 31).toUInt32).toInt32) T2.heap n0 (Nat.le_trans Z0 E2.1) S1_2 S2_2 S3_2) hZ (hw _ (List.mem_of_getElem? (i := 3) rfl)) (hw _ (List.mem_of_getElem? (i := 2) rfl)) (by decide) (by decide)) (g := (mkF m 88 #[.val (.int p1), .val (.int p2), .val (.ref (own_pk f lo co p1)), .val (.ref (h0.size)), .val (.int (0 : Int32)), .unset] [(.int ((p2.toUInt32 >>> ((1 : Int32) &&& 31).toUInt32).toInt32)), (.int (p2 &&& (1 : Int32))), (.ref (h0.size))])) rfl (by rw [hml]; rfl) (argsL := [(.int ((p2.toUInt32 >>> ((1 : Int32) &&& 31).toUInt32).toInt32))]) (rest := [(.int (p2 &&& (1 : Int32))), (.ref (h0.size))]) (lenOf pd_1 rfl) rfl (by show 2 * 0 + _ ≤ _; exact Nat.le_of_eq rfl) (hb hby at_88) (fun _ _ => ⟨rfl, e36, (by decide : 1 + 0 ≤ _), (by decide : 2 + 0 ≤ _)⟩)
    dsimp only [Pt.U, Pt.locs, Pt.cells, Pt.slots] at X37 l37 y37 z37 st37 hQ37
    subst l37 y37 z37
    obtain ⟨rfl, N37q, q37⟩ := hQ37
    have N37 := Fr.app N2 N37q
    have Vc38 := V2
    obtain ⟨cl38, Ar38, qq38, sz38, nn38, Ha38, Gf38⟩ := Vc38
    have hin38 : ¬ ((p2 &&& (1 : Int32)) < 0 ∨ cl38.slots.size ≤ ((p2 &&& (1 : Int32))).toNatClampNeg) := inb_of sz38 (own_bit p2)
    obtain ⟨T39, h39, X39, e39, W39, st39⟩ := stR X37 hx hZ q37 Ar38 (j := (p2 &&& (1 : Int32))) hin38 rfl (Sto.ofV Ar38 qq38 O2 (Ins.self (own_pkE ((p2.toUInt32 >>> ((1 : Int32) &&& 31).toUInt32).toInt32) Xf_2 Xl_2 Xc_2))) (g := (mkF m 91 #[.val (.int p1), .val (.int p2), .val (.ref (own_pk f lo co p1)), .val (.ref (h0.size)), .val (.int (0 : Int32)), .unset] [(.ref (own_pk f lo co ((p2.toUInt32 >>> ((1 : Int32) &&& 31).toUInt32).toInt32))), (.int (p2 &&& (1 : Int32))), (.ref (h0.size))])) rfl rfl (hb hby at_91)
    have N39 := Fr.snoc X39 N37 Z0
    have S1_39 := S1_2.wr W39
    have S2_39 := S2_2.wr W39
    have S3_39 := S3_2.wr W39
    have Xf_39 := Xf_2.wr W39
    have Xl_39 := Xl_2.wr W39
    have Xc_39 := Xc_2.wr W39
    obtain ⟨_, _, ⟨T40, L40, k40, n40⟩, -, X40, ⟨Lc40, hQ40, l40, y40, z40⟩, st40⟩ := Jvm.LawKit.callS X39 hx (y := (⟨"com/example/tierline/tierline/Tier", "withGoals", "()[Lcom/example/tierline/tierline/Tier;"⟩ : MethodName)) hown (mvT hZ (hw _ (List.mem_of_getElem? (i := 8) rfl))) (mvT hZ (hw _ (List.mem_of_getElem? (i := 9) rfl))) (mvT hZ (hw _ (List.mem_of_getElem? (i := 6) rfl))) (mvT hZ (hw _ (List.mem_of_getElem? (i := 10) rfl))) (by decide) (backOf (W := 0) (rm2 l Z a0 hw [] f lo h39 n0 (Nat.le_trans (Nat.le_trans Z0 E2.1) (Nat.le_of_eq W39.size.symm)) S1_39 S2_39 Xf_39 Xl_39) hZ (hw _ (List.mem_of_getElem? (i := 10) rfl)) (hw _ (List.mem_of_getElem? (i := 6) rfl)) (by decide) (by decide)) (g := (mkF m 92 #[.val (.int p1), .val (.int p2), .val (.ref (own_pk f lo co p1)), .val (.ref (h0.size)), .val (.int (0 : Int32)), .unset] [])) rfl (by rw [hml]; rfl) (argsL := []) (rest := []) (lenOf pd_2 rfl) rfl (by show 2 * 0 + _ ≤ _; exact Nat.le_of_eq rfl) (hb hby at_92) (fun _ _ => ⟨rfl, e39, (by decide : 1 + 1 ≤ _), (by decide : 2 + 2 ≤ _)⟩)
    dsimp only [Pt.U, Pt.locs, Pt.cells, Pt.slots] at X40 l40 y40 z40 st40 hQ40
    subst l40 y40 z40
    obtain ⟨rfl, N40q, E40, k40, V40, O40⟩ := hQ40
    have N40 := Fr.app N39 N40q
    have S1_40 := S1_39.ext E40
    have S2_40 := S2_39.ext E40
    have S3_40 := S3_39.ext E40
    have Xf_40 := Xf_39.ext E40
    have Xl_40 := Xl_39.ext E40
    have Xc_40 := Xc_39.ext E40
    have Vc41 := V40
    obtain ⟨cl41, Ar41, qq41, sz41, nn41, Ha41, Gf41⟩ := Vc41
    have Vc42 := V40
    obtain ⟨cl42, Ar42, qq42, sz42, nn42, Ha42, Gf42⟩ := Vc42
    have hin42 : ¬ ((0 : Int32) < 0 ∨ cl42.slots.size ≤ ((0 : Int32)).toNatClampNeg) := inb_of sz42 ⟨by decide, by decide⟩
    obtain ⟨T43, X43, e43, st43⟩ := getS2 X40 hx hZ hown (host := "") (Or.inl (hw _ (List.mem_of_getElem? (i := 5) rfl))) Via.refl rfl S1_40 (g := (mkF m 121 #[.val (.int p1), .val (.int p2), .val (.ref (own_pk f lo co p1)), .val (.ref (h0.size)), .val (.int (0 : Int32)), .val (.ref (h39.size))] [(.ref f)])) rfl (hb hby at_121)
    have Vc44 := V40
    obtain ⟨cl44, Ar44, qq44, sz44, nn44, Ha44, Gf44⟩ := Vc44
    have hin44 : ¬ ((1 : Int32) < 0 ∨ cl44.slots.size ≤ ((1 : Int32)).toNatClampNeg) := inb_of sz44 ⟨by decide, by decide⟩
    obtain ⟨T45, X45, e45, st45⟩ := getS2 X43 hx hZ hown (host := "") (Or.inl (hw _ (List.mem_of_getElem? (i := 17) rfl))) Via.refl e43 S2_40 (g := (mkF m 131 #[.val (.int p1), .val (.int p2), .val (.ref (own_pk f lo co p1)), .val (.ref (h0.size)), .val (.int (0 : Int32)), .val (.ref (h39.size))] [(.ref lo)])) rfl (hb hby at_131)
    have pre46 : ∀ t, Steps p.tables e below (T45.setTop (mkF m 142 #[.val (.int p1), .val (.int p2), .val (.ref (own_pk f lo co p1)), .val (.ref (h0.size)), .val (.int (0 : Int32)), .val (.ref (h39.size))] [(.int (1 : Int32))])) t → Steps p.tables e below (s₁.setTop (entryFrame m #[(.int p1), (.int p2)] maxLocals)) t := fun t k => pre9 t (by
      show Steps p.tables e below (T7.setTop (mkF m 45 #[.val (.int p1), .val (.int p2), .val (.ref (own_pk f lo co p1)), .val (.ref (h0.size)), .unset, .unset] [(.ref (own_pk f lo co p1)), (.ref f)])) _
      refine Jvm.RoadKit.acmp (g := (mkF m 45 #[.val (.int p1), .val (.int p2), .val (.ref (own_pk f lo co p1)), .val (.ref (h0.size)), .unset, .unset] [(.ref (own_pk f lo co p1)), (.ref f)])) X7 hx rfl rfl rfl (pc0 := 45) (pc' := 48) (same := false) rfl (hb hby at_45) rfl (decide_eq_false (fun q => Dfc ((Value.ref.inj q).trans hp))) (by decide) (by decide) ?_
      show Steps p.tables e below (T7.setTop (mkF m 48 #[.val (.int p1), .val (.int p2), .val (.ref (own_pk f lo co p1)), .val (.ref (h0.size)), .unset, .unset] [])) _
      refine XS.aloadN X7.here hx rfl (hb hby at_48) rfl rfl ?_
      show Steps p.tables e below (T7.setTop (mkF m 49 #[.val (.int p1), .val (.int p2), .val (.ref (own_pk f lo co p1)), .val (.ref (h0.size)), .unset, .unset] [(.ref (h0.size))])) _
      refine XS.iconst X7.here hx rfl (hb hby at_49) ?_
      show Steps p.tables e below (T7.setTop (mkF m 50 #[.val (.int p1), .val (.int p2), .val (.ref (own_pk f lo co p1)), .val (.ref (h0.size)), .unset, .unset] [(.int (1 : Int32)), (.ref (h0.size))])) _
      refine X7.aaload hx (j := (1 : Int32)) (v := (.ref lo)) (by rw [e7]; exact Ar35.1) (State.isArrayOf_alike hZ.alike Ar35.2.1) rfl Ar35.2.2 hin35 (Has.at Ha35 hin35 rfl) (g := (mkF m 50 #[.val (.int p1), .val (.int p2), .val (.ref (own_pk f lo co p1)), .val (.ref (h0.size)), .unset, .unset] [(.int (1 : Int32)), (.ref (h0.size))])) rfl rfl (hb hby at_50) _ ?_
      show Steps p.tables e below (T7.setTop (mkF m 51 #[.val (.int p1), .val (.int p2), .val (.ref (own_pk f lo co p1)), .val (.ref (h0.size)), .unset, .unset] [(.ref lo)])) _
      refine XS.aloadN X7.here hx rfl (hb hby at_51) rfl rfl ?_
      show Steps p.tables e below (T7.setTop (mkF m 52 #[.val (.int p1), .val (.int p2), .val (.ref (own_pk f lo co p1)), .val (.ref (h0.size)), .unset, .unset] [(.ref (own_pk f lo co p1)), (.ref lo)])) _
      refine Jvm.RoadKit.acmp (g := (mkF m 52 #[.val (.int p1), .val (.int p2), .val (.ref (own_pk f lo co p1)), .val (.ref (h0.size)), .unset, .unset] [(.ref (own_pk f lo co p1)), (.ref lo)])) X7 hx rfl rfl rfl (pc0 := 52) (pc' := 59) (same := false) rfl (hb hby at_52) rfl (decide_eq_false (fun q => Dlc ((Value.ref.inj q).trans hp))) (by decide) (by decide) ?_
      show Steps p.tables e below (T7.setTop (mkF m 59 #[.val (.int p1), .val (.int p2), .val (.ref (own_pk f lo co p1)), .val (.ref (h0.size)), .unset, .unset] [])) _
      refine XS.iconst X7.here hx rfl (hb hby at_59) ?_
      show Steps p.tables e below (T7.setTop (mkF m 60 #[.val (.int p1), .val (.int p2), .val (.ref (own_pk f lo co p1)), .val (.ref (h0.size)), .unset, .unset] [(.int (0 : Int32))])) _
      refine XS.istore X7.here hx rfl (hb hby at_60) rfl (l' := #[.val (.int p1), .val (.int p2), .val (.ref (own_pk f lo co p1)), .val (.ref (h0.size)), .val (.int (0 : Int32)), .unset]) rfl ?_
      show Steps p.tables e below (T7.setTop (mkF m 62 #[.val (.int p1), .val (.int p2), .val (.ref (own_pk f lo co p1)), .val (.ref (h0.size)), .val (.int (0 : Int32)), .unset] [])) _
      refine XS.iload X7.here hx rfl (hb hby at_62) rfl ?_
      show Steps p.tables e below (T7.setTop (mkF m 64 #[.val (.int p1), .val (.int p2), .val (.ref (own_pk f lo co p1)), .val (.ref (h0.size)), .val (.int (0 : Int32)), .unset] [(.int (0 : Int32))])) _
      refine XS.aloadN X7.here hx rfl (hb hby at_64) rfl rfl ?_
      show Steps p.tables e below (T7.setTop (mkF m 65 #[.val (.int p1), .val (.int p2), .val (.ref (own_pk f lo co p1)), .val (.ref (h0.size)), .val (.int (0 : Int32)), .unset] [(.ref (own_pk f lo co p1)), (.int (0 : Int32))])) _
      refine st36 _ ?_
      show Steps p.tables e below (T36.setTop (mkF m 68 #[.val (.int p1), .val (.int p2), .val (.ref (own_pk f lo co p1)), .val (.ref (h0.size)), .val (.int (0 : Int32)), .unset] [(.ref co), (.ref (own_pk f lo co p1)), (.int (0 : Int32))])) _
      refine Jvm.RoadKit.acmp (g := (mkF m 68 #[.val (.int p1), .val (.int p2), .val (.ref (own_pk f lo co p1)), .val (.ref (h0.size)), .val (.int (0 : Int32)), .unset] [(.ref co), (.ref (own_pk f lo co p1)), (.int (0 : Int32))])) X36 hx rfl rfl rfl (pc0 := 68) (pc' := 75) (same := true) rfl (hb hby at_68) rfl (decide_eq_true (congrArg Value.ref hp)) (by decide) (by decide) ?_
      show Steps p.tables e below (T36.setTop (mkF m 75 #[.val (.int p1), .val (.int p2), .val (.ref (own_pk f lo co p1)), .val (.ref (h0.size)), .val (.int (0 : Int32)), .unset] [(.int (0 : Int32))])) _
      refine XS.iconst X36.here hx rfl (hb hby at_75) ?_
      show Steps p.tables e below (T36.setTop (mkF m 76 #[.val (.int p1), .val (.int p2), .val (.ref (own_pk f lo co p1)), .val (.ref (h0.size)), .val (.int (0 : Int32)), .unset] [(.int (0 : Int32)), (.int (0 : Int32))])) _
      refine XS.icmpYes X36.here hx rfl (pc0 := 76) (pc' := 81) rfl (hb hby at_76) rfl (teq rfl).1 (by decide) (by decide) ?_
      show Steps p.tables e below (T36.setTop (mkF m 81 #[.val (.int p1), .val (.int p2), .val (.ref (own_pk f lo co p1)), .val (.ref (h0.size)), .val (.int (0 : Int32)), .unset] [])) _
      refine XS.aloadN X36.here hx rfl (hb hby at_81) rfl rfl ?_
      show Steps p.tables e below (T36.setTop (mkF m 82 #[.val (.int p1), .val (.int p2), .val (.ref (own_pk f lo co p1)), .val (.ref (h0.size)), .val (.int (0 : Int32)), .unset] [(.ref (h0.size))])) _
      refine XS.iloadN X36.here hx rfl (hb hby at_82) rfl ?_
      show Steps p.tables e below (T36.setTop (mkF m 83 #[.val (.int p1), .val (.int p2), .val (.ref (own_pk f lo co p1)), .val (.ref (h0.size)), .val (.int (0 : Int32)), .unset] [(.int p2), (.ref (h0.size))])) _
      refine XS.iconst X36.here hx rfl (hb hby at_83) ?_
      show Steps p.tables e below (T36.setTop (mkF m 84 #[.val (.int p1), .val (.int p2), .val (.ref (own_pk f lo co p1)), .val (.ref (h0.size)), .val (.int (0 : Int32)), .unset] [(.int (1 : Int32)), (.int p2), (.ref (h0.size))])) _
      refine XS.iand X36.here hx rfl (hb hby at_84) rfl ?_
      show Steps p.tables e below (T36.setTop (mkF m 85 #[.val (.int p1), .val (.int p2), .val (.ref (own_pk f lo co p1)), .val (.ref (h0.size)), .val (.int (0 : Int32)), .unset] [(.int (p2 &&& (1 : Int32))), (.ref (h0.size))])) _
      refine XS.iloadN X36.here hx rfl (hb hby at_85) rfl ?_
      show Steps p.tables e below (T36.setTop (mkF m 86 #[.val (.int p1), .val (.int p2), .val (.ref (own_pk f lo co p1)), .val (.ref (h0.size)), .val (.int (0 : Int32)), .unset] [(.int p2), (.int (p2 &&& (1 : Int32))), (.ref (h0.size))])) _
      refine XS.iconst X36.here hx rfl (hb hby at_86) ?_
      show Steps p.tables e below (T36.setTop (mkF m 87 #[.val (.int p1), .val (.int p2), .val (.ref (own_pk f lo co p1)), .val (.ref (h0.size)), .val (.int (0 : Int32)), .unset] [(.int (1 : Int32)), (.int p2), (.int (p2 &&& (1 : Int32))), (.ref (h0.size))])) _
      refine XS.iushr X36.here hx rfl (hb hby at_87) rfl ?_
      show Steps p.tables e below (T36.setTop (mkF m 88 #[.val (.int p1), .val (.int p2), .val (.ref (own_pk f lo co p1)), .val (.ref (h0.size)), .val (.int (0 : Int32)), .unset] [(.int ((p2.toUInt32 >>> ((1 : Int32) &&& 31).toUInt32).toInt32)), (.int (p2 &&& (1 : Int32))), (.ref (h0.size))])) _
      refine st37 _ ?_
      show Steps p.tables e below (T37.setTop (mkF m 91 #[.val (.int p1), .val (.int p2), .val (.ref (own_pk f lo co p1)), .val (.ref (h0.size)), .val (.int (0 : Int32)), .unset] [(.ref (own_pk f lo co ((p2.toUInt32 >>> ((1 : Int32) &&& 31).toUInt32).toInt32))), (.int (p2 &&& (1 : Int32))), (.ref (h0.size))])) _
      refine st39 _ ?_
      show Steps p.tables e below (T39.setTop (mkF m 92 #[.val (.int p1), .val (.int p2), .val (.ref (own_pk f lo co p1)), .val (.ref (h0.size)), .val (.int (0 : Int32)), .unset] [])) _
      refine st40 _ ?_
      show Steps p.tables e below (T40.setTop (mkF m 95 #[.val (.int p1), .val (.int p2), .val (.ref (own_pk f lo co p1)), .val (.ref (h0.size)), .val (.int (0 : Int32)), .unset] [(.ref (h39.size))])) _
      refine XS.astore X40.here hx rfl (hb hby at_95) rfl rfl (l' := #[.val (.int p1), .val (.int p2), .val (.ref (own_pk f lo co p1)), .val (.ref (h0.size)), .val (.int (0 : Int32)), .val (.ref (h39.size))]) rfl ?_
      show Steps p.tables e below (T40.setTop (mkF m 97 #[.val (.int p1), .val (.int p2), .val (.ref (own_pk f lo co p1)), .val (.ref (h0.size)), .val (.int (0 : Int32)), .val (.ref (h39.size))] [])) _
      refine XS.aload X40.here hx rfl (hb hby at_97) rfl rfl ?_
      show Steps p.tables e below (T40.setTop (mkF m 99 #[.val (.int p1), .val (.int p2), .val (.ref (own_pk f lo co p1)), .val (.ref (h0.size)), .val (.int (0 : Int32)), .val (.ref (h39.size))] [(.ref (h39.size))])) _
      refine XS.aloadN X40.here hx rfl (hb hby at_99) rfl rfl ?_
      show Steps p.tables e below (T40.setTop (mkF m 100 #[.val (.int p1), .val (.int p2), .val (.ref (own_pk f lo co p1)), .val (.ref (h0.size)), .val (.int (0 : Int32)), .val (.ref (h39.size))] [(.ref (h0.size)), (.ref (h39.size))])) _
      refine Jvm.RoadKit.acmp (g := (mkF m 100 #[.val (.int p1), .val (.int p2), .val (.ref (own_pk f lo co p1)), .val (.ref (h0.size)), .val (.int (0 : Int32)), .val (.ref (h39.size))] [(.ref (h0.size)), (.ref (h39.size))])) X40 hx rfl rfl rfl (pc0 := 100) (pc' := 103) (same := false) rfl (hb hby at_100) rfl (decide_eq_false (fun q => absurd (Value.ref.inj q).symm (Nat.ne_of_lt (W39.size ▸ V2.lt)))) (by decide) (by decide) ?_
      show Steps p.tables e below (T40.setTop (mkF m 103 #[.val (.int p1), .val (.int p2), .val (.ref (own_pk f lo co p1)), .val (.ref (h0.size)), .val (.int (0 : Int32)), .val (.ref (h39.size))] [])) _
      refine XS.aload X40.here hx rfl (hb hby at_103) rfl rfl ?_
      show Steps p.tables e below (T40.setTop (mkF m 105 #[.val (.int p1), .val (.int p2), .val (.ref (own_pk f lo co p1)), .val (.ref (h0.size)), .val (.int (0 : Int32)), .val (.ref (h39.size))] [(.ref (h39.size))])) _
      refine XS.ifnullNo X40.here hx rfl (hb hby at_105) rfl ?_
      show Steps p.tables e below (T40.setTop (mkF m 108 #[.val (.int p1), .val (.int p2), .val (.ref (own_pk f lo co p1)), .val (.ref (h0.size)), .val (.int (0 : Int32)), .val (.ref (h39.size))] [])) _
      refine XS.aload X40.here hx rfl (hb hby at_108) rfl rfl ?_
      show Steps p.tables e below (T40.setTop (mkF m 110 #[.val (.int p1), .val (.int p2), .val (.ref (own_pk f lo co p1)), .val (.ref (h0.size)), .val (.int (0 : Int32)), .val (.ref (h39.size))] [(.ref (h39.size))])) _
      refine X40.arraylength hx Ar41.1 (State.isArrayOf_alike hZ.alike Ar41.2.1) (g := (mkF m 110 #[.val (.int p1), .val (.int p2), .val (.ref (own_pk f lo co p1)), .val (.ref (h0.size)), .val (.int (0 : Int32)), .val (.ref (h39.size))] [(.ref (h39.size))])) rfl rfl (hb hby at_110) _ ?_
      rw [len_of sz41 nn41]
      show Steps p.tables e below (T40.setTop (mkF m 111 #[.val (.int p1), .val (.int p2), .val (.ref (own_pk f lo co p1)), .val (.ref (h0.size)), .val (.int (0 : Int32)), .val (.ref (h39.size))] [(.int (2 : Int32))])) _
      refine XS.iconst X40.here hx rfl (hb hby at_111) ?_
      show Steps p.tables e below (T40.setTop (mkF m 112 #[.val (.int p1), .val (.int p2), .val (.ref (own_pk f lo co p1)), .val (.ref (h0.size)), .val (.int (0 : Int32)), .val (.ref (h39.size))] [(.int (2 : Int32)), (.int (2 : Int32))])) _
      refine XS.icmpYes X40.here hx rfl (pc0 := 112) (pc' := 117) rfl (hb hby at_112) rfl (teq (rfl : (2 : Int32) = 2)).1 (by decide) (by decide) ?_
      show Steps p.tables e below (T40.setTop (mkF m 117 #[.val (.int p1), .val (.int p2), .val (.ref (own_pk f lo co p1)), .val (.ref (h0.size)), .val (.int (0 : Int32)), .val (.ref (h39.size))] [])) _
      refine XS.aload X40.here hx rfl (hb hby at_117) rfl rfl ?_
      show Steps p.tables e below (T40.setTop (mkF m 119 #[.val (.int p1), .val (.int p2), .val (.ref (own_pk f lo co p1)), .val (.ref (h0.size)), .val (.int (0 : Int32)), .val (.ref (h39.size))] [(.ref (h39.size))])) _
      refine XS.iconst X40.here hx rfl (hb hby at_119) ?_
      show Steps p.tables e below (T40.setTop (mkF m 120 #[.val (.int p1), .val (.int p2), .val (.ref (own_pk f lo co p1)), .val (.ref (h0.size)), .val (.int (0 : Int32)), .val (.ref (h39.size))] [(.int (0 : Int32)), (.ref (h39.size))])) _
      refine X40.aaload hx (j := (0 : Int32)) (v := (.ref f)) Ar42.1 (State.isArrayOf_alike hZ.alike Ar42.2.1) rfl Ar42.2.2 hin42 (Has.at Ha42 hin42 rfl) (g := (mkF m 120 #[.val (.int p1), .val (.int p2), .val (.ref (own_pk f lo co p1)), .val (.ref (h0.size)), .val (.int (0 : Int32)), .val (.ref (h39.size))] [(.int (0 : Int32)), (.ref (h39.size))])) rfl rfl (hb hby at_120) _ ?_
      show Steps p.tables e below (T40.setTop (mkF m 121 #[.val (.int p1), .val (.int p2), .val (.ref (own_pk f lo co p1)), .val (.ref (h0.size)), .val (.int (0 : Int32)), .val (.ref (h39.size))] [(.ref f)])) _
      refine st43 _ ?_
      show Steps p.tables e below (T43.setTop (mkF m 124 #[.val (.int p1), .val (.int p2), .val (.ref (own_pk f lo co p1)), .val (.ref (h0.size)), .val (.int (0 : Int32)), .val (.ref (h39.size))] [(.ref f), (.ref f)])) _
      refine Jvm.RoadKit.acmp (g := (mkF m 124 #[.val (.int p1), .val (.int p2), .val (.ref (own_pk f lo co p1)), .val (.ref (h0.size)), .val (.int (0 : Int32)), .val (.ref (h39.size))] [(.ref f), (.ref f)])) X43 hx rfl rfl rfl (pc0 := 124) (pc' := 127) (same := true) rfl (hb hby at_124) rfl (decide_eq_true (rfl)) (by decide) (by decide) ?_
      show Steps p.tables e below (T43.setTop (mkF m 127 #[.val (.int p1), .val (.int p2), .val (.ref (own_pk f lo co p1)), .val (.ref (h0.size)), .val (.int (0 : Int32)), .val (.ref (h39.size))] [])) _
      refine XS.aload X43.here hx rfl (hb hby at_127) rfl rfl ?_
      show Steps p.tables e below (T43.setTop (mkF m 129 #[.val (.int p1), .val (.int p2), .val (.ref (own_pk f lo co p1)), .val (.ref (h0.size)), .val (.int (0 : Int32)), .val (.ref (h39.size))] [(.ref (h39.size))])) _
      refine XS.iconst X43.here hx rfl (hb hby at_129) ?_
      show Steps p.tables e below (T43.setTop (mkF m 130 #[.val (.int p1), .val (.int p2), .val (.ref (own_pk f lo co p1)), .val (.ref (h0.size)), .val (.int (0 : Int32)), .val (.ref (h39.size))] [(.int (1 : Int32)), (.ref (h39.size))])) _
      refine X43.aaload hx (j := (1 : Int32)) (v := (.ref lo)) (by rw [e43]; exact Ar44.1) (State.isArrayOf_alike hZ.alike Ar44.2.1) rfl Ar44.2.2 hin44 (Has.at Ha44 hin44 rfl) (g := (mkF m 130 #[.val (.int p1), .val (.int p2), .val (.ref (own_pk f lo co p1)), .val (.ref (h0.size)), .val (.int (0 : Int32)), .val (.ref (h39.size))] [(.int (1 : Int32)), (.ref (h39.size))])) rfl rfl (hb hby at_130) _ ?_
      show Steps p.tables e below (T43.setTop (mkF m 131 #[.val (.int p1), .val (.int p2), .val (.ref (own_pk f lo co p1)), .val (.ref (h0.size)), .val (.int (0 : Int32)), .val (.ref (h39.size))] [(.ref lo)])) _
      refine st45 _ ?_
      show Steps p.tables e below (T45.setTop (mkF m 134 #[.val (.int p1), .val (.int p2), .val (.ref (own_pk f lo co p1)), .val (.ref (h0.size)), .val (.int (0 : Int32)), .val (.ref (h39.size))] [(.ref lo), (.ref lo)])) _
      refine Jvm.RoadKit.acmp (g := (mkF m 134 #[.val (.int p1), .val (.int p2), .val (.ref (own_pk f lo co p1)), .val (.ref (h0.size)), .val (.int (0 : Int32)), .val (.ref (h39.size))] [(.ref lo), (.ref lo)])) X45 hx rfl rfl rfl (pc0 := 134) (pc' := 137) (same := true) rfl (hb hby at_134) rfl (decide_eq_true (rfl)) (by decide) (by decide) ?_
      show Steps p.tables e below (T45.setTop (mkF m 137 #[.val (.int p1), .val (.int p2), .val (.ref (own_pk f lo co p1)), .val (.ref (h0.size)), .val (.int (0 : Int32)), .val (.ref (h39.size))] [])) _
      refine XS.iconst X45.here hx rfl (hb hby at_137) ?_
      show Steps p.tables e below (T45.setTop (mkF m 138 #[.val (.int p1), .val (.int p2), .val (.ref (own_pk f lo co p1)), .val (.ref (h0.size)), .val (.int (0 : Int32)), .val (.ref (h39.size))] [(.int (1 : Int32))])) _
      refine XS.goto X45.here hx rfl (pc0 := 138) (pc' := 142) rfl (hb hby at_138) (by decide) (by decide) ?_
      exact k)
    obtain ⟨fs47, hr47, hrun47, hended47, hW47, hsame47⟩ := X45.leave (v := some (.int (1 : Int32))) (fun h => by rw [Bd.returns] at h; cases h)
    refine ⟨_, _, pre46 _ ?_, hrun47, hended47, _, _, rfl, ?_, ⟨_, rfl⟩, hW47, hsame47.mono (by decide) (by decide)⟩
    · show Steps p.tables e below (T45.setTop (mkF m 142 #[.val (.int p1), .val (.int p2), .val (.ref (own_pk f lo co p1)), .val (.ref (h0.size)), .val (.int (0 : Int32)), .val (.ref (h39.size))] [(.int (1 : Int32))])) _
      exact retN X45 hx (t := .boolean) Bd.returns (by simp) (hb hby at_142) hr47
    · show Q0 Z f lo co p1 p2 h0 n0 _ T45.heap _
      rw [e45]
      exact ⟨rfl, N40⟩

theorem own_fs {args : Array Value} {s : State} {t : Term} {a : Addr} {C n d : String} {k : Int32} (ev : t.eval args s none [] s = some (.ref a)) (h : (Jvm.Cond.eq (Jvm.Term.field t C n d) (Jvm.Term.int k)).value args s none s [] = some true) : Fld s s.heap a C n d (.int k) := by
  obtain ⟨x, y, e1, e2, -, k1⟩ := cmp_v (Or.inl h)
  have e3 : Value.int k = y := Option.some.inj ((Term.int_eval k).symm.trans e2)
  subst e3
  obtain ⟨z, rfl⟩ : ∃ z, x = .int z := k1
  have q := gotT (Cond.eq_ints e1 (Term.int_eval k)) h
  subst q
  rw [fld_at ev] at e1
  exact Fld.start e1
set_option maxRecDepth 65536 in
set_option maxHeartbeats 40000000 in
theorem comes_1 {Post : Tables → Env → Array Value → State → Outcome → State → Prop} (hpost : ∀ tb e args s v u, (limb_1_1.after args s (.returned v) u = true ∧ limb_1_2.after args s (.returned v) u = true ∧ True) → FrameEnd s (.returned v) u (Jvm.fieldLocs frame_1_writes args s ++ Jvm.arrayLocs frame_1_arrays args s ++ Jvm.staticLocs frame_1_statics s) 16 128 → Post tb e args s (.returned v) u) :
    ArmFor flags0 classFile x code maxLocals ret World_1 tables_1 room_1 Calls_1 rest_1 Pre_1 Post := by
  intro l hfl _ _ p e ha hc hk s m args below hf hA hF happ hP
  obtain ⟨hcalls, hrest, hpre⟩ := hP
  obtain ⟨-, -, -, hnamed, -, -, -, hat⟩ := (Spec.applies_iff hf).mp happ
  obtain ⟨hg, hn⟩ := and_e (Cond.before_iff.mp (show (Jvm.Cond.and given_1 narrow_1).before args s = true from hpre))
  obtain ⟨gg0, gr0⟩ := and_e hg
  obtain ⟨gg1, gr1⟩ := and_e gr0
  obtain ⟨w0, w1, rfl⟩ : ∃ w0 w1 : Value, args = #[w0, w1] := by
    have hs : args.size = 2 := by simpa [Cond.value, given_1] using gg0
    obtain ⟨L⟩ := args
    match L, hs with
    | [w0, w1], _ => exact ⟨w0, w1, rfl⟩
  have hw := fun d (hd : d ∈ tables_1) => atoms_spec (ws := Jvm.Cond.code x code maxLocals ret :: tables_1) hat d (List.mem_cons_of_mem _ hd)
  have hfit : Fit s := fun {y c} hc i hi => by
    obtain ⟨ha, rfl⟩ := Array.getElem?_eq_some_iff.mp hc
    have q := List.all_eq_true.mp ((Array.all_eq_true_iff_forall_mem.mp hF) _ (Array.getElem_mem ha)) i (List.mem_range.mpr hi)
    simpa [Array.getElem?_eq_getElem hi] using q
  obtain ⟨i0, ei0⟩ := is_v gg1
  obtain rfl : w0 = (.int i0) := Option.some.inj ei0
  obtain ⟨i1, ei1⟩ := is_v gr1
  obtain rfl : w1 = (.int i1) := Option.some.inj ei1
  obtain ⟨c0, rc0⟩ := and_e hn
  obtain ⟨c1, rc1⟩ := and_e rc0
  obtain ⟨c2, rc2⟩ := and_e rc1
  obtain ⟨c3, rc3⟩ := and_e rc2
  obtain ⟨c4, rc4⟩ := and_e rc3
  have c5 := rc4
  obtain ⟨f, v1⟩ := exa_v c0
  have S1 := Sta.start v1 (Or.inr ⟨(hw _ (List.mem_of_getElem? (i := 6) rfl)), (hw _ (List.mem_of_getElem? (i := 7) rfl))⟩)
  have E1 := Exa.start v1 c0
  have O1 := own_fs v1 c3
  obtain ⟨lo, v2⟩ := exa_v c1
  have S2 := Sta.start v2 (Or.inr ⟨(hw _ (List.mem_of_getElem? (i := 6) rfl)), (hw _ (List.mem_of_getElem? (i := 16) rfl))⟩)
  have E2 := Exa.start v2 c1
  have O2 := own_fs v2 c5
  obtain ⟨co, v3⟩ := exa_v c2
  have S3 := Sta.start v3 (Or.inr ⟨(hw _ (List.mem_of_getElem? (i := 6) rfl)), (hw _ (List.mem_of_getElem? (i := 19) rfl))⟩)
  have E3 := Exa.start v3 c2
  have O3 := own_fs v3 c4
  obtain ⟨n, o, h1, h2, h3, _, L, rfl, ⟨rfl, N⟩, hq⟩ := rm0 l s _ hw tables_1 f lo co i0 i1 s.heap s.heap.size (Nat.le_refl _) S1 S2 S3 E1 E2 E3 (O1.ne O2 (by decide)) (O1.ne O3 (by decide)) (O2.ne O3 (by decide)) p e ha hc hk s m _ below hf ((Spec.applies_iff_loose hf).mp happ).1 ⟨rfl, State.Warmed39.refl s, rfl⟩ trivial
  refine ⟨n, _, h1, h2, h3, hpost _ _ _ _ _ _ ⟨Cond.after_iff.mpr rfl, Cond.after_iff.mpr (eq_i res_at (Term.int_eval (1)) rfl), trivial⟩ ⟨hq.1, hq.2.1, (hq.2.2.sift fun y hy => Or.inr (N y hy)).mono (by decide) (by decide)⟩⟩
theorem main_1_1 : Claimed_1_1 := comes_1 fun _ _ _ _ _ _ h hF => ⟨h.1, hF⟩
theorem main_1_2 : Claimed_1_2 := comes_1 fun _ _ _ _ _ _ h hF => ⟨h.2.1, hF⟩
end Jvm.Pilot.@@N@@
namespace Jvm.Pilot.@@N@@
open Jvm Jvm.ClassFile Sem Op Lib Jvm.Free Jvm.Stand Jvm.Pilot.@@N@@.Jvm.D
/-! MADE BY PROGRAM (witnessworld.py) out of the Statement's table words and the real class files: 13 classes; the members and pool entries that the words name. The judged class is class 1, her method 2. -/
namespace start1
open Jvm.ClassFile
def u (s : String) : CpInfo := .utf8 (stringToUtf16 s)
/-- a pool by its gaps: so many unusable entries, then the entry; so many at the end -/
def gap : Nat → List CpInfo → List CpInfo
  | 0, r => r
  | n + 1, r => .unusable :: gap n r
def poolList (es : List (Nat × CpInfo)) (last : Nat) : List CpInfo := es.foldr (fun e r => gap e.1 (e.2 :: r)) (gap last [])
def pool (es : List (Nat × CpInfo)) (last : Nat) : Array CpInfo := ⟨poolList es last⟩
def fileOf (pool : Array CpInfo) (this : Nat) (attrs : Array Attribute := #[]) (ms : Array MethodInfo := #[]) (fl : Nat := 33) (sup : Nat := 0) (ifs : Array Nat := #[]) (fds : Array FieldInfo := #[]) : ClassFile where
  minorVersion := 0
  majorVersion := 65
  constantPool := pool
  accessFlags := fl
  thisClass := this
  superClass := sup
  interfaces := ifs
  fields := fds
  methods := ms
  attributes := attrs
def plain (name : String) (sup : Option ClassId) : Class where
  name := name
  kind := .ordinary
  loader := none
  accessFlags := 33
  super := sup
  interfaces := #[]
  cf := none
  fields := #[]
  methods := #[]
  instanceTypes := #[]
  staticTypes := #[]
  resolved := #[]
  callSites := []
  init := .initialized
  statics := none
  mirror := none

def pool0 : Array CpInfo := pool [(5, u "<init>"), (0, u "()V"), (1, .class_ 10), (1, u "java/lang/Object")] 113

def k0m0 : Method := { name := "<init>", desc := "()V", sig := { parameters := [], returnType := none }, accessFlags := 1, code := none }
/-- java/lang/Object -/
def k0 : Class := { plain "java/lang/Object" none with
  accessFlags := 33
  interfaces := #[]
  cf := some (fileOf pool0 8 #[] #[{ accessFlags := 1, nameIndex := 5, descriptorIndex := 6, attributes := #[] }] 33 0 #[] #[])
  fields := #[]
  methods := #[k0m0]
  instanceTypes := #[]
  staticTypes := #[]
  resolved := Array.replicate 124 none
  statics := none }

def pool1 : Array CpInfo := pool [(2, .class_ 4), (1, u "java/lang/Object"), (0, u "<init>"), (0, u "()V"), (0, .integer 2147483647), (0, .fieldref 9 10), (0, .class_ 11), (0, .nameAndType 12 13), (0, u "com/example/tierline/tierline/Tier"), (0, u "FIRST"), (0, u "Lcom/example/tierline/tierline/Tier;"), (0, .fieldref 9 15), (0, .nameAndType 16 13), (0, u "LOWER"), (0, .fieldref 9 18), (0, .nameAndType 19 13), (0, u "COMBINED"), (0, .methodref 21 22), (0, .class_ 23), (0, .nameAndType 24 25), (0, u "com/example/tierline/tierline/TierWithGoalsPinLaw"), (0, u "pick"), (0, u "(I)Lcom/example/tierline/tierline/Tier;"), (0, .methodref 9 27), (0, .nameAndType 28 29), (0, u "withGoals"), (0, u "()[Lcom/example/tierline/tierline/Tier;"), (3, u "law"), (0, u "(II)Z")] 4

def k1m0 : Method := { name := "<init>", desc := "()V", sig := { parameters := [], returnType := none }, accessFlags := 2, code := none }
def k1c1 : Code := { maxStack := 2, maxLocals := 2, code := method_2_code, exceptionTable := #[], attributes := #[] }
def k1m1 : Method := { name := "pick", desc := "(I)Lcom/example/tierline/tierline/Tier;", sig := { parameters := [.int], returnType := some (.object "com/example/tierline/tierline/Tier") }, accessFlags := 10, code := some k1c1 }
def k1c2 : Code := { maxStack := 4, maxLocals := 6, code := code, exceptionTable := #[], attributes := #[] }
def k1m2 : Method := { name := "law", desc := "(II)Z", sig := { parameters := [.int, .int], returnType := some .boolean }, accessFlags := 9, code := some k1c2 }
/-- com/example/tierline/tierline/TierWithGoalsPinLaw -/
def k1 : Class := { plain "com/example/tierline/tierline/TierWithGoalsPinLaw" (some 0) with
  accessFlags := 49
  interfaces := #[]
  cf := some (fileOf pool1 21 #[] #[{ accessFlags := 2, nameIndex := 5, descriptorIndex := 6, attributes := #[] }, { accessFlags := 10, nameIndex := 24, descriptorIndex := 25, attributes := #[] }, { accessFlags := 9, nameIndex := 33, descriptorIndex := 34, attributes := #[] }] 49 2 #[] #[])
  fields := #[]
  methods := #[k1m0, k1m1, k1m2]
  instanceTypes := #[]
  staticTypes := #[]
  resolved := Array.replicate 39 none
  statics := none }

def pool2 : Array CpInfo := pool [(1, .class_ 2), (0, u "java/lang/constant/Constable"), (0, .class_ 4), (0, u "java/lang/Object")] 6

/-- java/lang/constant/Constable -/
def k2 : Class := { plain "java/lang/constant/Constable" (some 0) with
  accessFlags := 1537
  interfaces := #[]
  cf := some (fileOf pool2 1 #[] #[] 1537 3 #[] #[])
  fields := #[]
  methods := #[]
  instanceTypes := #[]
  staticTypes := #[]
  resolved := Array.replicate 11 none
  statics := none }

def pool3 : Array CpInfo := pool [(1, .class_ 2), (0, u "java/lang/Comparable"), (0, .class_ 4), (0, u "java/lang/Object")] 7

/-- java/lang/Comparable -/
def k3 : Class := { plain "java/lang/Comparable" (some 0) with
  accessFlags := 1537
  interfaces := #[]
  cf := some (fileOf pool3 1 #[] #[] 1537 3 #[] #[])
  fields := #[]
  methods := #[]
  instanceTypes := #[]
  staticTypes := #[]
  resolved := Array.replicate 12 none
  statics := none }

def pool4 : Array CpInfo := pool [(1, .class_ 2), (0, u "java/io/Serializable"), (0, .class_ 4), (0, u "java/lang/Object")] 2

/-- java/io/Serializable -/
def k4 : Class := { plain "java/io/Serializable" (some 0) with
  accessFlags := 1537
  interfaces := #[]
  cf := some (fileOf pool4 1 #[] #[] 1537 3 #[] #[])
  fields := #[]
  methods := #[]
  instanceTypes := #[]
  staticTypes := #[]
  resolved := Array.replicate 7 none
  statics := none }

def pool5 : Array CpInfo := pool [(2, .class_ 4), (1, u "java/lang/Enum"), (0, u "name"), (0, u "Ljava/lang/String;"), (2, u "ordinal"), (0, u "I"), (1, .class_ 14), (1, u "java/lang/Object"), (4, u "hash"), (86, .class_ 108), (1, u "java/lang/Enum$EnumDesc"), (2, .class_ 112), (0, u "java/lang/constant/Constable"), (0, .class_ 114), (0, u "java/lang/Comparable"), (0, .class_ 116), (0, u "java/io/Serializable")] 87

/-- java/lang/Enum -/
def k5 : Class := { plain "java/lang/Enum" (some 0) with
  accessFlags := 1057
  interfaces := #[2, 3, 4]
  cf := some (fileOf pool5 2 #[.nestMembers #[106]] #[] 1057 12 #[111, 113, 115] #[{ accessFlags := 18, nameIndex := 5, descriptorIndex := 6, attributes := #[] }, { accessFlags := 18, nameIndex := 9, descriptorIndex := 10, attributes := #[] }, { accessFlags := 2, nameIndex := 19, descriptorIndex := 10, attributes := #[] }])
  fields := #[{ name := "name", type := (.object "java/lang/String"), accessFlags := 18, slot := 0, constantValue := 0 }, { name := "ordinal", type := .int, accessFlags := 18, slot := 1, constantValue := 0 }, { name := "hash", type := .int, accessFlags := 2, slot := 2, constantValue := 0 }]
  methods := #[]
  instanceTypes := #[(.object "java/lang/String"), .int, .int]
  staticTypes := #[]
  resolved := Array.replicate 204 none
  statics := none }

def pool6 : Array CpInfo := pool [(1, .class_ 2), (0, u "com/example/tierline/tierline/Tier"), (0, .fieldref 1 4), (0, .nameAndType 5 6), (0, u "FIRST"), (0, u "Lcom/example/tierline/tierline/Tier;"), (0, .fieldref 1 8), (0, .nameAndType 9 6), (0, u "LOWER"), (2, u "COMBINED"), (2, u "$VALUES"), (0, u "[Lcom/example/tierline/tierline/Tier;"), (6, .class_ 25), (1, u "java/lang/Enum"), (13, u "()[Lcom/example/tierline/tierline/Tier;"), (7, u "withGoals")] 4

def k6c0 : Code := { maxStack := 4, maxLocals := 0, code := prog_71_method_4_code, exceptionTable := #[], attributes := #[] }
def k6m0 : Method := { name := "withGoals", desc := "()[Lcom/example/tierline/tierline/Tier;", sig := { parameters := [], returnType := some (.array (.object "com/example/tierline/tierline/Tier")) }, accessFlags := 8, code := some k6c0 }
/-- com/example/tierline/tierline/Tier -/
def k6 : Class := { plain "com/example/tierline/tierline/Tier" (some 5) with
  accessFlags := 16432
  interfaces := #[]
  cf := some (fileOf pool6 1 #[] #[{ accessFlags := 8, nameIndex := 47, descriptorIndex := 39, attributes := #[] }] 16432 23 #[] #[{ accessFlags := 16409, nameIndex := 5, descriptorIndex := 6, attributes := #[] }, { accessFlags := 16409, nameIndex := 9, descriptorIndex := 6, attributes := #[] }, { accessFlags := 16409, nameIndex := 12, descriptorIndex := 6, attributes := #[] }, { accessFlags := 4122, nameIndex := 15, descriptorIndex := 16, attributes := #[] }])
  fields := #[{ name := "FIRST", type := (.object "com/example/tierline/tierline/Tier"), accessFlags := 16409, slot := 0, constantValue := 0 }, { name := "LOWER", type := (.object "com/example/tierline/tierline/Tier"), accessFlags := 16409, slot := 1, constantValue := 0 }, { name := "COMBINED", type := (.object "com/example/tierline/tierline/Tier"), accessFlags := 16409, slot := 2, constantValue := 0 }, { name := "$VALUES", type := (.array (.object "com/example/tierline/tierline/Tier")), accessFlags := 4122, slot := 3, constantValue := 0 }]
  methods := #[k6m0]
  instanceTypes := #[(.object "java/lang/String"), .int, .int]
  staticTypes := #[(.object "com/example/tierline/tierline/Tier"), (.object "com/example/tierline/tierline/Tier"), (.object "com/example/tierline/tierline/Tier"), (.array (.object "com/example/tierline/tierline/Tier"))]
  resolved := Array.replicate 52 none
  statics := some 0 }

def pool7 : Array CpInfo := pool [(1, u "java/lang/Cloneable"), (0, .class_ 1), (0, u "java/lang/Object"), (0, .class_ 3)] 3

/-- java/lang/Cloneable -/
def k7 : Class := { plain "java/lang/Cloneable" (some 0) with
  accessFlags := 1537
  interfaces := #[]
  cf := some (fileOf pool7 2 #[] #[] 1537 4 #[] #[])
  fields := #[]
  methods := #[]
  instanceTypes := #[]
  staticTypes := #[]
  resolved := Array.replicate 8 none
  statics := none }

/-- the primitive byte -/
def k8 : Class := { plain "byte" none with kind := .primitive 'B', accessFlags := 0x411 }
/-- [B -/
def k9 : Class := { plain "[B" (some 0) with kind := .array 8 .byte, interfaces := #[7, 4], accessFlags := 1041 }

/-- the primitive int -/
def k10 : Class := { plain "int" none with kind := .primitive 'I', accessFlags := 0x411 }
/-- [I -/
def k11 : Class := { plain "[I" (some 0) with kind := .array 10 .int, interfaces := #[7, 4], accessFlags := 1041 }

/-- [Lcom/example/tierline/tierline/Tier; -/
def k12 : Class := { plain "[Lcom/example/tierline/tierline/Tier;" (some 0) with kind := .array 6 (.object "com/example/tierline/tierline/Tier"), interfaces := #[7, 4], accessFlags := 1041 }

def heap : Heap := #[{ cls := 6, slots := #[.ref 1, .ref 2, .ref 3, .null], vm := .statics 6 },
  { cls := 6, slots := #[.null, .int 0, .int 0], vm := .none },
  { cls := 6, slots := #[.null, .int 1, .int 0], vm := .none },
  { cls := 6, slots := #[.null, .int 2, .int 0], vm := .none }]
def classes : Array Class := #[k0, k1, k2, k3, k4, k5, k6, k7, k8, k9, k10, k11, k12]
def interned : List (Array UInt16 × Addr) := []
def slotsUsed : Nat := 13
def theMethod : MethodId := ⟨1, 2⟩
def args0 : Array Value := #[.int 5, .int 6]
def aboutOver (below : List Frame) : State where
  vm := { classes := classes, interned := interned.toArray }
  heap := heap
  slotsUsed := slotsUsed
  threads := #[{ frames := .invoking theMethod args0 :: below }]
def below0 : List Frame := [.native { method := ⟨0, 0⟩, args := #[] }]
def about1 : State := aboutOver below0
def p0 : Program := .bare "" "" ""
def e0 : Env := launch0.env 0 0 0
theorem w_frames : about1.frames = Frame.invoking theMethod args0 :: below0 := rfl
set_option maxRecDepth 65536 in
theorem w_args : argsFit about1.vm theMethod args0 = true := by decide +kernel
set_option maxRecDepth 65536 in
theorem w_heap : heapFits about1 = true := by decide +kernel
set_option maxRecDepth 65536 in
theorem w_runnable : about1.curStatus? = some .runnable := by decide +kernel
set_option maxRecDepth 65536 in
theorem w_alone : about1.alone = true := by decide +kernel
set_option maxRecDepth 65536 in
theorem w_named : about1.methodNamed? x = some theMethod := by decide +kernel
set_option maxRecDepth 65536 in
theorem w_hears : about1.hears theMethod below0 = true := by decide +kernel
set_option maxRecDepth 65536 in
theorem w_ripe : about1.ripe theMethod args0 below0 = true := by decide +kernel
theorem w_running : about1.status = .running := rfl
set_option maxRecDepth 65536 in
theorem w_room : about1.hasRoom e0.platform room_1 = true :=
  launch0.hasRoom_least _ room_1 (by decide +kernel) (by decide +kernel) (by decide +kernel) (by decide +kernel) (by decide +kernel) (by decide +kernel)
theorem allAtoms_all (ts : List Jvm.Cond) (a : Array Jvm.Value) (st : Jvm.State) : (allAtoms ts).before a st = ts.all (fun c => c.before a st) := by
  induction ts with
  | nil => rfl
  | cons c t ih =>
    show (Jvm.Cond.and c (allAtoms t)).before a st = _
    rw [Jvm.Cond.before_and, ih, List.all_cons]
def words1 : List Jvm.Cond := Jvm.Cond.code x code maxLocals ret :: tables_1
/-- a 'code' word, met by the world's own term for the bytes: nothing is compared byte by byte -/
theorem code_word {y : MethodName} {bytes : ByteArray} {mx : Nat} {rt : Option FieldType} {a : Array Value} {s : State} {m : MethodId} {meth : Method} {c : Code} (h1 : s.methodNamed? y = some m) (h2 : s.vm.method? m = some meth) (h3 : meth.code = some c) (h4 : c.code = bytes)
    (h5 : (c.maxLocals == mx && c.exceptionTable.isEmpty && decide (c.maxStack ≤ mostOperands) && decide (meth.sig.returnType = rt) && !meth.locks && decide (parseMethodDescriptor y.desc = some meth.sig)) = true) : (Jvm.Cond.code y bytes mx rt).before a s = true := by
  simp only [Bool.and_eq_true, beq_iff_eq, Bool.not_eq_true', decide_eq_true_eq] at h5
  obtain ⟨⟨⟨⟨⟨g1, g2⟩, g3⟩, g4⟩, g5⟩, g6⟩ := h5
  simp [Cond.before, Cond.holds, Cond.value, h1, h2, h3, h4, g1, g2, g3, g4, g5, g6]
def isCode : Jvm.Cond → Bool
  | .code _ _ _ _ => true
  | _ => false
theorem all_split {L : List Jvm.Cond} {P : Jvm.Cond → Bool} (h1 : L.all (fun c => isCode c || P c) = true) (h2 : ∀ c ∈ L.filter isCode, P c = true) : L.all P = true := by
  refine List.all_eq_true.mpr fun c hc => ?_
  have h := List.all_eq_true.mp h1 c hc
  rcases Bool.eq_false_or_eq_true (isCode c) with hi | hi
  · exact h2 c (List.mem_filter.mpr ⟨hc, hi⟩)
  · simpa [hi] using h
set_option maxRecDepth 65536 in
theorem w_c0 : (Jvm.Cond.code x code maxLocals ret).before args0 about1 = true := code_word (m := ⟨1, 2⟩) (meth := k1m2) (c := k1c2) (by decide +kernel) rfl rfl rfl (by decide +kernel)
set_option maxRecDepth 65536 in
theorem w_c1 : (Jvm.Cond.code ({ cls := "com/example/tierline/tierline/TierWithGoalsPinLaw", name := "pick", desc := "(I)Lcom/example/tierline/tierline/Tier;" } : Jvm.MethodName) method_2_code (2 : Nat) (Option.some (Jvm.ClassFile.FieldType.object "com/example/tierline/tierline/Tier"))).before args0 about1 = true := code_word (m := ⟨1, 1⟩) (meth := k1m1) (c := k1c1) (by decide +kernel) rfl rfl rfl (by decide +kernel)
set_option maxRecDepth 65536 in
theorem w_c2 : (Jvm.Cond.code ({ cls := "com/example/tierline/tierline/Tier", name := "withGoals", desc := "()[Lcom/example/tierline/tierline/Tier;" } : Jvm.MethodName) prog_71_method_4_code (0 : Nat) (Option.some (Jvm.ClassFile.FieldType.array (Jvm.ClassFile.FieldType.object "com/example/tierline/tierline/Tier")))).before args0 about1 = true := code_word (m := ⟨6, 0⟩) (meth := k6m0) (c := k6c0) (by decide +kernel) rfl rfl rfl (by decide +kernel)
def codes1 : List Jvm.Cond := [Jvm.Cond.code x code maxLocals ret, Jvm.Cond.code ({ cls := "com/example/tierline/tierline/TierWithGoalsPinLaw", name := "pick", desc := "(I)Lcom/example/tierline/tierline/Tier;" } : Jvm.MethodName) method_2_code (2 : Nat) (Option.some (Jvm.ClassFile.FieldType.object "com/example/tierline/tierline/Tier")), Jvm.Cond.code ({ cls := "com/example/tierline/tierline/Tier", name := "withGoals", desc := "()[Lcom/example/tierline/tierline/Tier;" } : Jvm.MethodName) prog_71_method_4_code (0 : Nat) (Option.some (Jvm.ClassFile.FieldType.array (Jvm.ClassFile.FieldType.object "com/example/tierline/tierline/Tier")))]
set_option maxRecDepth 65536 in
theorem codes_eq : words1.filter isCode = codes1 := rfl
theorem w_codes : ∀ c ∈ words1.filter isCode, c.before args0 about1 = true := by
  rw [codes_eq]
  intro c hc
  simp only [codes1, List.mem_cons, List.not_mem_nil, or_false] at hc
  rcases hc with rfl | rfl | rfl
  · exact w_c0
  · exact w_c1
  · exact w_c2
set_option maxRecDepth 65536 in
theorem w_t1 : words1.all (fun c => isCode c || c.before args0 about1) = true := by decide +kernel
theorem w_tables : (allAtoms (Jvm.Cond.code x code maxLocals ret :: tables_1)).before args0 about1 = true := by
  rw [allAtoms_all]
  show words1.all (fun c => c.before args0 about1) = true
  refine all_split ?_ w_codes
  rw [w_t1]
set_option maxRecDepth 65536 in
theorem w_case : (Jvm.Cond.and given_1 narrow_1).before args0 about1 = true := by decide +kernel
theorem w_applies : (headSpec (Jvm.Cond.code x code maxLocals ret :: tables_1) room_1).applies x e0.platform about1 = true :=
  (Spec.applies_iff w_frames).mpr ⟨w_running, w_runnable, w_alone, w_named, w_hears, w_ripe, w_room, w_tables⟩
theorem atStart : AtStart classFile x code maxLocals ret World_1 tables_1 room_1 Calls_1 rest_1 Pre_1 launch0 p0 e0 about1 theMethod args0 below0 :=
  ⟨lists_1, trivial, launch0.admits_env _ _ _, launch0.least_env, fairChoices_fair.cas, fairChoices_fair.clock, w_frames, w_args, w_heap, w_applies, trivial, trivial, w_case⟩
end start1
theorem witness_1 : WitnessClaimed_1 := ⟨start1.p0, start1.e0, start1.about1, start1.theMethod, start1.args0, start1.below0, start1.atStart⟩
end Jvm.Pilot.@@N@@
