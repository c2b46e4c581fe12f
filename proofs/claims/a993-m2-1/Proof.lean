import JvmDerived
import JvmDerived.Pilot.@@N@@Statement
import JvmDerived.Pilot.@@N@@Code
set_option linter.unusedVariables false
set_option linter.unusedSimpArgs false
namespace Jvm.Pilot.@@N@@
open Jvm Jvm.ClassFile Sem Op Lib Jvm.Free Jvm.Stand Jvm.LawKit Jvm.RoadKit Bundle Jvm.Pilot.@@N@@.Jvm.D
theorem own_cat {v : Value} (h : v.isRef = true) : v.category = 1 := by rcases ref_cases h with rfl | ⟨_, rfl⟩ <;> rfl
theorem own_store {l : Array Slot} {i : Nat} {v : Value} {o : Slot} (ho : One o) (hv : v.category = 1) (hold : l[i]? = some o := by rfl) : storeLocals l i v = some (l.setIfInBounds i (.val v)) := XS.store1 hold ho hv

def own_rd (cl : Cell) (j y : Int32) : Prop := ¬ (j < 0 ∨ cl.slots.size ≤ j.toNatClampNeg) ∧ cl.slots[j.toNatClampNeg]? = some (.int y)
theorem own_rdOf {c : Cell} {z j y : Int32} {vs : List Value} {dv : Value} (S : c.slots.size = z.toNatClampNeg) (H : Has c vs dv) (q : ¬ j < 0 ∧ j < z) (u : vs.getD j.toNatClampNeg dv = .int y) : own_rd c j y := ⟨inb_of S q, Has.at H (inb_of S q) u⟩
def own_len (b : Int32) : Int32 := if b < 128 then 1 else if b < 194 then 0 else if 223 < b then (if 239 < b then (if 244 < b then 0 else 4) else 3) else 2
def own_lo (b : Int32) : Int32 := if b = 224 then 160 else if b = 240 then 144 else 128
def own_hi (b : Int32) : Int32 := if b = 237 then 159 else if b = 244 then 143 else 191
def own_cont (b : Int32) : Int32 := if b < 128 then 0 else if 191 < b then 0 else 1
def own_exp (b0 b1 b2 b3 av : Int32) : Int32 := if own_len b0 < 2 then 1 else if av < 2 then 1 else if b1 < own_lo b0 then 1 else if own_hi b0 < b1 then 1 else if own_len b0 < 3 then 2 else if av < 3 then 2 else if own_cont b2 = 0 then 2 else if own_len b0 < 4 then 3 else if av < 4 then 3 else if own_cont b3 = 0 then 3 else 4
def own_wf (at' en ln lo hi b1 b2 b3 : Int32) : Int32 :=
  if (1 : Int32) < ln then if at' + (1 : Int32) < en then if b1 < lo then 1 else if hi < b1 then 1 else
    if (1 : Int32) + (1 : Int32) < ln then if at' + ((1 : Int32) + (1 : Int32)) < en then if b2 < 128 then (1 : Int32) + (1 : Int32) else if 191 < b2 then (1 : Int32) + (1 : Int32) else
      if ((1 : Int32) + (1 : Int32)) + (1 : Int32) < ln then if at' + (((1 : Int32) + (1 : Int32)) + (1 : Int32)) < en then if b3 < 128 then ((1 : Int32) + (1 : Int32)) + (1 : Int32) else if 191 < b3 then ((1 : Int32) + (1 : Int32)) + (1 : Int32) else (((1 : Int32) + (1 : Int32)) + (1 : Int32)) + (1 : Int32)
      else ((1 : Int32) + (1 : Int32)) + (1 : Int32) else ((1 : Int32) + (1 : Int32)) + (1 : Int32)
    else (1 : Int32) + (1 : Int32) else (1 : Int32) + (1 : Int32)
  else 1 else 1
theorem own_by (x : Int32) : (nar .byte ((x &&& (255 : Int32)).toInt8.toInt32) &&& (255 : Int32)) = x &&& (255 : Int32) := by
  apply Int32.toInt_inj.mp
  show ((((x &&& (255 : Int32)).toInt8.toInt32).toInt8.toInt32) &&& (255 : Int32)).toInt = _
  have h1 := c_mask x 255 8 (by decide) (by decide)
  generalize x &&& (255 : Int32) = y at h1 ⊢
  have h2 := c_i2b y
  generalize y.toInt8.toInt32 = z at h2 ⊢
  have h3 := c_i2b z
  generalize z.toInt8.toInt32 = w at h3 ⊢
  have h4 := c_mask w 255 8 (by decide) (by decide)
  omega
theorem own_rng (x : Int32) : ¬ (x &&& (255 : Int32)) < 0 ∧ (x &&& (255 : Int32)) < 256 := by
  have h := c_mask x 255 8 (by decide) (by decide)
  simp only [Int32.lt_iff_toInt_lt]
  have e1 : (0 : Int32).toInt = 0 := rfl
  have e2 : (256 : Int32).toInt = 256 := rfl
  omega
theorem own_bit (x : Int32) : (x &&& (1 : Int32)) = 0 ∨ (x &&& (1 : Int32)) = 1 := by
  have h := c_mask x 1 1 (by decide) (by decide)
  rcases (by omega : (x &&& (1 : Int32)).toInt = 0 ∨ (x &&& (1 : Int32)).toInt = 1) with q | q
  · exact Or.inl (Int32.toInt_inj.mp (q.trans rfl))
  · exact Or.inr (Int32.toInt_inj.mp (q.trans rfl))
def own_av (x : Int32) : Int32 := (((x.toUInt32 >>> ((1 : Int32) &&& 31).toUInt32).toInt32 &&& (7 : Int32)) % (5 : Int32)) + (1 : Int32)
theorem own_avr (x : Int32) : 1 ≤ (own_av x).toInt ∧ (own_av x).toInt ≤ 5 := by
  unfold own_av
  generalize (x.toUInt32 >>> ((1 : Int32) &&& 31).toUInt32).toInt32 = y
  have h1 := c_mask y 7 3 (by decide) (by decide)
  generalize y &&& (7 : Int32) = z at h1 ⊢
  have h2 := (c_irem z 5 5 (by decide)).1 (by omega)
  generalize z % (5 : Int32) = w at h2 ⊢
  have h3 := c_iadd w 1
  have h4 := rng32 (w + 1)
  have e1 : (1 : Int32).toInt = 1 := rfl
  omega
theorem own_k2 (x y b : Int32) : (if own_cont b = 0 then x else y) = if b < 128 then x else if 191 < b then x else y := by
  unfold own_cont
  by_cases h1 : b < 128 <;> by_cases h2 : 191 < b <;> simp [h1, h2]
theorem own_lt (k l x : Int32) (h : k.toInt + 1 = l.toInt) : (k < x) = ¬ (x < l) := by
  apply propext
  rw [Int32.lt_iff_toInt_lt, Int32.lt_iff_toInt_lt]
  omega
theorem own_at (a v k l : Int32) (ha : a = 0 ∨ a = 1) (h1 : 1 ≤ v.toInt) (h5 : v.toInt ≤ 5) (h : k.toInt + 1 = l.toInt) (hk : 0 ≤ k.toInt) (hk4 : k.toInt ≤ 4) : (a + k < a + v) = ¬ (v < l) := by
  apply propext
  rw [Int32.lt_iff_toInt_lt, Int32.lt_iff_toInt_lt]
  have q1 := c_iadd a k
  have q2 := c_iadd a v
  have q3 := rng32 (a + k)
  have q4 := rng32 (a + v)
  have q5 : a.toInt = 0 ∨ a.toInt = 1 := by rcases ha with rfl | rfl; exact Or.inl rfl; exact Or.inr rfl
  omega
theorem own_main (a v b0 b1 b2 b3 : Int32) (ha : a = 0 ∨ a = 1) (h1 : 1 ≤ v.toInt) (h5 : v.toInt ≤ 5) : own_wf a (a + v) (own_len b0) (own_lo b0) (own_hi b0) b1 b2 b3 = own_exp b0 b1 b2 b3 v := by
  unfold own_wf own_exp
  have n2 : (1 : Int32) + (1 : Int32) = 2 := rfl
  have n3 : (2 : Int32) + 1 = 3 := rfl
  have n4 : (3 : Int32) + 1 = 4 := rfl
  simp only [n2, n3, n4, own_k2]
  simp only [own_lt 1 2 (own_len b0) rfl, own_lt 2 3 (own_len b0) rfl, own_lt 3 4 (own_len b0) rfl, own_at a v 1 2 ha h1 h5 rfl (by decide) (by decide), own_at a v 2 3 ha h1 h5 rfl (by decide) (by decide), own_at a v 3 4 ha h1 h5 rfl (by decide) (by decide), ite_not]
theorem own_len4 (b : Int32) : ¬ ((((1 : Int32) + (1 : Int32)) + (1 : Int32)) + (1 : Int32) < own_len b) := by
  unfold own_len
  repeat' split
  all_goals decide

theorem d1_0 : decode prog_68_method_8_code 0 = .ok (.aload_n 0, 1) := by decide +kernel
theorem d1_1 : decode prog_68_method_8_code 1 = .ok (.iload_n 1, 1) := by decide +kernel
theorem d1_2 : decode prog_68_method_8_code 2 = .ok (.baload, 1) := by decide +kernel
theorem d1_3 : decode prog_68_method_8_code 3 = .ok (.sipush 255, 3) := by decide +kernel
theorem d1_6 : decode prog_68_method_8_code 6 = .ok (.iand, 1) := by decide +kernel
theorem d1_7 : decode prog_68_method_8_code 7 = .ok (.istore_n 3, 1) := by decide +kernel
theorem d1_8 : decode prog_68_method_8_code 8 = .ok (.getstatic 144, 3) := by decide +kernel
theorem d1_11 : decode prog_68_method_8_code 11 = .ok (.iload_n 3, 1) := by decide +kernel
theorem d1_12 : decode prog_68_method_8_code 12 = .ok (.baload, 1) := by decide +kernel
theorem d1_13 : decode prog_68_method_8_code 13 = .ok (.istore 4, 2) := by decide +kernel
theorem d1_15 : decode prog_68_method_8_code 15 = .ok (.getstatic 159, 3) := by decide +kernel
theorem d1_18 : decode prog_68_method_8_code 18 = .ok (.iload_n 3, 1) := by decide +kernel
theorem d1_19 : decode prog_68_method_8_code 19 = .ok (.iaload, 1) := by decide +kernel
theorem d1_20 : decode prog_68_method_8_code 20 = .ok (.istore 5, 2) := by decide +kernel
theorem d1_22 : decode prog_68_method_8_code 22 = .ok (.getstatic 163, 3) := by decide +kernel
theorem d1_25 : decode prog_68_method_8_code 25 = .ok (.iload_n 3, 1) := by decide +kernel
theorem d1_26 : decode prog_68_method_8_code 26 = .ok (.iaload, 1) := by decide +kernel
theorem d1_27 : decode prog_68_method_8_code 27 = .ok (.istore 6, 2) := by decide +kernel
theorem d1_29 : decode prog_68_method_8_code 29 = .ok (.iconst 1, 1) := by decide +kernel
theorem d1_30 : decode prog_68_method_8_code 30 = .ok (.istore 7, 2) := by decide +kernel
theorem d1_32 : decode prog_68_method_8_code 32 = .ok (.iload 7, 2) := by decide +kernel
theorem d1_34 : decode prog_68_method_8_code 34 = .ok (.iload 4, 2) := by decide +kernel
theorem d1_36 : decode prog_68_method_8_code 36 = .ok (.if_icmp .ge 56, 3) := by decide +kernel
theorem d1_39 : decode prog_68_method_8_code 39 = .ok (.iload_n 1, 1) := by decide +kernel
theorem d1_40 : decode prog_68_method_8_code 40 = .ok (.iload 7, 2) := by decide +kernel
theorem d1_42 : decode prog_68_method_8_code 42 = .ok (.iadd, 1) := by decide +kernel
theorem d1_43 : decode prog_68_method_8_code 43 = .ok (.iload_n 2, 1) := by decide +kernel
theorem d1_44 : decode prog_68_method_8_code 44 = .ok (.if_icmp .ge 48, 3) := by decide +kernel
theorem d1_47 : decode prog_68_method_8_code 47 = .ok (.aload_n 0, 1) := by decide +kernel
theorem d1_48 : decode prog_68_method_8_code 48 = .ok (.iload_n 1, 1) := by decide +kernel
theorem d1_49 : decode prog_68_method_8_code 49 = .ok (.iload 7, 2) := by decide +kernel
theorem d1_51 : decode prog_68_method_8_code 51 = .ok (.iadd, 1) := by decide +kernel
theorem d1_52 : decode prog_68_method_8_code 52 = .ok (.baload, 1) := by decide +kernel
theorem d1_53 : decode prog_68_method_8_code 53 = .ok (.sipush 255, 3) := by decide +kernel
theorem d1_56 : decode prog_68_method_8_code 56 = .ok (.iand, 1) := by decide +kernel
theorem d1_57 : decode prog_68_method_8_code 57 = .ok (.istore 8, 2) := by decide +kernel
theorem d1_59 : decode prog_68_method_8_code 59 = .ok (.iload 8, 2) := by decide +kernel
theorem d1_61 : decode prog_68_method_8_code 61 = .ok (.iload 5, 2) := by decide +kernel
theorem d1_63 : decode prog_68_method_8_code 63 = .ok (.if_icmp .lt 29, 3) := by decide +kernel
theorem d1_66 : decode prog_68_method_8_code 66 = .ok (.iload 8, 2) := by decide +kernel
theorem d1_68 : decode prog_68_method_8_code 68 = .ok (.iload 6, 2) := by decide +kernel
theorem d1_70 : decode prog_68_method_8_code 70 = .ok (.if_icmp .le 6, 3) := by decide +kernel
theorem d1_73 : decode prog_68_method_8_code 73 = .ok (.goto 19, 3) := by decide +kernel
theorem d1_76 : decode prog_68_method_8_code 76 = .ok (.iinc 7 1, 3) := by decide +kernel
theorem d1_79 : decode prog_68_method_8_code 79 = .ok (.sipush 128, 3) := by decide +kernel
theorem d1_82 : decode prog_68_method_8_code 82 = .ok (.istore 5, 2) := by decide +kernel
theorem d1_84 : decode prog_68_method_8_code 84 = .ok (.sipush 191, 3) := by decide +kernel
theorem d1_87 : decode prog_68_method_8_code 87 = .ok (.istore 6, 2) := by decide +kernel
theorem d1_89 : decode prog_68_method_8_code 89 = .ok (.goto (-57), 3) := by decide +kernel
theorem d1_92 : decode prog_68_method_8_code 92 = .ok (.iload 7, 2) := by decide +kernel
theorem d1_94 : decode prog_68_method_8_code 94 = .ok (.ireturn, 1) := by decide +kernel

theorem d2_0 : decode method_4_code 0 = .ok (.iload_n 0, 1) := by decide +kernel
theorem d2_1 : decode method_4_code 1 = .ok (.sipush 128, 3) := by decide +kernel
theorem d2_4 : decode method_4_code 4 = .ok (.if_icmp .ge 9, 3) := by decide +kernel
theorem d2_7 : decode method_4_code 7 = .ok (.iconst 1, 1) := by decide +kernel
theorem d2_8 : decode method_4_code 8 = .ok (.istore 5, 2) := by decide +kernel
theorem d2_10 : decode method_4_code 10 = .ok (.goto 58, 3) := by decide +kernel
theorem d2_13 : decode method_4_code 13 = .ok (.iload_n 0, 1) := by decide +kernel
theorem d2_14 : decode method_4_code 14 = .ok (.sipush 194, 3) := by decide +kernel
theorem d2_17 : decode method_4_code 17 = .ok (.if_icmp .ge 9, 3) := by decide +kernel
theorem d2_20 : decode method_4_code 20 = .ok (.iconst 0, 1) := by decide +kernel
theorem d2_21 : decode method_4_code 21 = .ok (.istore 5, 2) := by decide +kernel
theorem d2_23 : decode method_4_code 23 = .ok (.goto 45, 3) := by decide +kernel
theorem d2_26 : decode method_4_code 26 = .ok (.iload_n 0, 1) := by decide +kernel
theorem d2_27 : decode method_4_code 27 = .ok (.sipush 223, 3) := by decide +kernel
theorem d2_30 : decode method_4_code 30 = .ok (.if_icmp .gt 9, 3) := by decide +kernel
theorem d2_33 : decode method_4_code 33 = .ok (.iconst 2, 1) := by decide +kernel
theorem d2_34 : decode method_4_code 34 = .ok (.istore 5, 2) := by decide +kernel
theorem d2_36 : decode method_4_code 36 = .ok (.goto 32, 3) := by decide +kernel
theorem d2_39 : decode method_4_code 39 = .ok (.iload_n 0, 1) := by decide +kernel
theorem d2_40 : decode method_4_code 40 = .ok (.sipush 239, 3) := by decide +kernel
theorem d2_43 : decode method_4_code 43 = .ok (.if_icmp .gt 9, 3) := by decide +kernel
theorem d2_46 : decode method_4_code 46 = .ok (.iconst 3, 1) := by decide +kernel
theorem d2_47 : decode method_4_code 47 = .ok (.istore 5, 2) := by decide +kernel
theorem d2_49 : decode method_4_code 49 = .ok (.goto 19, 3) := by decide +kernel
theorem d2_52 : decode method_4_code 52 = .ok (.iload_n 0, 1) := by decide +kernel
theorem d2_53 : decode method_4_code 53 = .ok (.sipush 244, 3) := by decide +kernel
theorem d2_56 : decode method_4_code 56 = .ok (.if_icmp .gt 9, 3) := by decide +kernel
theorem d2_59 : decode method_4_code 59 = .ok (.iconst 4, 1) := by decide +kernel
theorem d2_60 : decode method_4_code 60 = .ok (.istore 5, 2) := by decide +kernel
theorem d2_62 : decode method_4_code 62 = .ok (.goto 6, 3) := by decide +kernel
theorem d2_65 : decode method_4_code 65 = .ok (.iconst 0, 1) := by decide +kernel
theorem d2_66 : decode method_4_code 66 = .ok (.istore 5, 2) := by decide +kernel
theorem d2_68 : decode method_4_code 68 = .ok (.sipush 128, 3) := by decide +kernel
theorem d2_71 : decode method_4_code 71 = .ok (.istore 6, 2) := by decide +kernel
theorem d2_73 : decode method_4_code 73 = .ok (.iload_n 0, 1) := by decide +kernel
theorem d2_74 : decode method_4_code 74 = .ok (.sipush 224, 3) := by decide +kernel
theorem d2_77 : decode method_4_code 77 = .ok (.if_icmp .ne 11, 3) := by decide +kernel
theorem d2_80 : decode method_4_code 80 = .ok (.sipush 160, 3) := by decide +kernel
theorem d2_83 : decode method_4_code 83 = .ok (.istore 6, 2) := by decide +kernel
theorem d2_85 : decode method_4_code 85 = .ok (.goto 15, 3) := by decide +kernel
theorem d2_88 : decode method_4_code 88 = .ok (.iload_n 0, 1) := by decide +kernel
theorem d2_89 : decode method_4_code 89 = .ok (.sipush 240, 3) := by decide +kernel
theorem d2_92 : decode method_4_code 92 = .ok (.if_icmp .ne 8, 3) := by decide +kernel
theorem d2_95 : decode method_4_code 95 = .ok (.sipush 144, 3) := by decide +kernel
theorem d2_98 : decode method_4_code 98 = .ok (.istore 6, 2) := by decide +kernel
theorem d2_100 : decode method_4_code 100 = .ok (.sipush 191, 3) := by decide +kernel
theorem d2_103 : decode method_4_code 103 = .ok (.istore 7, 2) := by decide +kernel
theorem d2_105 : decode method_4_code 105 = .ok (.iload_n 0, 1) := by decide +kernel
theorem d2_106 : decode method_4_code 106 = .ok (.sipush 237, 3) := by decide +kernel
theorem d2_109 : decode method_4_code 109 = .ok (.if_icmp .ne 11, 3) := by decide +kernel
theorem d2_112 : decode method_4_code 112 = .ok (.sipush 159, 3) := by decide +kernel
theorem d2_115 : decode method_4_code 115 = .ok (.istore 7, 2) := by decide +kernel
theorem d2_117 : decode method_4_code 117 = .ok (.goto 15, 3) := by decide +kernel
theorem d2_120 : decode method_4_code 120 = .ok (.iload_n 0, 1) := by decide +kernel
theorem d2_121 : decode method_4_code 121 = .ok (.sipush 244, 3) := by decide +kernel
theorem d2_124 : decode method_4_code 124 = .ok (.if_icmp .ne 8, 3) := by decide +kernel
theorem d2_127 : decode method_4_code 127 = .ok (.sipush 143, 3) := by decide +kernel
theorem d2_130 : decode method_4_code 130 = .ok (.istore 7, 2) := by decide +kernel
theorem d2_132 : decode method_4_code 132 = .ok (.iload 5, 2) := by decide +kernel
theorem d2_134 : decode method_4_code 134 = .ok (.iconst 2, 1) := by decide +kernel
theorem d2_135 : decode method_4_code 135 = .ok (.if_icmp .lt 21, 3) := by decide +kernel
theorem d2_138 : decode method_4_code 138 = .ok (.iload 4, 2) := by decide +kernel
theorem d2_140 : decode method_4_code 140 = .ok (.iconst 2, 1) := by decide +kernel
theorem d2_141 : decode method_4_code 141 = .ok (.if_icmp .lt 15, 3) := by decide +kernel
theorem d2_144 : decode method_4_code 144 = .ok (.iload_n 1, 1) := by decide +kernel
theorem d2_145 : decode method_4_code 145 = .ok (.iload 6, 2) := by decide +kernel
theorem d2_147 : decode method_4_code 147 = .ok (.if_icmp .lt 9, 3) := by decide +kernel
theorem d2_150 : decode method_4_code 150 = .ok (.iload_n 1, 1) := by decide +kernel
theorem d2_151 : decode method_4_code 151 = .ok (.iload 7, 2) := by decide +kernel
theorem d2_153 : decode method_4_code 153 = .ok (.if_icmp .le 5, 3) := by decide +kernel
theorem d2_156 : decode method_4_code 156 = .ok (.iconst 1, 1) := by decide +kernel
theorem d2_157 : decode method_4_code 157 = .ok (.ireturn, 1) := by decide +kernel
theorem d2_158 : decode method_4_code 158 = .ok (.iload 5, 2) := by decide +kernel
theorem d2_160 : decode method_4_code 160 = .ok (.iconst 3, 1) := by decide +kernel
theorem d2_161 : decode method_4_code 161 = .ok (.if_icmp .lt 16, 3) := by decide +kernel
theorem d2_164 : decode method_4_code 164 = .ok (.iload 4, 2) := by decide +kernel
theorem d2_166 : decode method_4_code 166 = .ok (.iconst 3, 1) := by decide +kernel
theorem d2_167 : decode method_4_code 167 = .ok (.if_icmp .lt 10, 3) := by decide +kernel
theorem d2_170 : decode method_4_code 170 = .ok (.iload_n 2, 1) := by decide +kernel
theorem d2_171 : decode method_4_code 171 = .ok (.invokestatic 19, 3) := by decide +kernel
theorem d2_174 : decode method_4_code 174 = .ok (.ifCond .ne 5, 3) := by decide +kernel
theorem d2_177 : decode method_4_code 177 = .ok (.iconst 2, 1) := by decide +kernel
theorem d2_178 : decode method_4_code 178 = .ok (.ireturn, 1) := by decide +kernel
theorem d2_179 : decode method_4_code 179 = .ok (.iload 5, 2) := by decide +kernel
theorem d2_181 : decode method_4_code 181 = .ok (.iconst 4, 1) := by decide +kernel
theorem d2_182 : decode method_4_code 182 = .ok (.if_icmp .lt 16, 3) := by decide +kernel
theorem d2_185 : decode method_4_code 185 = .ok (.iload 4, 2) := by decide +kernel
theorem d2_187 : decode method_4_code 187 = .ok (.iconst 4, 1) := by decide +kernel
theorem d2_188 : decode method_4_code 188 = .ok (.if_icmp .lt 10, 3) := by decide +kernel
theorem d2_191 : decode method_4_code 191 = .ok (.iload_n 3, 1) := by decide +kernel
theorem d2_192 : decode method_4_code 192 = .ok (.invokestatic 19, 3) := by decide +kernel
theorem d2_195 : decode method_4_code 195 = .ok (.ifCond .ne 5, 3) := by decide +kernel
theorem d2_198 : decode method_4_code 198 = .ok (.iconst 3, 1) := by decide +kernel
theorem d2_199 : decode method_4_code 199 = .ok (.ireturn, 1) := by decide +kernel
theorem d2_200 : decode method_4_code 200 = .ok (.iconst 4, 1) := by decide +kernel
theorem d2_201 : decode method_4_code 201 = .ok (.ireturn, 1) := by decide +kernel

theorem d3_0 : decode method_3_code 0 = .ok (.iload_n 0, 1) := by decide +kernel
theorem d3_1 : decode method_3_code 1 = .ok (.sipush 128, 3) := by decide +kernel
theorem d3_4 : decode method_3_code 4 = .ok (.if_icmp .lt 14, 3) := by decide +kernel
theorem d3_7 : decode method_3_code 7 = .ok (.iload_n 0, 1) := by decide +kernel
theorem d3_8 : decode method_3_code 8 = .ok (.sipush 191, 3) := by decide +kernel
theorem d3_11 : decode method_3_code 11 = .ok (.if_icmp .gt 7, 3) := by decide +kernel
theorem d3_14 : decode method_3_code 14 = .ok (.iconst 1, 1) := by decide +kernel
theorem d3_15 : decode method_3_code 15 = .ok (.goto 4, 3) := by decide +kernel
theorem d3_18 : decode method_3_code 18 = .ok (.iconst 0, 1) := by decide +kernel
theorem d3_19 : decode method_3_code 19 = .ok (.ireturn, 1) := by decide +kernel

theorem pn_0 : plainName "com/example/nearprint/nearprint/cli/Utf8ReaderWellFormedPinLaw" = true := by first | (simp [plainName, overriddenIn]; done) | decide +kernel

theorem pn_1 : plainName "com/example/nearprint/nearprint/cli/Utf8Reader" = true := by first | (simp [plainName, overriddenIn]; done) | decide +kernel

theorem pd_1 : parseMethodDescriptor "([BII)I" = some ⟨[(.array .byte), .int, .int], some .int⟩ := by decide +kernel

theorem pd_2 : parseMethodDescriptor "(IIIII)I" = some ⟨[.int, .int, .int, .int, .int], some .int⟩ := by decide +kernel

theorem pd_3 : parseMethodDescriptor "(I)Z" = some ⟨[.int], some .boolean⟩ := by decide +kernel

theorem ef_1 (m : MethodId) (x0 : Addr) (x1 : Int32) (x2 : Int32)  : entryFrame m #[(.ref x0), (.int x1), (.int x2)] 9 = mkF m 0 #[.val (.ref x0), .val (.int x1), .val (.int x2), .unset, .unset, .unset, .unset, .unset, .unset] [] := by first | (simp [entryFrame, mkF, argsToLocals, Value.category]; done) | rfl
def Q1 (Z : State) (a1 wl wo wh : Addr) (cl cL cO cH : Cell) (y0 y1 y2 y3 ln lo hi p1 p2 : Int32) (h0 : Heap) (n0 : Nat) (v : Option Value) (h : Heap) (L : List Loc) : Prop := v = some (.int (own_wf p1 p2 ln lo hi (y1 &&& (255 : Int32)) (y2 &&& (255 : Int32)) (y3 &&& (255 : Int32)))) ∧ Fr n0 L ∧ h = h0
set_option maxRecDepth 65536 in
set_option maxHeartbeats 40000000 in
theorem rm1 (l : Launch) (Z : State) (a0 : Array Value) (hw : ∀ d ∈ tables_1, d.before a0 Z = true) (ws : List Jvm.Cond) (a1 wl wo wh : Addr) (cl cL cO cH : Cell) (y0 y1 y2 y3 ln lo hi p1 p2 : Int32) (h0 : Heap) (n0 : Nat) (Z0 : n0 ≤ h0.size) (S1 : Sta Z h0 "com/example/nearprint/nearprint/cli/Utf8Reader" "LENGTHS" "[B" (.ref wl)) (S2 : Sta Z h0 "com/example/nearprint/nearprint/cli/Utf8Reader" "FIRST_LOW" "[I" (.ref wo)) (S3 : Sta Z h0 "com/example/nearprint/nearprint/cli/Utf8Reader" "FIRST_HIGH" "[I" (.ref wh)) (A : Arr Z h0 a1 cl .byte) (AL : Arr Z h0 wl cL .byte) (AO : Arr Z h0 wo cO .int) (AH : Arr Z h0 wh cH .int) (r0 : own_rd cl p1 y0) (rL : own_rd cL (y0 &&& (255 : Int32)) ln) (rO : own_rd cO (y0 &&& (255 : Int32)) lo) (rH : own_rd cH (y0 &&& (255 : Int32)) hi) (r1 : own_rd cl (p1 + (1 : Int32)) y1) (r2 : own_rd cl (p1 + ((1 : Int32) + (1 : Int32))) y2) (r3 : own_rd cl (p1 + (((1 : Int32) + (1 : Int32)) + (1 : Int32))) y3) (hl4 : ¬ ((((1 : Int32) + (1 : Int32)) + (1 : Int32)) + (1 : Int32) < ln)) :
    MetFree l (⟨"com/example/nearprint/nearprint/cli/Utf8Reader", "wellFormed", "([BII)I"⟩ : MethodName) (head1 (Jvm.Cond.code (⟨"com/example/nearprint/nearprint/cli/Utf8Reader", "wellFormed", "([BII)I"⟩ : MethodName) prog_68_method_8_code 9 (some .int) :: ws) ({ frames := 0, cells := 0, slots := 0, locals := 0 } : Room)) (fun a U => a = #[(.ref a1), (.int p1), (.int p2)] ∧ Z.Warmed39 U.vm ∧ U.heap = h0) (fun _ _ _ _ _ => True) (fun _ U o U' => ∃ v L, o = .returned v ∧ Q1 Z a1 wl wo wh cl cL cO cH y0 y1 y2 y3 ln lo hi p1 p2 h0 n0 v U'.heap L ∧ FrameEnd U o U' L ({ frames := 0, cells := 0, slots := 0, locals := 0 } : Room).cells ({ frames := 0, cells := 0, slots := 0, locals := 0 } : Room).slots) := by
  refine MetFree.of_bodySF (plainFor_of_name pn_1) hisR ?_
  intro p e s m args below meth c s₁ Bd hml0 hP hK
  obtain ⟨rfl, hZ, hh⟩ := hP
  have hx := Bd.exec
  have hby := Bd.bytes
  have hml : c.maxLocals = 9 := hml0
  have hown : s.vm.findClass "com/example/nearprint/nearprint/cli/Utf8Reader" = some m.cls := findClass_of_methodNamed Bd.named
  have hnm := (name_of_methodNamed Bd.named Bd.method).1
  have X0 : Stand p l e ({ frames := 0, cells := 0, slots := 0, locals := 0 } : Room) s m #[(.ref a1), (.int p1), (.int p2)] below meth c s₁ [] 0 0 := Stand.of_body Bd
  have e0 : s₁.heap = h0 := by rw [← hh, Bd.state]; rfl
  have N0 := Fr.nil n0
  have pre0 : ∀ t, Steps p.tables e below (s₁.setTop (mkF m 0 #[.val (.ref a1), .val (.int p1), .val (.int p2), .unset, .unset, .unset, .unset, .unset, .unset] [])) t → Steps p.tables e below (s₁.setTop (entryFrame m #[(.ref a1), (.int p1), (.int p2)] 9)) t := fun t k => castTop (ef_1 m a1 p1 p2) k
  obtain ⟨T1, X1, e1, st1⟩ := getS2 X0 hx hZ hown (host := "") (Or.inl (hw _ (List.mem_of_getElem? (i := 5) rfl))) Via.refl e0 S1 (g := (mkF m 8 #[.val (.ref a1), .val (.int p1), .val (.int p2), .val (.int (y0 &&& (255 : Int32))), .unset, .unset, .unset, .unset, .unset] [])) rfl (hb hby d1_8)
  obtain ⟨T2, X2, e2, st2⟩ := getS2 X1 hx hZ hown (host := "") (Or.inl (hw _ (List.mem_of_getElem? (i := 7) rfl))) Via.refl e1 S2 (g := (mkF m 15 #[.val (.ref a1), .val (.int p1), .val (.int p2), .val (.int (y0 &&& (255 : Int32))), .val (.int ln), .unset, .unset, .unset, .unset] [])) rfl (hb hby d1_15)
  obtain ⟨T3, X3, e3, st3⟩ := getS2 X2 hx hZ hown (host := "") (Or.inl (hw _ (List.mem_of_getElem? (i := 9) rfl))) Via.refl e2 S3 (g := (mkF m 22 #[.val (.ref a1), .val (.int p1), .val (.int p2), .val (.int (y0 &&& (255 : Int32))), .val (.int ln), .val (.int lo), .unset, .unset, .unset] [])) rfl (hb hby d1_22)
  have pre4 : ∀ t, Steps p.tables e below (T3.setTop (mkF m 36 #[.val (.ref a1), .val (.int p1), .val (.int p2), .val (.int (y0 &&& (255 : Int32))), .val (.int ln), .val (.int lo), .val (.int hi), .val (.int (1 : Int32)), .unset] [(.int ln), (.int (1 : Int32))])) t → Steps p.tables e below (s₁.setTop (entryFrame m #[(.ref a1), (.int p1), (.int p2)] 9)) t := fun t k => pre0 t (by
    show Steps p.tables e below (s₁.setTop (mkF m 0 #[.val (.ref a1), .val (.int p1), .val (.int p2), .unset, .unset, .unset, .unset, .unset, .unset] [])) _
    refine XS.aloadN X0.here hx rfl (hb hby d1_0) rfl rfl ?_
    show Steps p.tables e below (s₁.setTop (mkF m 1 #[.val (.ref a1), .val (.int p1), .val (.int p2), .unset, .unset, .unset, .unset, .unset, .unset] [(.ref a1)])) _
    refine XS.iloadN X0.here hx rfl (hb hby d1_1) rfl ?_
    show Steps p.tables e below (s₁.setTop (mkF m 2 #[.val (.ref a1), .val (.int p1), .val (.int p2), .unset, .unset, .unset, .unset, .unset, .unset] [(.int p1), (.ref a1)])) _
    refine X0.baloadBytes hx (j := p1) (v := (.int y0)) (by rw [e0]; exact A.1) (State.isArrayOf_alike hZ.alike A.2.1) A.2.2 r0.1 r0.2 (g := (mkF m 2 #[.val (.ref a1), .val (.int p1), .val (.int p2), .unset, .unset, .unset, .unset, .unset, .unset] [(.int p1), (.ref a1)])) rfl rfl (hb hby d1_2) _ ?_
    show Steps p.tables e below (s₁.setTop (mkF m 3 #[.val (.ref a1), .val (.int p1), .val (.int p2), .unset, .unset, .unset, .unset, .unset, .unset] [(.int y0)])) _
    refine XS.sipush X0.here hx rfl (hb hby d1_3) ?_
    show Steps p.tables e below (s₁.setTop (mkF m 6 #[.val (.ref a1), .val (.int p1), .val (.int p2), .unset, .unset, .unset, .unset, .unset, .unset] [(.int (255 : Int32)), (.int y0)])) _
    refine XS.iand X0.here hx rfl (hb hby d1_6) rfl ?_
    show Steps p.tables e below (s₁.setTop (mkF m 7 #[.val (.ref a1), .val (.int p1), .val (.int p2), .unset, .unset, .unset, .unset, .unset, .unset] [(.int (y0 &&& (255 : Int32)))])) _
    refine XS.istoreN X0.here hx rfl (hb hby d1_7) rfl (l' := #[.val (.ref a1), .val (.int p1), .val (.int p2), .val (.int (y0 &&& (255 : Int32))), .unset, .unset, .unset, .unset, .unset]) rfl ?_
    show Steps p.tables e below (s₁.setTop (mkF m 8 #[.val (.ref a1), .val (.int p1), .val (.int p2), .val (.int (y0 &&& (255 : Int32))), .unset, .unset, .unset, .unset, .unset] [])) _
    refine st1 _ ?_
    show Steps p.tables e below (T1.setTop (mkF m 11 #[.val (.ref a1), .val (.int p1), .val (.int p2), .val (.int (y0 &&& (255 : Int32))), .unset, .unset, .unset, .unset, .unset] [(.ref wl)])) _
    refine XS.iloadN X1.here hx rfl (hb hby d1_11) rfl ?_
    show Steps p.tables e below (T1.setTop (mkF m 12 #[.val (.ref a1), .val (.int p1), .val (.int p2), .val (.int (y0 &&& (255 : Int32))), .unset, .unset, .unset, .unset, .unset] [(.int (y0 &&& (255 : Int32))), (.ref wl)])) _
    refine X1.baloadBytes hx (j := (y0 &&& (255 : Int32))) (v := (.int ln)) (by rw [e1]; exact AL.1) (State.isArrayOf_alike hZ.alike AL.2.1) AL.2.2 rL.1 rL.2 (g := (mkF m 12 #[.val (.ref a1), .val (.int p1), .val (.int p2), .val (.int (y0 &&& (255 : Int32))), .unset, .unset, .unset, .unset, .unset] [(.int (y0 &&& (255 : Int32))), (.ref wl)])) rfl rfl (hb hby d1_12) _ ?_
    show Steps p.tables e below (T1.setTop (mkF m 13 #[.val (.ref a1), .val (.int p1), .val (.int p2), .val (.int (y0 &&& (255 : Int32))), .unset, .unset, .unset, .unset, .unset] [(.int ln)])) _
    refine XS.istore X1.here hx rfl (hb hby d1_13) rfl (l' := #[.val (.ref a1), .val (.int p1), .val (.int p2), .val (.int (y0 &&& (255 : Int32))), .val (.int ln), .unset, .unset, .unset, .unset]) rfl ?_
    show Steps p.tables e below (T1.setTop (mkF m 15 #[.val (.ref a1), .val (.int p1), .val (.int p2), .val (.int (y0 &&& (255 : Int32))), .val (.int ln), .unset, .unset, .unset, .unset] [])) _
    refine st2 _ ?_
    show Steps p.tables e below (T2.setTop (mkF m 18 #[.val (.ref a1), .val (.int p1), .val (.int p2), .val (.int (y0 &&& (255 : Int32))), .val (.int ln), .unset, .unset, .unset, .unset] [(.ref wo)])) _
    refine XS.iloadN X2.here hx rfl (hb hby d1_18) rfl ?_
    show Steps p.tables e below (T2.setTop (mkF m 19 #[.val (.ref a1), .val (.int p1), .val (.int p2), .val (.int (y0 &&& (255 : Int32))), .val (.int ln), .unset, .unset, .unset, .unset] [(.int (y0 &&& (255 : Int32))), (.ref wo)])) _
    refine X2.iaload hx (j := (y0 &&& (255 : Int32))) (v := (.int lo)) (by rw [e2]; exact AO.1) (State.isArrayOf_alike hZ.alike AO.2.1) AO.2.2 rO.1 rO.2 (g := (mkF m 19 #[.val (.ref a1), .val (.int p1), .val (.int p2), .val (.int (y0 &&& (255 : Int32))), .val (.int ln), .unset, .unset, .unset, .unset] [(.int (y0 &&& (255 : Int32))), (.ref wo)])) rfl rfl (hb hby d1_19) _ ?_
    show Steps p.tables e below (T2.setTop (mkF m 20 #[.val (.ref a1), .val (.int p1), .val (.int p2), .val (.int (y0 &&& (255 : Int32))), .val (.int ln), .unset, .unset, .unset, .unset] [(.int lo)])) _
    refine XS.istore X2.here hx rfl (hb hby d1_20) rfl (l' := #[.val (.ref a1), .val (.int p1), .val (.int p2), .val (.int (y0 &&& (255 : Int32))), .val (.int ln), .val (.int lo), .unset, .unset, .unset]) rfl ?_
    show Steps p.tables e below (T2.setTop (mkF m 22 #[.val (.ref a1), .val (.int p1), .val (.int p2), .val (.int (y0 &&& (255 : Int32))), .val (.int ln), .val (.int lo), .unset, .unset, .unset] [])) _
    refine st3 _ ?_
    show Steps p.tables e below (T3.setTop (mkF m 25 #[.val (.ref a1), .val (.int p1), .val (.int p2), .val (.int (y0 &&& (255 : Int32))), .val (.int ln), .val (.int lo), .unset, .unset, .unset] [(.ref wh)])) _
    refine XS.iloadN X3.here hx rfl (hb hby d1_25) rfl ?_
    show Steps p.tables e below (T3.setTop (mkF m 26 #[.val (.ref a1), .val (.int p1), .val (.int p2), .val (.int (y0 &&& (255 : Int32))), .val (.int ln), .val (.int lo), .unset, .unset, .unset] [(.int (y0 &&& (255 : Int32))), (.ref wh)])) _
    refine X3.iaload hx (j := (y0 &&& (255 : Int32))) (v := (.int hi)) (by rw [e3]; exact AH.1) (State.isArrayOf_alike hZ.alike AH.2.1) AH.2.2 rH.1 rH.2 (g := (mkF m 26 #[.val (.ref a1), .val (.int p1), .val (.int p2), .val (.int (y0 &&& (255 : Int32))), .val (.int ln), .val (.int lo), .unset, .unset, .unset] [(.int (y0 &&& (255 : Int32))), (.ref wh)])) rfl rfl (hb hby d1_26) _ ?_
    show Steps p.tables e below (T3.setTop (mkF m 27 #[.val (.ref a1), .val (.int p1), .val (.int p2), .val (.int (y0 &&& (255 : Int32))), .val (.int ln), .val (.int lo), .unset, .unset, .unset] [(.int hi)])) _
    refine XS.istore X3.here hx rfl (hb hby d1_27) rfl (l' := #[.val (.ref a1), .val (.int p1), .val (.int p2), .val (.int (y0 &&& (255 : Int32))), .val (.int ln), .val (.int lo), .val (.int hi), .unset, .unset]) rfl ?_
    show Steps p.tables e below (T3.setTop (mkF m 29 #[.val (.ref a1), .val (.int p1), .val (.int p2), .val (.int (y0 &&& (255 : Int32))), .val (.int ln), .val (.int lo), .val (.int hi), .unset, .unset] [])) _
    refine XS.iconst X3.here hx rfl (hb hby d1_29) ?_
    show Steps p.tables e below (T3.setTop (mkF m 30 #[.val (.ref a1), .val (.int p1), .val (.int p2), .val (.int (y0 &&& (255 : Int32))), .val (.int ln), .val (.int lo), .val (.int hi), .unset, .unset] [(.int (1 : Int32))])) _
    refine XS.istore X3.here hx rfl (hb hby d1_30) rfl (l' := #[.val (.ref a1), .val (.int p1), .val (.int p2), .val (.int (y0 &&& (255 : Int32))), .val (.int ln), .val (.int lo), .val (.int hi), .val (.int (1 : Int32)), .unset]) rfl ?_
    show Steps p.tables e below (T3.setTop (mkF m 32 #[.val (.ref a1), .val (.int p1), .val (.int p2), .val (.int (y0 &&& (255 : Int32))), .val (.int ln), .val (.int lo), .val (.int hi), .val (.int (1 : Int32)), .unset] [])) _
    refine XS.iload X3.here hx rfl (hb hby d1_32) rfl ?_
    show Steps p.tables e below (T3.setTop (mkF m 34 #[.val (.ref a1), .val (.int p1), .val (.int p2), .val (.int (y0 &&& (255 : Int32))), .val (.int ln), .val (.int lo), .val (.int hi), .val (.int (1 : Int32)), .unset] [(.int (1 : Int32))])) _
    refine XS.iload X3.here hx rfl (hb hby d1_34) rfl ?_
    exact k)
  by_cases hc36 : (1 : Int32) < ln
  · have pre5 : ∀ t, Steps p.tables e below (T3.setTop (mkF m 44 #[.val (.ref a1), .val (.int p1), .val (.int p2), .val (.int (y0 &&& (255 : Int32))), .val (.int ln), .val (.int lo), .val (.int hi), .val (.int (1 : Int32)), .unset] [(.int p2), (.int (p1 + (1 : Int32)))])) t → Steps p.tables e below (s₁.setTop (entryFrame m #[(.ref a1), (.int p1), (.int p2)] 9)) t := fun t k => pre4 t (by
      show Steps p.tables e below (T3.setTop (mkF m 36 #[.val (.ref a1), .val (.int p1), .val (.int p2), .val (.int (y0 &&& (255 : Int32))), .val (.int ln), .val (.int lo), .val (.int hi), .val (.int (1 : Int32)), .unset] [(.int ln), (.int (1 : Int32))])) _
      refine XS.icmpNo X3.here hx rfl (hb hby d1_36) rfl (tlt hc36).2.1 ?_
      show Steps p.tables e below (T3.setTop (mkF m 39 #[.val (.ref a1), .val (.int p1), .val (.int p2), .val (.int (y0 &&& (255 : Int32))), .val (.int ln), .val (.int lo), .val (.int hi), .val (.int (1 : Int32)), .unset] [])) _
      refine XS.iloadN X3.here hx rfl (hb hby d1_39) rfl ?_
      show Steps p.tables e below (T3.setTop (mkF m 40 #[.val (.ref a1), .val (.int p1), .val (.int p2), .val (.int (y0 &&& (255 : Int32))), .val (.int ln), .val (.int lo), .val (.int hi), .val (.int (1 : Int32)), .unset] [(.int p1)])) _
      refine XS.iload X3.here hx rfl (hb hby d1_40) rfl ?_
      show Steps p.tables e below (T3.setTop (mkF m 42 #[.val (.ref a1), .val (.int p1), .val (.int p2), .val (.int (y0 &&& (255 : Int32))), .val (.int ln), .val (.int lo), .val (.int hi), .val (.int (1 : Int32)), .unset] [(.int (1 : Int32)), (.int p1)])) _
      refine XS.iadd X3.here hx rfl (hb hby d1_42) rfl ?_
      show Steps p.tables e below (T3.setTop (mkF m 43 #[.val (.ref a1), .val (.int p1), .val (.int p2), .val (.int (y0 &&& (255 : Int32))), .val (.int ln), .val (.int lo), .val (.int hi), .val (.int (1 : Int32)), .unset] [(.int (p1 + (1 : Int32)))])) _
      refine XS.iloadN X3.here hx rfl (hb hby d1_43) rfl ?_
      exact k)
    by_cases hc44 : (p1 + (1 : Int32)) < p2
    · have pre6 : ∀ t, Steps p.tables e below (T3.setTop (mkF m 63 #[.val (.ref a1), .val (.int p1), .val (.int p2), .val (.int (y0 &&& (255 : Int32))), .val (.int ln), .val (.int lo), .val (.int hi), .val (.int (1 : Int32)), .val (.int (y1 &&& (255 : Int32)))] [(.int lo), (.int (y1 &&& (255 : Int32)))])) t → Steps p.tables e below (s₁.setTop (entryFrame m #[(.ref a1), (.int p1), (.int p2)] 9)) t := fun t k => pre5 t (by
        show Steps p.tables e below (T3.setTop (mkF m 44 #[.val (.ref a1), .val (.int p1), .val (.int p2), .val (.int (y0 &&& (255 : Int32))), .val (.int ln), .val (.int lo), .val (.int hi), .val (.int (1 : Int32)), .unset] [(.int p2), (.int (p1 + (1 : Int32)))])) _
        refine XS.icmpNo X3.here hx rfl (hb hby d1_44) rfl (tlt hc44).2.1 ?_
        show Steps p.tables e below (T3.setTop (mkF m 47 #[.val (.ref a1), .val (.int p1), .val (.int p2), .val (.int (y0 &&& (255 : Int32))), .val (.int ln), .val (.int lo), .val (.int hi), .val (.int (1 : Int32)), .unset] [])) _
        refine XS.aloadN X3.here hx rfl (hb hby d1_47) rfl rfl ?_
        show Steps p.tables e below (T3.setTop (mkF m 48 #[.val (.ref a1), .val (.int p1), .val (.int p2), .val (.int (y0 &&& (255 : Int32))), .val (.int ln), .val (.int lo), .val (.int hi), .val (.int (1 : Int32)), .unset] [(.ref a1)])) _
        refine XS.iloadN X3.here hx rfl (hb hby d1_48) rfl ?_
        show Steps p.tables e below (T3.setTop (mkF m 49 #[.val (.ref a1), .val (.int p1), .val (.int p2), .val (.int (y0 &&& (255 : Int32))), .val (.int ln), .val (.int lo), .val (.int hi), .val (.int (1 : Int32)), .unset] [(.int p1), (.ref a1)])) _
        refine XS.iload X3.here hx rfl (hb hby d1_49) rfl ?_
        show Steps p.tables e below (T3.setTop (mkF m 51 #[.val (.ref a1), .val (.int p1), .val (.int p2), .val (.int (y0 &&& (255 : Int32))), .val (.int ln), .val (.int lo), .val (.int hi), .val (.int (1 : Int32)), .unset] [(.int (1 : Int32)), (.int p1), (.ref a1)])) _
        refine XS.iadd X3.here hx rfl (hb hby d1_51) rfl ?_
        show Steps p.tables e below (T3.setTop (mkF m 52 #[.val (.ref a1), .val (.int p1), .val (.int p2), .val (.int (y0 &&& (255 : Int32))), .val (.int ln), .val (.int lo), .val (.int hi), .val (.int (1 : Int32)), .unset] [(.int (p1 + (1 : Int32))), (.ref a1)])) _
        refine X3.baloadBytes hx (j := (p1 + (1 : Int32))) (v := (.int y1)) (by rw [e3]; exact A.1) (State.isArrayOf_alike hZ.alike A.2.1) A.2.2 r1.1 r1.2 (g := (mkF m 52 #[.val (.ref a1), .val (.int p1), .val (.int p2), .val (.int (y0 &&& (255 : Int32))), .val (.int ln), .val (.int lo), .val (.int hi), .val (.int (1 : Int32)), .unset] [(.int (p1 + (1 : Int32))), (.ref a1)])) rfl rfl (hb hby d1_52) _ ?_
        show Steps p.tables e below (T3.setTop (mkF m 53 #[.val (.ref a1), .val (.int p1), .val (.int p2), .val (.int (y0 &&& (255 : Int32))), .val (.int ln), .val (.int lo), .val (.int hi), .val (.int (1 : Int32)), .unset] [(.int y1)])) _
        refine XS.sipush X3.here hx rfl (hb hby d1_53) ?_
        show Steps p.tables e below (T3.setTop (mkF m 56 #[.val (.ref a1), .val (.int p1), .val (.int p2), .val (.int (y0 &&& (255 : Int32))), .val (.int ln), .val (.int lo), .val (.int hi), .val (.int (1 : Int32)), .unset] [(.int (255 : Int32)), (.int y1)])) _
        refine XS.iand X3.here hx rfl (hb hby d1_56) rfl ?_
        show Steps p.tables e below (T3.setTop (mkF m 57 #[.val (.ref a1), .val (.int p1), .val (.int p2), .val (.int (y0 &&& (255 : Int32))), .val (.int ln), .val (.int lo), .val (.int hi), .val (.int (1 : Int32)), .unset] [(.int (y1 &&& (255 : Int32)))])) _
        refine XS.istore X3.here hx rfl (hb hby d1_57) rfl (l' := #[.val (.ref a1), .val (.int p1), .val (.int p2), .val (.int (y0 &&& (255 : Int32))), .val (.int ln), .val (.int lo), .val (.int hi), .val (.int (1 : Int32)), .val (.int (y1 &&& (255 : Int32)))]) rfl ?_
        show Steps p.tables e below (T3.setTop (mkF m 59 #[.val (.ref a1), .val (.int p1), .val (.int p2), .val (.int (y0 &&& (255 : Int32))), .val (.int ln), .val (.int lo), .val (.int hi), .val (.int (1 : Int32)), .val (.int (y1 &&& (255 : Int32)))] [])) _
        refine XS.iload X3.here hx rfl (hb hby d1_59) rfl ?_
        show Steps p.tables e below (T3.setTop (mkF m 61 #[.val (.ref a1), .val (.int p1), .val (.int p2), .val (.int (y0 &&& (255 : Int32))), .val (.int ln), .val (.int lo), .val (.int hi), .val (.int (1 : Int32)), .val (.int (y1 &&& (255 : Int32)))] [(.int (y1 &&& (255 : Int32)))])) _
        refine XS.iload X3.here hx rfl (hb hby d1_61) rfl ?_
        exact k)
      by_cases hc63 : (y1 &&& (255 : Int32)) < lo
      · have pre7 : ∀ t, Steps p.tables e below (T3.setTop (mkF m 94 #[.val (.ref a1), .val (.int p1), .val (.int p2), .val (.int (y0 &&& (255 : Int32))), .val (.int ln), .val (.int lo), .val (.int hi), .val (.int (1 : Int32)), .val (.int (y1 &&& (255 : Int32)))] [(.int (1 : Int32))])) t → Steps p.tables e below (s₁.setTop (entryFrame m #[(.ref a1), (.int p1), (.int p2)] 9)) t := fun t k => pre6 t (by
          show Steps p.tables e below (T3.setTop (mkF m 63 #[.val (.ref a1), .val (.int p1), .val (.int p2), .val (.int (y0 &&& (255 : Int32))), .val (.int ln), .val (.int lo), .val (.int hi), .val (.int (1 : Int32)), .val (.int (y1 &&& (255 : Int32)))] [(.int lo), (.int (y1 &&& (255 : Int32)))])) _
          refine XS.icmpYes X3.here hx rfl (pc0 := 63) (pc' := 92) rfl (hb hby d1_63) rfl (tlt hc63).1 (by decide) (by decide) ?_
          show Steps p.tables e below (T3.setTop (mkF m 92 #[.val (.ref a1), .val (.int p1), .val (.int p2), .val (.int (y0 &&& (255 : Int32))), .val (.int ln), .val (.int lo), .val (.int hi), .val (.int (1 : Int32)), .val (.int (y1 &&& (255 : Int32)))] [])) _
          refine XS.iload X3.here hx rfl (hb hby d1_92) rfl ?_
          exact k)
        obtain ⟨fs8, hr8, hrun8, hended8, hW8, hsame8⟩ := X3.leave (v := some (.int (1 : Int32))) (fun h => by rw [Bd.returns] at h; cases h)
        refine ⟨_, _, pre7 _ ?_, hrun8, hended8, _, _, rfl, ?_, ⟨_, rfl⟩, hW8, hsame8.mono (by decide) (by decide)⟩
        · show Steps p.tables e below (T3.setTop (mkF m 94 #[.val (.ref a1), .val (.int p1), .val (.int p2), .val (.int (y0 &&& (255 : Int32))), .val (.int ln), .val (.int lo), .val (.int hi), .val (.int (1 : Int32)), .val (.int (y1 &&& (255 : Int32)))] [(.int (1 : Int32))])) _
          exact retOut X3 hx (t := .int) Bd.returns rfl (Or.inl ⟨rfl, Or.inl rfl, _, rfl⟩) (hb hby d1_94) hr8
        · show Q1 Z a1 wl wo wh cl cL cO cH y0 y1 y2 y3 ln lo hi p1 p2 h0 n0 _ T3.heap _
          rw [e3]
          exact ⟨by unfold own_wf; rw [if_pos hc36, if_pos hc44, if_pos hc63], N0, rfl⟩
      have pre9 : ∀ t, Steps p.tables e below (T3.setTop (mkF m 70 #[.val (.ref a1), .val (.int p1), .val (.int p2), .val (.int (y0 &&& (255 : Int32))), .val (.int ln), .val (.int lo), .val (.int hi), .val (.int (1 : Int32)), .val (.int (y1 &&& (255 : Int32)))] [(.int hi), (.int (y1 &&& (255 : Int32)))])) t → Steps p.tables e below (s₁.setTop (entryFrame m #[(.ref a1), (.int p1), (.int p2)] 9)) t := fun t k => pre6 t (by
        show Steps p.tables e below (T3.setTop (mkF m 63 #[.val (.ref a1), .val (.int p1), .val (.int p2), .val (.int (y0 &&& (255 : Int32))), .val (.int ln), .val (.int lo), .val (.int hi), .val (.int (1 : Int32)), .val (.int (y1 &&& (255 : Int32)))] [(.int lo), (.int (y1 &&& (255 : Int32)))])) _
        refine XS.icmpNo X3.here hx rfl (hb hby d1_63) rfl (flt hc63).1 ?_
        show Steps p.tables e below (T3.setTop (mkF m 66 #[.val (.ref a1), .val (.int p1), .val (.int p2), .val (.int (y0 &&& (255 : Int32))), .val (.int ln), .val (.int lo), .val (.int hi), .val (.int (1 : Int32)), .val (.int (y1 &&& (255 : Int32)))] [])) _
        refine XS.iload X3.here hx rfl (hb hby d1_66) rfl ?_
        show Steps p.tables e below (T3.setTop (mkF m 68 #[.val (.ref a1), .val (.int p1), .val (.int p2), .val (.int (y0 &&& (255 : Int32))), .val (.int ln), .val (.int lo), .val (.int hi), .val (.int (1 : Int32)), .val (.int (y1 &&& (255 : Int32)))] [(.int (y1 &&& (255 : Int32)))])) _
        refine XS.iload X3.here hx rfl (hb hby d1_68) rfl ?_
        exact k)
      by_cases hc70 : hi < (y1 &&& (255 : Int32))
      · have pre10 : ∀ t, Steps p.tables e below (T3.setTop (mkF m 94 #[.val (.ref a1), .val (.int p1), .val (.int p2), .val (.int (y0 &&& (255 : Int32))), .val (.int ln), .val (.int lo), .val (.int hi), .val (.int (1 : Int32)), .val (.int (y1 &&& (255 : Int32)))] [(.int (1 : Int32))])) t → Steps p.tables e below (s₁.setTop (entryFrame m #[(.ref a1), (.int p1), (.int p2)] 9)) t := fun t k => pre9 t (by
          show Steps p.tables e below (T3.setTop (mkF m 70 #[.val (.ref a1), .val (.int p1), .val (.int p2), .val (.int (y0 &&& (255 : Int32))), .val (.int ln), .val (.int lo), .val (.int hi), .val (.int (1 : Int32)), .val (.int (y1 &&& (255 : Int32)))] [(.int hi), (.int (y1 &&& (255 : Int32)))])) _
          refine XS.icmpNo X3.here hx rfl (hb hby d1_70) rfl (tlt hc70).2.2.2 ?_
          show Steps p.tables e below (T3.setTop (mkF m 73 #[.val (.ref a1), .val (.int p1), .val (.int p2), .val (.int (y0 &&& (255 : Int32))), .val (.int ln), .val (.int lo), .val (.int hi), .val (.int (1 : Int32)), .val (.int (y1 &&& (255 : Int32)))] [])) _
          refine XS.goto X3.here hx rfl (pc0 := 73) (pc' := 92) rfl (hb hby d1_73) (by decide) (by decide) ?_
          show Steps p.tables e below (T3.setTop (mkF m 92 #[.val (.ref a1), .val (.int p1), .val (.int p2), .val (.int (y0 &&& (255 : Int32))), .val (.int ln), .val (.int lo), .val (.int hi), .val (.int (1 : Int32)), .val (.int (y1 &&& (255 : Int32)))] [])) _
          refine XS.iload X3.here hx rfl (hb hby d1_92) rfl ?_
          exact k)
        obtain ⟨fs11, hr11, hrun11, hended11, hW11, hsame11⟩ := X3.leave (v := some (.int (1 : Int32))) (fun h => by rw [Bd.returns] at h; cases h)
        refine ⟨_, _, pre10 _ ?_, hrun11, hended11, _, _, rfl, ?_, ⟨_, rfl⟩, hW11, hsame11.mono (by decide) (by decide)⟩
        · show Steps p.tables e below (T3.setTop (mkF m 94 #[.val (.ref a1), .val (.int p1), .val (.int p2), .val (.int (y0 &&& (255 : Int32))), .val (.int ln), .val (.int lo), .val (.int hi), .val (.int (1 : Int32)), .val (.int (y1 &&& (255 : Int32)))] [(.int (1 : Int32))])) _
          exact retOut X3 hx (t := .int) Bd.returns rfl (Or.inl ⟨rfl, Or.inl rfl, _, rfl⟩) (hb hby d1_94) hr11
        · show Q1 Z a1 wl wo wh cl cL cO cH y0 y1 y2 y3 ln lo hi p1 p2 h0 n0 _ T3.heap _
          rw [e3]
          exact ⟨by unfold own_wf; rw [if_pos hc36, if_pos hc44, if_neg hc63, if_pos hc70], N0, rfl⟩
      have pre12 : ∀ t, Steps p.tables e below (T3.setTop (mkF m 36 #[.val (.ref a1), .val (.int p1), .val (.int p2), .val (.int (y0 &&& (255 : Int32))), .val (.int ln), .val (.int (128 : Int32)), .val (.int (191 : Int32)), .val (.int ((1 : Int32) + (1 : Int32))), .val (.int (y1 &&& (255 : Int32)))] [(.int ln), (.int ((1 : Int32) + (1 : Int32)))])) t → Steps p.tables e below (s₁.setTop (entryFrame m #[(.ref a1), (.int p1), (.int p2)] 9)) t := fun t k => pre9 t (by
        show Steps p.tables e below (T3.setTop (mkF m 70 #[.val (.ref a1), .val (.int p1), .val (.int p2), .val (.int (y0 &&& (255 : Int32))), .val (.int ln), .val (.int lo), .val (.int hi), .val (.int (1 : Int32)), .val (.int (y1 &&& (255 : Int32)))] [(.int hi), (.int (y1 &&& (255 : Int32)))])) _
        refine XS.icmpYes X3.here hx rfl (pc0 := 70) (pc' := 76) rfl (hb hby d1_70) rfl (flt hc70).2.2.2 (by decide) (by decide) ?_
        show Steps p.tables e below (T3.setTop (mkF m 76 #[.val (.ref a1), .val (.int p1), .val (.int p2), .val (.int (y0 &&& (255 : Int32))), .val (.int ln), .val (.int lo), .val (.int hi), .val (.int (1 : Int32)), .val (.int (y1 &&& (255 : Int32)))] [])) _
        refine XS.iinc X3.here hx rfl (hb hby d1_76) rfl (l' := #[.val (.ref a1), .val (.int p1), .val (.int p2), .val (.int (y0 &&& (255 : Int32))), .val (.int ln), .val (.int lo), .val (.int hi), .val (.int ((1 : Int32) + (1 : Int32))), .val (.int (y1 &&& (255 : Int32)))]) rfl ?_
        show Steps p.tables e below (T3.setTop (mkF m 79 #[.val (.ref a1), .val (.int p1), .val (.int p2), .val (.int (y0 &&& (255 : Int32))), .val (.int ln), .val (.int lo), .val (.int hi), .val (.int ((1 : Int32) + (1 : Int32))), .val (.int (y1 &&& (255 : Int32)))] [])) _
        refine XS.sipush X3.here hx rfl (hb hby d1_79) ?_
        show Steps p.tables e below (T3.setTop (mkF m 82 #[.val (.ref a1), .val (.int p1), .val (.int p2), .val (.int (y0 &&& (255 : Int32))), .val (.int ln), .val (.int lo), .val (.int hi), .val (.int ((1 : Int32) + (1 : Int32))), .val (.int (y1 &&& (255 : Int32)))] [(.int (128 : Int32))])) _
        refine XS.istore X3.here hx rfl (hb hby d1_82) rfl (l' := #[.val (.ref a1), .val (.int p1), .val (.int p2), .val (.int (y0 &&& (255 : Int32))), .val (.int ln), .val (.int (128 : Int32)), .val (.int hi), .val (.int ((1 : Int32) + (1 : Int32))), .val (.int (y1 &&& (255 : Int32)))]) rfl ?_
        show Steps p.tables e below (T3.setTop (mkF m 84 #[.val (.ref a1), .val (.int p1), .val (.int p2), .val (.int (y0 &&& (255 : Int32))), .val (.int ln), .val (.int (128 : Int32)), .val (.int hi), .val (.int ((1 : Int32) + (1 : Int32))), .val (.int (y1 &&& (255 : Int32)))] [])) _
        refine XS.sipush X3.here hx rfl (hb hby d1_84) ?_
        show Steps p.tables e below (T3.setTop (mkF m 87 #[.val (.ref a1), .val (.int p1), .val (.int p2), .val (.int (y0 &&& (255 : Int32))), .val (.int ln), .val (.int (128 : Int32)), .val (.int hi), .val (.int ((1 : Int32) + (1 : Int32))), .val (.int (y1 &&& (255 : Int32)))] [(.int (191 : Int32))])) _
        refine XS.istore X3.here hx rfl (hb hby d1_87) rfl (l' := #[.val (.ref a1), .val (.int p1), .val (.int p2), .val (.int (y0 &&& (255 : Int32))), .val (.int ln), .val (.int (128 : Int32)), .val (.int (191 : Int32)), .val (.int ((1 : Int32) + (1 : Int32))), .val (.int (y1 &&& (255 : Int32)))]) rfl ?_
        show Steps p.tables e below (T3.setTop (mkF m 89 #[.val (.ref a1), .val (.int p1), .val (.int p2), .val (.int (y0 &&& (255 : Int32))), .val (.int ln), .val (.int (128 : Int32)), .val (.int (191 : Int32)), .val (.int ((1 : Int32) + (1 : Int32))), .val (.int (y1 &&& (255 : Int32)))] [])) _
        refine XS.goto X3.here hx rfl (pc0 := 89) (pc' := 32) rfl (hb hby d1_89) (by decide) (by decide) ?_
        show Steps p.tables e below (T3.setTop (mkF m 32 #[.val (.ref a1), .val (.int p1), .val (.int p2), .val (.int (y0 &&& (255 : Int32))), .val (.int ln), .val (.int (128 : Int32)), .val (.int (191 : Int32)), .val (.int ((1 : Int32) + (1 : Int32))), .val (.int (y1 &&& (255 : Int32)))] [])) _
        refine XS.iload X3.here hx rfl (hb hby d1_32) rfl ?_
        show Steps p.tables e below (T3.setTop (mkF m 34 #[.val (.ref a1), .val (.int p1), .val (.int p2), .val (.int (y0 &&& (255 : Int32))), .val (.int ln), .val (.int (128 : Int32)), .val (.int (191 : Int32)), .val (.int ((1 : Int32) + (1 : Int32))), .val (.int (y1 &&& (255 : Int32)))] [(.int ((1 : Int32) + (1 : Int32)))])) _
        refine XS.iload X3.here hx rfl (hb hby d1_34) rfl ?_
        exact k)
      by_cases hc36_13 : ((1 : Int32) + (1 : Int32)) < ln
      · have pre14 : ∀ t, Steps p.tables e below (T3.setTop (mkF m 44 #[.val (.ref a1), .val (.int p1), .val (.int p2), .val (.int (y0 &&& (255 : Int32))), .val (.int ln), .val (.int (128 : Int32)), .val (.int (191 : Int32)), .val (.int ((1 : Int32) + (1 : Int32))), .val (.int (y1 &&& (255 : Int32)))] [(.int p2), (.int (p1 + ((1 : Int32) + (1 : Int32))))])) t → Steps p.tables e below (s₁.setTop (entryFrame m #[(.ref a1), (.int p1), (.int p2)] 9)) t := fun t k => pre12 t (by
          show Steps p.tables e below (T3.setTop (mkF m 36 #[.val (.ref a1), .val (.int p1), .val (.int p2), .val (.int (y0 &&& (255 : Int32))), .val (.int ln), .val (.int (128 : Int32)), .val (.int (191 : Int32)), .val (.int ((1 : Int32) + (1 : Int32))), .val (.int (y1 &&& (255 : Int32)))] [(.int ln), (.int ((1 : Int32) + (1 : Int32)))])) _
          refine XS.icmpNo X3.here hx rfl (hb hby d1_36) rfl (tlt hc36_13).2.1 ?_
          show Steps p.tables e below (T3.setTop (mkF m 39 #[.val (.ref a1), .val (.int p1), .val (.int p2), .val (.int (y0 &&& (255 : Int32))), .val (.int ln), .val (.int (128 : Int32)), .val (.int (191 : Int32)), .val (.int ((1 : Int32) + (1 : Int32))), .val (.int (y1 &&& (255 : Int32)))] [])) _
          refine XS.iloadN X3.here hx rfl (hb hby d1_39) rfl ?_
          show Steps p.tables e below (T3.setTop (mkF m 40 #[.val (.ref a1), .val (.int p1), .val (.int p2), .val (.int (y0 &&& (255 : Int32))), .val (.int ln), .val (.int (128 : Int32)), .val (.int (191 : Int32)), .val (.int ((1 : Int32) + (1 : Int32))), .val (.int (y1 &&& (255 : Int32)))] [(.int p1)])) _
          refine XS.iload X3.here hx rfl (hb hby d1_40) rfl ?_
          show Steps p.tables e below (T3.setTop (mkF m 42 #[.val (.ref a1), .val (.int p1), .val (.int p2), .val (.int (y0 &&& (255 : Int32))), .val (.int ln), .val (.int (128 : Int32)), .val (.int (191 : Int32)), .val (.int ((1 : Int32) + (1 : Int32))), .val (.int (y1 &&& (255 : Int32)))] [(.int ((1 : Int32) + (1 : Int32))), (.int p1)])) _
          refine XS.iadd X3.here hx rfl (hb hby d1_42) rfl ?_
          show Steps p.tables e below (T3.setTop (mkF m 43 #[.val (.ref a1), .val (.int p1), .val (.int p2), .val (.int (y0 &&& (255 : Int32))), .val (.int ln), .val (.int (128 : Int32)), .val (.int (191 : Int32)), .val (.int ((1 : Int32) + (1 : Int32))), .val (.int (y1 &&& (255 : Int32)))] [(.int (p1 + ((1 : Int32) + (1 : Int32))))])) _
          refine XS.iloadN X3.here hx rfl (hb hby d1_43) rfl ?_
          exact k)
        by_cases hc44_15 : (p1 + ((1 : Int32) + (1 : Int32))) < p2
        · have pre16 : ∀ t, Steps p.tables e below (T3.setTop (mkF m 63 #[.val (.ref a1), .val (.int p1), .val (.int p2), .val (.int (y0 &&& (255 : Int32))), .val (.int ln), .val (.int (128 : Int32)), .val (.int (191 : Int32)), .val (.int ((1 : Int32) + (1 : Int32))), .val (.int (y2 &&& (255 : Int32)))] [(.int (128 : Int32)), (.int (y2 &&& (255 : Int32)))])) t → Steps p.tables e below (s₁.setTop (entryFrame m #[(.ref a1), (.int p1), (.int p2)] 9)) t := fun t k => pre14 t (by
            show Steps p.tables e below (T3.setTop (mkF m 44 #[.val (.ref a1), .val (.int p1), .val (.int p2), .val (.int (y0 &&& (255 : Int32))), .val (.int ln), .val (.int (128 : Int32)), .val (.int (191 : Int32)), .val (.int ((1 : Int32) + (1 : Int32))), .val (.int (y1 &&& (255 : Int32)))] [(.int p2), (.int (p1 + ((1 : Int32) + (1 : Int32))))])) _
            refine XS.icmpNo X3.here hx rfl (hb hby d1_44) rfl (tlt hc44_15).2.1 ?_
            show Steps p.tables e below (T3.setTop (mkF m 47 #[.val (.ref a1), .val (.int p1), .val (.int p2), .val (.int (y0 &&& (255 : Int32))), .val (.int ln), .val (.int (128 : Int32)), .val (.int (191 : Int32)), .val (.int ((1 : Int32) + (1 : Int32))), .val (.int (y1 &&& (255 : Int32)))] [])) _
            refine XS.aloadN X3.here hx rfl (hb hby d1_47) rfl rfl ?_
            show Steps p.tables e below (T3.setTop (mkF m 48 #[.val (.ref a1), .val (.int p1), .val (.int p2), .val (.int (y0 &&& (255 : Int32))), .val (.int ln), .val (.int (128 : Int32)), .val (.int (191 : Int32)), .val (.int ((1 : Int32) + (1 : Int32))), .val (.int (y1 &&& (255 : Int32)))] [(.ref a1)])) _
            refine XS.iloadN X3.here hx rfl (hb hby d1_48) rfl ?_
            show Steps p.tables e below (T3.setTop (mkF m 49 #[.val (.ref a1), .val (.int p1), .val (.int p2), .val (.int (y0 &&& (255 : Int32))), .val (.int ln), .val (.int (128 : Int32)), .val (.int (191 : Int32)), .val (.int ((1 : Int32) + (1 : Int32))), .val (.int (y1 &&& (255 : Int32)))] [(.int p1), (.ref a1)])) _
            refine XS.iload X3.here hx rfl (hb hby d1_49) rfl ?_
            show Steps p.tables e below (T3.setTop (mkF m 51 #[.val (.ref a1), .val (.int p1), .val (.int p2), .val (.int (y0 &&& (255 : Int32))), .val (.int ln), .val (.int (128 : Int32)), .val (.int (191 : Int32)), .val (.int ((1 : Int32) + (1 : Int32))), .val (.int (y1 &&& (255 : Int32)))] [(.int ((1 : Int32) + (1 : Int32))), (.int p1), (.ref a1)])) _
            refine XS.iadd X3.here hx rfl (hb hby d1_51) rfl ?_
            show Steps p.tables e below (T3.setTop (mkF m 52 #[.val (.ref a1), .val (.int p1), .val (.int p2), .val (.int (y0 &&& (255 : Int32))), .val (.int ln), .val (.int (128 : Int32)), .val (.int (191 : Int32)), .val (.int ((1 : Int32) + (1 : Int32))), .val (.int (y1 &&& (255 : Int32)))] [(.int (p1 + ((1 : Int32) + (1 : Int32)))), (.ref a1)])) _
            refine X3.baloadBytes hx (j := (p1 + ((1 : Int32) + (1 : Int32)))) (v := (.int y2)) (by rw [e3]; exact A.1) (State.isArrayOf_alike hZ.alike A.2.1) A.2.2 r2.1 r2.2 (g := (mkF m 52 #[.val (.ref a1), .val (.int p1), .val (.int p2), .val (.int (y0 &&& (255 : Int32))), .val (.int ln), .val (.int (128 : Int32)), .val (.int (191 : Int32)), .val (.int ((1 : Int32) + (1 : Int32))), .val (.int (y1 &&& (255 : Int32)))] [(.int (p1 + ((1 : Int32) + (1 : Int32)))), (.ref a1)])) rfl rfl (hb hby d1_52) _ ?_
            show Steps p.tables e below (T3.setTop (mkF m 53 #[.val (.ref a1), .val (.int p1), .val (.int p2), .val (.int (y0 &&& (255 : Int32))), .val (.int ln), .val (.int (128 : Int32)), .val (.int (191 : Int32)), .val (.int ((1 : Int32) + (1 : Int32))), .val (.int (y1 &&& (255 : Int32)))] [(.int y2)])) _
            refine XS.sipush X3.here hx rfl (hb hby d1_53) ?_
            show Steps p.tables e below (T3.setTop (mkF m 56 #[.val (.ref a1), .val (.int p1), .val (.int p2), .val (.int (y0 &&& (255 : Int32))), .val (.int ln), .val (.int (128 : Int32)), .val (.int (191 : Int32)), .val (.int ((1 : Int32) + (1 : Int32))), .val (.int (y1 &&& (255 : Int32)))] [(.int (255 : Int32)), (.int y2)])) _
            refine XS.iand X3.here hx rfl (hb hby d1_56) rfl ?_
            show Steps p.tables e below (T3.setTop (mkF m 57 #[.val (.ref a1), .val (.int p1), .val (.int p2), .val (.int (y0 &&& (255 : Int32))), .val (.int ln), .val (.int (128 : Int32)), .val (.int (191 : Int32)), .val (.int ((1 : Int32) + (1 : Int32))), .val (.int (y1 &&& (255 : Int32)))] [(.int (y2 &&& (255 : Int32)))])) _
            refine XS.istore X3.here hx rfl (hb hby d1_57) rfl (l' := #[.val (.ref a1), .val (.int p1), .val (.int p2), .val (.int (y0 &&& (255 : Int32))), .val (.int ln), .val (.int (128 : Int32)), .val (.int (191 : Int32)), .val (.int ((1 : Int32) + (1 : Int32))), .val (.int (y2 &&& (255 : Int32)))]) rfl ?_
            show Steps p.tables e below (T3.setTop (mkF m 59 #[.val (.ref a1), .val (.int p1), .val (.int p2), .val (.int (y0 &&& (255 : Int32))), .val (.int ln), .val (.int (128 : Int32)), .val (.int (191 : Int32)), .val (.int ((1 : Int32) + (1 : Int32))), .val (.int (y2 &&& (255 : Int32)))] [])) _
            refine XS.iload X3.here hx rfl (hb hby d1_59) rfl ?_
            show Steps p.tables e below (T3.setTop (mkF m 61 #[.val (.ref a1), .val (.int p1), .val (.int p2), .val (.int (y0 &&& (255 : Int32))), .val (.int ln), .val (.int (128 : Int32)), .val (.int (191 : Int32)), .val (.int ((1 : Int32) + (1 : Int32))), .val (.int (y2 &&& (255 : Int32)))] [(.int (y2 &&& (255 : Int32)))])) _
            refine XS.iload X3.here hx rfl (hb hby d1_61) rfl ?_
            exact k)
          by_cases hc63_17 : (y2 &&& (255 : Int32)) < (128 : Int32)
          · have pre18 : ∀ t, Steps p.tables e below (T3.setTop (mkF m 94 #[.val (.ref a1), .val (.int p1), .val (.int p2), .val (.int (y0 &&& (255 : Int32))), .val (.int ln), .val (.int (128 : Int32)), .val (.int (191 : Int32)), .val (.int ((1 : Int32) + (1 : Int32))), .val (.int (y2 &&& (255 : Int32)))] [(.int ((1 : Int32) + (1 : Int32)))])) t → Steps p.tables e below (s₁.setTop (entryFrame m #[(.ref a1), (.int p1), (.int p2)] 9)) t := fun t k => pre16 t (by
              show Steps p.tables e below (T3.setTop (mkF m 63 #[.val (.ref a1), .val (.int p1), .val (.int p2), .val (.int (y0 &&& (255 : Int32))), .val (.int ln), .val (.int (128 : Int32)), .val (.int (191 : Int32)), .val (.int ((1 : Int32) + (1 : Int32))), .val (.int (y2 &&& (255 : Int32)))] [(.int (128 : Int32)), (.int (y2 &&& (255 : Int32)))])) _
              refine XS.icmpYes X3.here hx rfl (pc0 := 63) (pc' := 92) rfl (hb hby d1_63) rfl (tlt hc63_17).1 (by decide) (by decide) ?_
              show Steps p.tables e below (T3.setTop (mkF m 92 #[.val (.ref a1), .val (.int p1), .val (.int p2), .val (.int (y0 &&& (255 : Int32))), .val (.int ln), .val (.int (128 : Int32)), .val (.int (191 : Int32)), .val (.int ((1 : Int32) + (1 : Int32))), .val (.int (y2 &&& (255 : Int32)))] [])) _
              refine XS.iload X3.here hx rfl (hb hby d1_92) rfl ?_
              exact k)
            obtain ⟨fs19, hr19, hrun19, hended19, hW19, hsame19⟩ := X3.leave (v := some (.int ((1 : Int32) + (1 : Int32)))) (fun h => by rw [Bd.returns] at h; cases h)
            refine ⟨_, _, pre18 _ ?_, hrun19, hended19, _, _, rfl, ?_, ⟨_, rfl⟩, hW19, hsame19.mono (by decide) (by decide)⟩
            · show Steps p.tables e below (T3.setTop (mkF m 94 #[.val (.ref a1), .val (.int p1), .val (.int p2), .val (.int (y0 &&& (255 : Int32))), .val (.int ln), .val (.int (128 : Int32)), .val (.int (191 : Int32)), .val (.int ((1 : Int32) + (1 : Int32))), .val (.int (y2 &&& (255 : Int32)))] [(.int ((1 : Int32) + (1 : Int32)))])) _
              exact retOut X3 hx (t := .int) Bd.returns rfl (Or.inl ⟨rfl, Or.inl rfl, _, rfl⟩) (hb hby d1_94) hr19
            · show Q1 Z a1 wl wo wh cl cL cO cH y0 y1 y2 y3 ln lo hi p1 p2 h0 n0 _ T3.heap _
              rw [e3]
              exact ⟨by unfold own_wf; rw [if_pos hc36, if_pos hc44, if_neg hc63, if_neg hc70, if_pos hc36_13, if_pos hc44_15, if_pos hc63_17], N0, rfl⟩
          have pre20 : ∀ t, Steps p.tables e below (T3.setTop (mkF m 70 #[.val (.ref a1), .val (.int p1), .val (.int p2), .val (.int (y0 &&& (255 : Int32))), .val (.int ln), .val (.int (128 : Int32)), .val (.int (191 : Int32)), .val (.int ((1 : Int32) + (1 : Int32))), .val (.int (y2 &&& (255 : Int32)))] [(.int (191 : Int32)), (.int (y2 &&& (255 : Int32)))])) t → Steps p.tables e below (s₁.setTop (entryFrame m #[(.ref a1), (.int p1), (.int p2)] 9)) t := fun t k => pre16 t (by
            show Steps p.tables e below (T3.setTop (mkF m 63 #[.val (.ref a1), .val (.int p1), .val (.int p2), .val (.int (y0 &&& (255 : Int32))), .val (.int ln), .val (.int (128 : Int32)), .val (.int (191 : Int32)), .val (.int ((1 : Int32) + (1 : Int32))), .val (.int (y2 &&& (255 : Int32)))] [(.int (128 : Int32)), (.int (y2 &&& (255 : Int32)))])) _
            refine XS.icmpNo X3.here hx rfl (hb hby d1_63) rfl (flt hc63_17).1 ?_
            show Steps p.tables e below (T3.setTop (mkF m 66 #[.val (.ref a1), .val (.int p1), .val (.int p2), .val (.int (y0 &&& (255 : Int32))), .val (.int ln), .val (.int (128 : Int32)), .val (.int (191 : Int32)), .val (.int ((1 : Int32) + (1 : Int32))), .val (.int (y2 &&& (255 : Int32)))] [])) _
            refine XS.iload X3.here hx rfl (hb hby d1_66) rfl ?_
            show Steps p.tables e below (T3.setTop (mkF m 68 #[.val (.ref a1), .val (.int p1), .val (.int p2), .val (.int (y0 &&& (255 : Int32))), .val (.int ln), .val (.int (128 : Int32)), .val (.int (191 : Int32)), .val (.int ((1 : Int32) + (1 : Int32))), .val (.int (y2 &&& (255 : Int32)))] [(.int (y2 &&& (255 : Int32)))])) _
            refine XS.iload X3.here hx rfl (hb hby d1_68) rfl ?_
            exact k)
          by_cases hc70_21 : (191 : Int32) < (y2 &&& (255 : Int32))
          · have pre22 : ∀ t, Steps p.tables e below (T3.setTop (mkF m 94 #[.val (.ref a1), .val (.int p1), .val (.int p2), .val (.int (y0 &&& (255 : Int32))), .val (.int ln), .val (.int (128 : Int32)), .val (.int (191 : Int32)), .val (.int ((1 : Int32) + (1 : Int32))), .val (.int (y2 &&& (255 : Int32)))] [(.int ((1 : Int32) + (1 : Int32)))])) t → Steps p.tables e below (s₁.setTop (entryFrame m #[(.ref a1), (.int p1), (.int p2)] 9)) t := fun t k => pre20 t (by
              show Steps p.tables e below (T3.setTop (mkF m 70 #[.val (.ref a1), .val (.int p1), .val (.int p2), .val (.int (y0 &&& (255 : Int32))), .val (.int ln), .val (.int (128 : Int32)), .val (.int (191 : Int32)), .val (.int ((1 : Int32) + (1 : Int32))), .val (.int (y2 &&& (255 : Int32)))] [(.int (191 : Int32)), (.int (y2 &&& (255 : Int32)))])) _
              refine XS.icmpNo X3.here hx rfl (hb hby d1_70) rfl (tlt hc70_21).2.2.2 ?_
              show Steps p.tables e below (T3.setTop (mkF m 73 #[.val (.ref a1), .val (.int p1), .val (.int p2), .val (.int (y0 &&& (255 : Int32))), .val (.int ln), .val (.int (128 : Int32)), .val (.int (191 : Int32)), .val (.int ((1 : Int32) + (1 : Int32))), .val (.int (y2 &&& (255 : Int32)))] [])) _
              refine XS.goto X3.here hx rfl (pc0 := 73) (pc' := 92) rfl (hb hby d1_73) (by decide) (by decide) ?_
              show Steps p.tables e below (T3.setTop (mkF m 92 #[.val (.ref a1), .val (.int p1), .val (.int p2), .val (.int (y0 &&& (255 : Int32))), .val (.int ln), .val (.int (128 : Int32)), .val (.int (191 : Int32)), .val (.int ((1 : Int32) + (1 : Int32))), .val (.int (y2 &&& (255 : Int32)))] [])) _
              refine XS.iload X3.here hx rfl (hb hby d1_92) rfl ?_
              exact k)
            obtain ⟨fs23, hr23, hrun23, hended23, hW23, hsame23⟩ := X3.leave (v := some (.int ((1 : Int32) + (1 : Int32)))) (fun h => by rw [Bd.returns] at h; cases h)
            refine ⟨_, _, pre22 _ ?_, hrun23, hended23, _, _, rfl, ?_, ⟨_, rfl⟩, hW23, hsame23.mono (by decide) (by decide)⟩
            · show Steps p.tables e below (T3.setTop (mkF m 94 #[.val (.ref a1), .val (.int p1), .val (.int p2), .val (.int (y0 &&& (255 : Int32))), .val (.int ln), .val (.int (128 : Int32)), .val (.int (191 : Int32)), .val (.int ((1 : Int32) + (1 : Int32))), .val (.int (y2 &&& (255 : Int32)))] [(.int ((1 : Int32) + (1 : Int32)))])) _
              exact retOut X3 hx (t := .int) Bd.returns rfl (Or.inl ⟨rfl, Or.inl rfl, _, rfl⟩) (hb hby d1_94) hr23
            · show Q1 Z a1 wl wo wh cl cL cO cH y0 y1 y2 y3 ln lo hi p1 p2 h0 n0 _ T3.heap _
              rw [e3]
              exact ⟨by unfold own_wf; rw [if_pos hc36, if_pos hc44, if_neg hc63, if_neg hc70, if_pos hc36_13, if_pos hc44_15, if_neg hc63_17, if_pos hc70_21], N0, rfl⟩
          have pre24 : ∀ t, Steps p.tables e below (T3.setTop (mkF m 36 #[.val (.ref a1), .val (.int p1), .val (.int p2), .val (.int (y0 &&& (255 : Int32))), .val (.int ln), .val (.int (128 : Int32)), .val (.int (191 : Int32)), .val (.int (((1 : Int32) + (1 : Int32)) + (1 : Int32))), .val (.int (y2 &&& (255 : Int32)))] [(.int ln), (.int (((1 : Int32) + (1 : Int32)) + (1 : Int32)))])) t → Steps p.tables e below (s₁.setTop (entryFrame m #[(.ref a1), (.int p1), (.int p2)] 9)) t := fun t k => pre20 t (by
            show Steps p.tables e below (T3.setTop (mkF m 70 #[.val (.ref a1), .val (.int p1), .val (.int p2), .val (.int (y0 &&& (255 : Int32))), .val (.int ln), .val (.int (128 : Int32)), .val (.int (191 : Int32)), .val (.int ((1 : Int32) + (1 : Int32))), .val (.int (y2 &&& (255 : Int32)))] [(.int (191 : Int32)), (.int (y2 &&& (255 : Int32)))])) _
            refine XS.icmpYes X3.here hx rfl (pc0 := 70) (pc' := 76) rfl (hb hby d1_70) rfl (flt hc70_21).2.2.2 (by decide) (by decide) ?_
            show Steps p.tables e below (T3.setTop (mkF m 76 #[.val (.ref a1), .val (.int p1), .val (.int p2), .val (.int (y0 &&& (255 : Int32))), .val (.int ln), .val (.int (128 : Int32)), .val (.int (191 : Int32)), .val (.int ((1 : Int32) + (1 : Int32))), .val (.int (y2 &&& (255 : Int32)))] [])) _
            refine XS.iinc X3.here hx rfl (hb hby d1_76) rfl (l' := #[.val (.ref a1), .val (.int p1), .val (.int p2), .val (.int (y0 &&& (255 : Int32))), .val (.int ln), .val (.int (128 : Int32)), .val (.int (191 : Int32)), .val (.int (((1 : Int32) + (1 : Int32)) + (1 : Int32))), .val (.int (y2 &&& (255 : Int32)))]) rfl ?_
            show Steps p.tables e below (T3.setTop (mkF m 79 #[.val (.ref a1), .val (.int p1), .val (.int p2), .val (.int (y0 &&& (255 : Int32))), .val (.int ln), .val (.int (128 : Int32)), .val (.int (191 : Int32)), .val (.int (((1 : Int32) + (1 : Int32)) + (1 : Int32))), .val (.int (y2 &&& (255 : Int32)))] [])) _
            refine XS.sipush X3.here hx rfl (hb hby d1_79) ?_
            show Steps p.tables e below (T3.setTop (mkF m 82 #[.val (.ref a1), .val (.int p1), .val (.int p2), .val (.int (y0 &&& (255 : Int32))), .val (.int ln), .val (.int (128 : Int32)), .val (.int (191 : Int32)), .val (.int (((1 : Int32) + (1 : Int32)) + (1 : Int32))), .val (.int (y2 &&& (255 : Int32)))] [(.int (128 : Int32))])) _
            refine XS.istore X3.here hx rfl (hb hby d1_82) rfl (l' := #[.val (.ref a1), .val (.int p1), .val (.int p2), .val (.int (y0 &&& (255 : Int32))), .val (.int ln), .val (.int (128 : Int32)), .val (.int (191 : Int32)), .val (.int (((1 : Int32) + (1 : Int32)) + (1 : Int32))), .val (.int (y2 &&& (255 : Int32)))]) rfl ?_
            show Steps p.tables e below (T3.setTop (mkF m 84 #[.val (.ref a1), .val (.int p1), .val (.int p2), .val (.int (y0 &&& (255 : Int32))), .val (.int ln), .val (.int (128 : Int32)), .val (.int (191 : Int32)), .val (.int (((1 : Int32) + (1 : Int32)) + (1 : Int32))), .val (.int (y2 &&& (255 : Int32)))] [])) _
            refine XS.sipush X3.here hx rfl (hb hby d1_84) ?_
            show Steps p.tables e below (T3.setTop (mkF m 87 #[.val (.ref a1), .val (.int p1), .val (.int p2), .val (.int (y0 &&& (255 : Int32))), .val (.int ln), .val (.int (128 : Int32)), .val (.int (191 : Int32)), .val (.int (((1 : Int32) + (1 : Int32)) + (1 : Int32))), .val (.int (y2 &&& (255 : Int32)))] [(.int (191 : Int32))])) _
            refine XS.istore X3.here hx rfl (hb hby d1_87) rfl (l' := #[.val (.ref a1), .val (.int p1), .val (.int p2), .val (.int (y0 &&& (255 : Int32))), .val (.int ln), .val (.int (128 : Int32)), .val (.int (191 : Int32)), .val (.int (((1 : Int32) + (1 : Int32)) + (1 : Int32))), .val (.int (y2 &&& (255 : Int32)))]) rfl ?_
            show Steps p.tables e below (T3.setTop (mkF m 89 #[.val (.ref a1), .val (.int p1), .val (.int p2), .val (.int (y0 &&& (255 : Int32))), .val (.int ln), .val (.int (128 : Int32)), .val (.int (191 : Int32)), .val (.int (((1 : Int32) + (1 : Int32)) + (1 : Int32))), .val (.int (y2 &&& (255 : Int32)))] [])) _
            refine XS.goto X3.here hx rfl (pc0 := 89) (pc' := 32) rfl (hb hby d1_89) (by decide) (by decide) ?_
            show Steps p.tables e below (T3.setTop (mkF m 32 #[.val (.ref a1), .val (.int p1), .val (.int p2), .val (.int (y0 &&& (255 : Int32))), .val (.int ln), .val (.int (128 : Int32)), .val (.int (191 : Int32)), .val (.int (((1 : Int32) + (1 : Int32)) + (1 : Int32))), .val (.int (y2 &&& (255 : Int32)))] [])) _
            refine XS.iload X3.here hx rfl (hb hby d1_32) rfl ?_
            show Steps p.tables e below (T3.setTop (mkF m 34 #[.val (.ref a1), .val (.int p1), .val (.int p2), .val (.int (y0 &&& (255 : Int32))), .val (.int ln), .val (.int (128 : Int32)), .val (.int (191 : Int32)), .val (.int (((1 : Int32) + (1 : Int32)) + (1 : Int32))), .val (.int (y2 &&& (255 : Int32)))] [(.int (((1 : Int32) + (1 : Int32)) + (1 : Int32)))])) _
            refine XS.iload X3.here hx rfl (hb hby d1_34) rfl ?_
            exact k)
          by_cases hc36_25 : (((1 : Int32) + (1 : Int32)) + (1 : Int32)) < ln
          · have pre26 : ∀ t, Steps p.tables e below (T3.setTop (mkF m 44 #[.val (.ref a1), .val (.int p1), .val (.int p2), .val (.int (y0 &&& (255 : Int32))), .val (.int ln), .val (.int (128 : Int32)), .val (.int (191 : Int32)), .val (.int (((1 : Int32) + (1 : Int32)) + (1 : Int32))), .val (.int (y2 &&& (255 : Int32)))] [(.int p2), (.int (p1 + (((1 : Int32) + (1 : Int32)) + (1 : Int32))))])) t → Steps p.tables e below (s₁.setTop (entryFrame m #[(.ref a1), (.int p1), (.int p2)] 9)) t := fun t k => pre24 t (by
              show Steps p.tables e below (T3.setTop (mkF m 36 #[.val (.ref a1), .val (.int p1), .val (.int p2), .val (.int (y0 &&& (255 : Int32))), .val (.int ln), .val (.int (128 : Int32)), .val (.int (191 : Int32)), .val (.int (((1 : Int32) + (1 : Int32)) + (1 : Int32))), .val (.int (y2 &&& (255 : Int32)))] [(.int ln), (.int (((1 : Int32) + (1 : Int32)) + (1 : Int32)))])) _
              refine XS.icmpNo X3.here hx rfl (hb hby d1_36) rfl (tlt hc36_25).2.1 ?_
              show Steps p.tables e below (T3.setTop (mkF m 39 #[.val (.ref a1), .val (.int p1), .val (.int p2), .val (.int (y0 &&& (255 : Int32))), .val (.int ln), .val (.int (128 : Int32)), .val (.int (191 : Int32)), .val (.int (((1 : Int32) + (1 : Int32)) + (1 : Int32))), .val (.int (y2 &&& (255 : Int32)))] [])) _
              refine XS.iloadN X3.here hx rfl (hb hby d1_39) rfl ?_
              show Steps p.tables e below (T3.setTop (mkF m 40 #[.val (.ref a1), .val (.int p1), .val (.int p2), .val (.int (y0 &&& (255 : Int32))), .val (.int ln), .val (.int (128 : Int32)), .val (.int (191 : Int32)), .val (.int (((1 : Int32) + (1 : Int32)) + (1 : Int32))), .val (.int (y2 &&& (255 : Int32)))] [(.int p1)])) _
              refine XS.iload X3.here hx rfl (hb hby d1_40) rfl ?_
              show Steps p.tables e below (T3.setTop (mkF m 42 #[.val (.ref a1), .val (.int p1), .val (.int p2), .val (.int (y0 &&& (255 : Int32))), .val (.int ln), .val (.int (128 : Int32)), .val (.int (191 : Int32)), .val (.int (((1 : Int32) + (1 : Int32)) + (1 : Int32))), .val (.int (y2 &&& (255 : Int32)))] [(.int (((1 : Int32) + (1 : Int32)) + (1 : Int32))), (.int p1)])) _
              refine XS.iadd X3.here hx rfl (hb hby d1_42) rfl ?_
              show Steps p.tables e below (T3.setTop (mkF m 43 #[.val (.ref a1), .val (.int p1), .val (.int p2), .val (.int (y0 &&& (255 : Int32))), .val (.int ln), .val (.int (128 : Int32)), .val (.int (191 : Int32)), .val (.int (((1 : Int32) + (1 : Int32)) + (1 : Int32))), .val (.int (y2 &&& (255 : Int32)))] [(.int (p1 + (((1 : Int32) + (1 : Int32)) + (1 : Int32))))])) _
              refine XS.iloadN X3.here hx rfl (hb hby d1_43) rfl ?_
              exact k)
            by_cases hc44_27 : (p1 + (((1 : Int32) + (1 : Int32)) + (1 : Int32))) < p2
            · have pre28 : ∀ t, Steps p.tables e below (T3.setTop (mkF m 63 #[.val (.ref a1), .val (.int p1), .val (.int p2), .val (.int (y0 &&& (255 : Int32))), .val (.int ln), .val (.int (128 : Int32)), .val (.int (191 : Int32)), .val (.int (((1 : Int32) + (1 : Int32)) + (1 : Int32))), .val (.int (y3 &&& (255 : Int32)))] [(.int (128 : Int32)), (.int (y3 &&& (255 : Int32)))])) t → Steps p.tables e below (s₁.setTop (entryFrame m #[(.ref a1), (.int p1), (.int p2)] 9)) t := fun t k => pre26 t (by
                show Steps p.tables e below (T3.setTop (mkF m 44 #[.val (.ref a1), .val (.int p1), .val (.int p2), .val (.int (y0 &&& (255 : Int32))), .val (.int ln), .val (.int (128 : Int32)), .val (.int (191 : Int32)), .val (.int (((1 : Int32) + (1 : Int32)) + (1 : Int32))), .val (.int (y2 &&& (255 : Int32)))] [(.int p2), (.int (p1 + (((1 : Int32) + (1 : Int32)) + (1 : Int32))))])) _
                refine XS.icmpNo X3.here hx rfl (hb hby d1_44) rfl (tlt hc44_27).2.1 ?_
                show Steps p.tables e below (T3.setTop (mkF m 47 #[.val (.ref a1), .val (.int p1), .val (.int p2), .val (.int (y0 &&& (255 : Int32))), .val (.int ln), .val (.int (128 : Int32)), .val (.int (191 : Int32)), .val (.int (((1 : Int32) + (1 : Int32)) + (1 : Int32))), .val (.int (y2 &&& (255 : Int32)))] [])) _
                refine XS.aloadN X3.here hx rfl (hb hby d1_47) rfl rfl ?_
                show Steps p.tables e below (T3.setTop (mkF m 48 #[.val (.ref a1), .val (.int p1), .val (.int p2), .val (.int (y0 &&& (255 : Int32))), .val (.int ln), .val (.int (128 : Int32)), .val (.int (191 : Int32)), .val (.int (((1 : Int32) + (1 : Int32)) + (1 : Int32))), .val (.int (y2 &&& (255 : Int32)))] [(.ref a1)])) _
                refine XS.iloadN X3.here hx rfl (hb hby d1_48) rfl ?_
                show Steps p.tables e below (T3.setTop (mkF m 49 #[.val (.ref a1), .val (.int p1), .val (.int p2), .val (.int (y0 &&& (255 : Int32))), .val (.int ln), .val (.int (128 : Int32)), .val (.int (191 : Int32)), .val (.int (((1 : Int32) + (1 : Int32)) + (1 : Int32))), .val (.int (y2 &&& (255 : Int32)))] [(.int p1), (.ref a1)])) _
                refine XS.iload X3.here hx rfl (hb hby d1_49) rfl ?_
                show Steps p.tables e below (T3.setTop (mkF m 51 #[.val (.ref a1), .val (.int p1), .val (.int p2), .val (.int (y0 &&& (255 : Int32))), .val (.int ln), .val (.int (128 : Int32)), .val (.int (191 : Int32)), .val (.int (((1 : Int32) + (1 : Int32)) + (1 : Int32))), .val (.int (y2 &&& (255 : Int32)))] [(.int (((1 : Int32) + (1 : Int32)) + (1 : Int32))), (.int p1), (.ref a1)])) _
                refine XS.iadd X3.here hx rfl (hb hby d1_51) rfl ?_
                show Steps p.tables e below (T3.setTop (mkF m 52 #[.val (.ref a1), .val (.int p1), .val (.int p2), .val (.int (y0 &&& (255 : Int32))), .val (.int ln), .val (.int (128 : Int32)), .val (.int (191 : Int32)), .val (.int (((1 : Int32) + (1 : Int32)) + (1 : Int32))), .val (.int (y2 &&& (255 : Int32)))] [(.int (p1 + (((1 : Int32) + (1 : Int32)) + (1 : Int32)))), (.ref a1)])) _
                refine X3.baloadBytes hx (j := (p1 + (((1 : Int32) + (1 : Int32)) + (1 : Int32)))) (v := (.int y3)) (by rw [e3]; exact A.1) (State.isArrayOf_alike hZ.alike A.2.1) A.2.2 r3.1 r3.2 (g := (mkF m 52 #[.val (.ref a1), .val (.int p1), .val (.int p2), .val (.int (y0 &&& (255 : Int32))), .val (.int ln), .val (.int (128 : Int32)), .val (.int (191 : Int32)), .val (.int (((1 : Int32) + (1 : Int32)) + (1 : Int32))), .val (.int (y2 &&& (255 : Int32)))] [(.int (p1 + (((1 : Int32) + (1 : Int32)) + (1 : Int32)))), (.ref a1)])) rfl rfl (hb hby d1_52) _ ?_
                show Steps p.tables e below (T3.setTop (mkF m 53 #[.val (.ref a1), .val (.int p1), .val (.int p2), .val (.int (y0 &&& (255 : Int32))), .val (.int ln), .val (.int (128 : Int32)), .val (.int (191 : Int32)), .val (.int (((1 : Int32) + (1 : Int32)) + (1 : Int32))), .val (.int (y2 &&& (255 : Int32)))] [(.int y3)])) _
                refine XS.sipush X3.here hx rfl (hb hby d1_53) ?_
                show Steps p.tables e below (T3.setTop (mkF m 56 #[.val (.ref a1), .val (.int p1), .val (.int p2), .val (.int (y0 &&& (255 : Int32))), .val (.int ln), .val (.int (128 : Int32)), .val (.int (191 : Int32)), .val (.int (((1 : Int32) + (1 : Int32)) + (1 : Int32))), .val (.int (y2 &&& (255 : Int32)))] [(.int (255 : Int32)), (.int y3)])) _
                refine XS.iand X3.here hx rfl (hb hby d1_56) rfl ?_
                show Steps p.tables e below (T3.setTop (mkF m 57 #[.val (.ref a1), .val (.int p1), .val (.int p2), .val (.int (y0 &&& (255 : Int32))), .val (.int ln), .val (.int (128 : Int32)), .val (.int (191 : Int32)), .val (.int (((1 : Int32) + (1 : Int32)) + (1 : Int32))), .val (.int (y2 &&& (255 : Int32)))] [(.int (y3 &&& (255 : Int32)))])) _
                refine XS.istore X3.here hx rfl (hb hby d1_57) rfl (l' := #[.val (.ref a1), .val (.int p1), .val (.int p2), .val (.int (y0 &&& (255 : Int32))), .val (.int ln), .val (.int (128 : Int32)), .val (.int (191 : Int32)), .val (.int (((1 : Int32) + (1 : Int32)) + (1 : Int32))), .val (.int (y3 &&& (255 : Int32)))]) rfl ?_
                show Steps p.tables e below (T3.setTop (mkF m 59 #[.val (.ref a1), .val (.int p1), .val (.int p2), .val (.int (y0 &&& (255 : Int32))), .val (.int ln), .val (.int (128 : Int32)), .val (.int (191 : Int32)), .val (.int (((1 : Int32) + (1 : Int32)) + (1 : Int32))), .val (.int (y3 &&& (255 : Int32)))] [])) _
                refine XS.iload X3.here hx rfl (hb hby d1_59) rfl ?_
                show Steps p.tables e below (T3.setTop (mkF m 61 #[.val (.ref a1), .val (.int p1), .val (.int p2), .val (.int (y0 &&& (255 : Int32))), .val (.int ln), .val (.int (128 : Int32)), .val (.int (191 : Int32)), .val (.int (((1 : Int32) + (1 : Int32)) + (1 : Int32))), .val (.int (y3 &&& (255 : Int32)))] [(.int (y3 &&& (255 : Int32)))])) _
                refine XS.iload X3.here hx rfl (hb hby d1_61) rfl ?_
                exact k)
              by_cases hc63_29 : (y3 &&& (255 : Int32)) < (128 : Int32)
              · have pre30 : ∀ t, Steps p.tables e below (T3.setTop (mkF m 94 #[.val (.ref a1), .val (.int p1), .val (.int p2), .val (.int (y0 &&& (255 : Int32))), .val (.int ln), .val (.int (128 : Int32)), .val (.int (191 : Int32)), .val (.int (((1 : Int32) + (1 : Int32)) + (1 : Int32))), .val (.int (y3 &&& (255 : Int32)))] [(.int (((1 : Int32) + (1 : Int32)) + (1 : Int32)))])) t → Steps p.tables e below (s₁.setTop (entryFrame m #[(.ref a1), (.int p1), (.int p2)] 9)) t := fun t k => pre28 t (by
                  show Steps p.tables e below (T3.setTop (mkF m 63 #[.val (.ref a1), .val (.int p1), .val (.int p2), .val (.int (y0 &&& (255 : Int32))), .val (.int ln), .val (.int (128 : Int32)), .val (.int (191 : Int32)), .val (.int (((1 : Int32) + (1 : Int32)) + (1 : Int32))), .val (.int (y3 &&& (255 : Int32)))] [(.int (128 : Int32)), (.int (y3 &&& (255 : Int32)))])) _
                  refine XS.icmpYes X3.here hx rfl (pc0 := 63) (pc' := 92) rfl (hb hby d1_63) rfl (tlt hc63_29).1 (by decide) (by decide) ?_
                  show Steps p.tables e below (T3.setTop (mkF m 92 #[.val (.ref a1), .val (.int p1), .val (.int p2), .val (.int (y0 &&& (255 : Int32))), .val (.int ln), .val (.int (128 : Int32)), .val (.int (191 : Int32)), .val (.int (((1 : Int32) + (1 : Int32)) + (1 : Int32))), .val (.int (y3 &&& (255 : Int32)))] [])) _
                  refine XS.iload X3.here hx rfl (hb hby d1_92) rfl ?_
                  exact k)
                obtain ⟨fs31, hr31, hrun31, hended31, hW31, hsame31⟩ := X3.leave (v := some (.int (((1 : Int32) + (1 : Int32)) + (1 : Int32)))) (fun h => by rw [Bd.returns] at h; cases h)
                refine ⟨_, _, pre30 _ ?_, hrun31, hended31, _, _, rfl, ?_, ⟨_, rfl⟩, hW31, hsame31.mono (by decide) (by decide)⟩
                · show Steps p.tables e below (T3.setTop (mkF m 94 #[.val (.ref a1), .val (.int p1), .val (.int p2), .val (.int (y0 &&& (255 : Int32))), .val (.int ln), .val (.int (128 : Int32)), .val (.int (191 : Int32)), .val (.int (((1 : Int32) + (1 : Int32)) + (1 : Int32))), .val (.int (y3 &&& (255 : Int32)))] [(.int (((1 : Int32) + (1 : Int32)) + (1 : Int32)))])) _
                  exact retOut X3 hx (t := .int) Bd.returns rfl (Or.inl ⟨rfl, Or.inl rfl, _, rfl⟩) (hb hby d1_94) hr31
                · show Q1 Z a1 wl wo wh cl cL cO cH y0 y1 y2 y3 ln lo hi p1 p2 h0 n0 _ T3.heap _
                  rw [e3]
                  exact ⟨by unfold own_wf; rw [if_pos hc36, if_pos hc44, if_neg hc63, if_neg hc70, if_pos hc36_13, if_pos hc44_15, if_neg hc63_17, if_neg hc70_21, if_pos hc36_25, if_pos hc44_27, if_pos hc63_29], N0, rfl⟩
              have pre32 : ∀ t, Steps p.tables e below (T3.setTop (mkF m 70 #[.val (.ref a1), .val (.int p1), .val (.int p2), .val (.int (y0 &&& (255 : Int32))), .val (.int ln), .val (.int (128 : Int32)), .val (.int (191 : Int32)), .val (.int (((1 : Int32) + (1 : Int32)) + (1 : Int32))), .val (.int (y3 &&& (255 : Int32)))] [(.int (191 : Int32)), (.int (y3 &&& (255 : Int32)))])) t → Steps p.tables e below (s₁.setTop (entryFrame m #[(.ref a1), (.int p1), (.int p2)] 9)) t := fun t k => pre28 t (by
                show Steps p.tables e below (T3.setTop (mkF m 63 #[.val (.ref a1), .val (.int p1), .val (.int p2), .val (.int (y0 &&& (255 : Int32))), .val (.int ln), .val (.int (128 : Int32)), .val (.int (191 : Int32)), .val (.int (((1 : Int32) + (1 : Int32)) + (1 : Int32))), .val (.int (y3 &&& (255 : Int32)))] [(.int (128 : Int32)), (.int (y3 &&& (255 : Int32)))])) _
                refine XS.icmpNo X3.here hx rfl (hb hby d1_63) rfl (flt hc63_29).1 ?_
                show Steps p.tables e below (T3.setTop (mkF m 66 #[.val (.ref a1), .val (.int p1), .val (.int p2), .val (.int (y0 &&& (255 : Int32))), .val (.int ln), .val (.int (128 : Int32)), .val (.int (191 : Int32)), .val (.int (((1 : Int32) + (1 : Int32)) + (1 : Int32))), .val (.int (y3 &&& (255 : Int32)))] [])) _
                refine XS.iload X3.here hx rfl (hb hby d1_66) rfl ?_
                show Steps p.tables e below (T3.setTop (mkF m 68 #[.val (.ref a1), .val (.int p1), .val (.int p2), .val (.int (y0 &&& (255 : Int32))), .val (.int ln), .val (.int (128 : Int32)), .val (.int (191 : Int32)), .val (.int (((1 : Int32) + (1 : Int32)) + (1 : Int32))), .val (.int (y3 &&& (255 : Int32)))] [(.int (y3 &&& (255 : Int32)))])) _
                refine XS.iload X3.here hx rfl (hb hby d1_68) rfl ?_
                exact k)
              by_cases hc70_33 : (191 : Int32) < (y3 &&& (255 : Int32))
              · have pre34 : ∀ t, Steps p.tables e below (T3.setTop (mkF m 94 #[.val (.ref a1), .val (.int p1), .val (.int p2), .val (.int (y0 &&& (255 : Int32))), .val (.int ln), .val (.int (128 : Int32)), .val (.int (191 : Int32)), .val (.int (((1 : Int32) + (1 : Int32)) + (1 : Int32))), .val (.int (y3 &&& (255 : Int32)))] [(.int (((1 : Int32) + (1 : Int32)) + (1 : Int32)))])) t → Steps p.tables e below (s₁.setTop (entryFrame m #[(.ref a1), (.int p1), (.int p2)] 9)) t := fun t k => pre32 t (by
                  show Steps p.tables e below (T3.setTop (mkF m 70 #[.val (.ref a1), .val (.int p1), .val (.int p2), .val (.int (y0 &&& (255 : Int32))), .val (.int ln), .val (.int (128 : Int32)), .val (.int (191 : Int32)), .val (.int (((1 : Int32) + (1 : Int32)) + (1 : Int32))), .val (.int (y3 &&& (255 : Int32)))] [(.int (191 : Int32)), (.int (y3 &&& (255 : Int32)))])) _
                  refine XS.icmpNo X3.here hx rfl (hb hby d1_70) rfl (tlt hc70_33).2.2.2 ?_
                  show Steps p.tables e below (T3.setTop (mkF m 73 #[.val (.ref a1), .val (.int p1), .val (.int p2), .val (.int (y0 &&& (255 : Int32))), .val (.int ln), .val (.int (128 : Int32)), .val (.int (191 : Int32)), .val (.int (((1 : Int32) + (1 : Int32)) + (1 : Int32))), .val (.int (y3 &&& (255 : Int32)))] [])) _
                  refine XS.goto X3.here hx rfl (pc0 := 73) (pc' := 92) rfl (hb hby d1_73) (by decide) (by decide) ?_
                  show Steps p.tables e below (T3.setTop (mkF m 92 #[.val (.ref a1), .val (.int p1), .val (.int p2), .val (.int (y0 &&& (255 : Int32))), .val (.int ln), .val (.int (128 : Int32)), .val (.int (191 : Int32)), .val (.int (((1 : Int32) + (1 : Int32)) + (1 : Int32))), .val (.int (y3 &&& (255 : Int32)))] [])) _
                  refine XS.iload X3.here hx rfl (hb hby d1_92) rfl ?_
                  exact k)
                obtain ⟨fs35, hr35, hrun35, hended35, hW35, hsame35⟩ := X3.leave (v := some (.int (((1 : Int32) + (1 : Int32)) + (1 : Int32)))) (fun h => by rw [Bd.returns] at h; cases h)
                refine ⟨_, _, pre34 _ ?_, hrun35, hended35, _, _, rfl, ?_, ⟨_, rfl⟩, hW35, hsame35.mono (by decide) (by decide)⟩
                · show Steps p.tables e below (T3.setTop (mkF m 94 #[.val (.ref a1), .val (.int p1), .val (.int p2), .val (.int (y0 &&& (255 : Int32))), .val (.int ln), .val (.int (128 : Int32)), .val (.int (191 : Int32)), .val (.int (((1 : Int32) + (1 : Int32)) + (1 : Int32))), .val (.int (y3 &&& (255 : Int32)))] [(.int (((1 : Int32) + (1 : Int32)) + (1 : Int32)))])) _
                  exact retOut X3 hx (t := .int) Bd.returns rfl (Or.inl ⟨rfl, Or.inl rfl, _, rfl⟩) (hb hby d1_94) hr35
                · show Q1 Z a1 wl wo wh cl cL cO cH y0 y1 y2 y3 ln lo hi p1 p2 h0 n0 _ T3.heap _
                  rw [e3]
                  exact ⟨by unfold own_wf; rw [if_pos hc36, if_pos hc44, if_neg hc63, if_neg hc70, if_pos hc36_13, if_pos hc44_15, if_neg hc63_17, if_neg hc70_21, if_pos hc36_25, if_pos hc44_27, if_neg hc63_29, if_pos hc70_33], N0, rfl⟩
              have pre36 : ∀ t, Steps p.tables e below (T3.setTop (mkF m 94 #[.val (.ref a1), .val (.int p1), .val (.int p2), .val (.int (y0 &&& (255 : Int32))), .val (.int ln), .val (.int (128 : Int32)), .val (.int (191 : Int32)), .val (.int ((((1 : Int32) + (1 : Int32)) + (1 : Int32)) + (1 : Int32))), .val (.int (y3 &&& (255 : Int32)))] [(.int ((((1 : Int32) + (1 : Int32)) + (1 : Int32)) + (1 : Int32)))])) t → Steps p.tables e below (s₁.setTop (entryFrame m #[(.ref a1), (.int p1), (.int p2)] 9)) t := fun t k => pre32 t (by
                show Steps p.tables e below (T3.setTop (mkF m 70 #[.val (.ref a1), .val (.int p1), .val (.int p2), .val (.int (y0 &&& (255 : Int32))), .val (.int ln), .val (.int (128 : Int32)), .val (.int (191 : Int32)), .val (.int (((1 : Int32) + (1 : Int32)) + (1 : Int32))), .val (.int (y3 &&& (255 : Int32)))] [(.int (191 : Int32)), (.int (y3 &&& (255 : Int32)))])) _
                refine XS.icmpYes X3.here hx rfl (pc0 := 70) (pc' := 76) rfl (hb hby d1_70) rfl (flt hc70_33).2.2.2 (by decide) (by decide) ?_
                show Steps p.tables e below (T3.setTop (mkF m 76 #[.val (.ref a1), .val (.int p1), .val (.int p2), .val (.int (y0 &&& (255 : Int32))), .val (.int ln), .val (.int (128 : Int32)), .val (.int (191 : Int32)), .val (.int (((1 : Int32) + (1 : Int32)) + (1 : Int32))), .val (.int (y3 &&& (255 : Int32)))] [])) _
                refine XS.iinc X3.here hx rfl (hb hby d1_76) rfl (l' := #[.val (.ref a1), .val (.int p1), .val (.int p2), .val (.int (y0 &&& (255 : Int32))), .val (.int ln), .val (.int (128 : Int32)), .val (.int (191 : Int32)), .val (.int ((((1 : Int32) + (1 : Int32)) + (1 : Int32)) + (1 : Int32))), .val (.int (y3 &&& (255 : Int32)))]) rfl ?_
                show Steps p.tables e below (T3.setTop (mkF m 79 #[.val (.ref a1), .val (.int p1), .val (.int p2), .val (.int (y0 &&& (255 : Int32))), .val (.int ln), .val (.int (128 : Int32)), .val (.int (191 : Int32)), .val (.int ((((1 : Int32) + (1 : Int32)) + (1 : Int32)) + (1 : Int32))), .val (.int (y3 &&& (255 : Int32)))] [])) _
                refine XS.sipush X3.here hx rfl (hb hby d1_79) ?_
                show Steps p.tables e below (T3.setTop (mkF m 82 #[.val (.ref a1), .val (.int p1), .val (.int p2), .val (.int (y0 &&& (255 : Int32))), .val (.int ln), .val (.int (128 : Int32)), .val (.int (191 : Int32)), .val (.int ((((1 : Int32) + (1 : Int32)) + (1 : Int32)) + (1 : Int32))), .val (.int (y3 &&& (255 : Int32)))] [(.int (128 : Int32))])) _
                refine XS.istore X3.here hx rfl (hb hby d1_82) rfl (l' := #[.val (.ref a1), .val (.int p1), .val (.int p2), .val (.int (y0 &&& (255 : Int32))), .val (.int ln), .val (.int (128 : Int32)), .val (.int (191 : Int32)), .val (.int ((((1 : Int32) + (1 : Int32)) + (1 : Int32)) + (1 : Int32))), .val (.int (y3 &&& (255 : Int32)))]) rfl ?_
                show Steps p.tables e below (T3.setTop (mkF m 84 #[.val (.ref a1), .val (.int p1), .val (.int p2), .val (.int (y0 &&& (255 : Int32))), .val (.int ln), .val (.int (128 : Int32)), .val (.int (191 : Int32)), .val (.int ((((1 : Int32) + (1 : Int32)) + (1 : Int32)) + (1 : Int32))), .val (.int (y3 &&& (255 : Int32)))] [])) _
                refine XS.sipush X3.here hx rfl (hb hby d1_84) ?_
                show Steps p.tables e below (T3.setTop (mkF m 87 #[.val (.ref a1), .val (.int p1), .val (.int p2), .val (.int (y0 &&& (255 : Int32))), .val (.int ln), .val (.int (128 : Int32)), .val (.int (191 : Int32)), .val (.int ((((1 : Int32) + (1 : Int32)) + (1 : Int32)) + (1 : Int32))), .val (.int (y3 &&& (255 : Int32)))] [(.int (191 : Int32))])) _
                refine XS.istore X3.here hx rfl (hb hby d1_87) rfl (l' := #[.val (.ref a1), .val (.int p1), .val (.int p2), .val (.int (y0 &&& (255 : Int32))), .val (.int ln), .val (.int (128 : Int32)), .val (.int (191 : Int32)), .val (.int ((((1 : Int32) + (1 : Int32)) + (1 : Int32)) + (1 : Int32))), .val (.int (y3 &&& (255 : Int32)))]) rfl ?_
                show Steps p.tables e below (T3.setTop (mkF m 89 #[.val (.ref a1), .val (.int p1), .val (.int p2), .val (.int (y0 &&& (255 : Int32))), .val (.int ln), .val (.int (128 : Int32)), .val (.int (191 : Int32)), .val (.int ((((1 : Int32) + (1 : Int32)) + (1 : Int32)) + (1 : Int32))), .val (.int (y3 &&& (255 : Int32)))] [])) _
                refine XS.goto X3.here hx rfl (pc0 := 89) (pc' := 32) rfl (hb hby d1_89) (by decide) (by decide) ?_
                show Steps p.tables e below (T3.setTop (mkF m 32 #[.val (.ref a1), .val (.int p1), .val (.int p2), .val (.int (y0 &&& (255 : Int32))), .val (.int ln), .val (.int (128 : Int32)), .val (.int (191 : Int32)), .val (.int ((((1 : Int32) + (1 : Int32)) + (1 : Int32)) + (1 : Int32))), .val (.int (y3 &&& (255 : Int32)))] [])) _
                refine XS.iload X3.here hx rfl (hb hby d1_32) rfl ?_
                show Steps p.tables e below (T3.setTop (mkF m 34 #[.val (.ref a1), .val (.int p1), .val (.int p2), .val (.int (y0 &&& (255 : Int32))), .val (.int ln), .val (.int (128 : Int32)), .val (.int (191 : Int32)), .val (.int ((((1 : Int32) + (1 : Int32)) + (1 : Int32)) + (1 : Int32))), .val (.int (y3 &&& (255 : Int32)))] [(.int ((((1 : Int32) + (1 : Int32)) + (1 : Int32)) + (1 : Int32)))])) _
                refine XS.iload X3.here hx rfl (hb hby d1_34) rfl ?_
                show Steps p.tables e below (T3.setTop (mkF m 36 #[.val (.ref a1), .val (.int p1), .val (.int p2), .val (.int (y0 &&& (255 : Int32))), .val (.int ln), .val (.int (128 : Int32)), .val (.int (191 : Int32)), .val (.int ((((1 : Int32) + (1 : Int32)) + (1 : Int32)) + (1 : Int32))), .val (.int (y3 &&& (255 : Int32)))] [(.int ln), (.int ((((1 : Int32) + (1 : Int32)) + (1 : Int32)) + (1 : Int32)))])) _
                refine XS.icmpYes X3.here hx rfl (pc0 := 36) (pc' := 92) rfl (hb hby d1_36) rfl (flt hl4).2.1 (by decide) (by decide) ?_
                show Steps p.tables e below (T3.setTop (mkF m 92 #[.val (.ref a1), .val (.int p1), .val (.int p2), .val (.int (y0 &&& (255 : Int32))), .val (.int ln), .val (.int (128 : Int32)), .val (.int (191 : Int32)), .val (.int ((((1 : Int32) + (1 : Int32)) + (1 : Int32)) + (1 : Int32))), .val (.int (y3 &&& (255 : Int32)))] [])) _
                refine XS.iload X3.here hx rfl (hb hby d1_92) rfl ?_
                exact k)
              obtain ⟨fs37, hr37, hrun37, hended37, hW37, hsame37⟩ := X3.leave (v := some (.int ((((1 : Int32) + (1 : Int32)) + (1 : Int32)) + (1 : Int32)))) (fun h => by rw [Bd.returns] at h; cases h)
              refine ⟨_, _, pre36 _ ?_, hrun37, hended37, _, _, rfl, ?_, ⟨_, rfl⟩, hW37, hsame37.mono (by decide) (by decide)⟩
              · show Steps p.tables e below (T3.setTop (mkF m 94 #[.val (.ref a1), .val (.int p1), .val (.int p2), .val (.int (y0 &&& (255 : Int32))), .val (.int ln), .val (.int (128 : Int32)), .val (.int (191 : Int32)), .val (.int ((((1 : Int32) + (1 : Int32)) + (1 : Int32)) + (1 : Int32))), .val (.int (y3 &&& (255 : Int32)))] [(.int ((((1 : Int32) + (1 : Int32)) + (1 : Int32)) + (1 : Int32)))])) _
                exact retOut X3 hx (t := .int) Bd.returns rfl (Or.inl ⟨rfl, Or.inl rfl, _, rfl⟩) (hb hby d1_94) hr37
              · show Q1 Z a1 wl wo wh cl cL cO cH y0 y1 y2 y3 ln lo hi p1 p2 h0 n0 _ T3.heap _
                rw [e3]
                exact ⟨by unfold own_wf; rw [if_pos hc36, if_pos hc44, if_neg hc63, if_neg hc70, if_pos hc36_13, if_pos hc44_15, if_neg hc63_17, if_neg hc70_21, if_pos hc36_25, if_pos hc44_27, if_neg hc63_29, if_neg hc70_33], N0, rfl⟩
            have pre38 : ∀ t, Steps p.tables e below (T3.setTop (mkF m 94 #[.val (.ref a1), .val (.int p1), .val (.int p2), .val (.int (y0 &&& (255 : Int32))), .val (.int ln), .val (.int (128 : Int32)), .val (.int (191 : Int32)), .val (.int (((1 : Int32) + (1 : Int32)) + (1 : Int32))), .val (.int (y2 &&& (255 : Int32)))] [(.int (((1 : Int32) + (1 : Int32)) + (1 : Int32)))])) t → Steps p.tables e below (s₁.setTop (entryFrame m #[(.ref a1), (.int p1), (.int p2)] 9)) t := fun t k => pre26 t (by
              show Steps p.tables e below (T3.setTop (mkF m 44 #[.val (.ref a1), .val (.int p1), .val (.int p2), .val (.int (y0 &&& (255 : Int32))), .val (.int ln), .val (.int (128 : Int32)), .val (.int (191 : Int32)), .val (.int (((1 : Int32) + (1 : Int32)) + (1 : Int32))), .val (.int (y2 &&& (255 : Int32)))] [(.int p2), (.int (p1 + (((1 : Int32) + (1 : Int32)) + (1 : Int32))))])) _
              refine XS.icmpYes X3.here hx rfl (pc0 := 44) (pc' := 92) rfl (hb hby d1_44) rfl (flt hc44_27).2.1 (by decide) (by decide) ?_
              show Steps p.tables e below (T3.setTop (mkF m 92 #[.val (.ref a1), .val (.int p1), .val (.int p2), .val (.int (y0 &&& (255 : Int32))), .val (.int ln), .val (.int (128 : Int32)), .val (.int (191 : Int32)), .val (.int (((1 : Int32) + (1 : Int32)) + (1 : Int32))), .val (.int (y2 &&& (255 : Int32)))] [])) _
              refine XS.iload X3.here hx rfl (hb hby d1_92) rfl ?_
              exact k)
            obtain ⟨fs39, hr39, hrun39, hended39, hW39, hsame39⟩ := X3.leave (v := some (.int (((1 : Int32) + (1 : Int32)) + (1 : Int32)))) (fun h => by rw [Bd.returns] at h; cases h)
            refine ⟨_, _, pre38 _ ?_, hrun39, hended39, _, _, rfl, ?_, ⟨_, rfl⟩, hW39, hsame39.mono (by decide) (by decide)⟩
            · show Steps p.tables e below (T3.setTop (mkF m 94 #[.val (.ref a1), .val (.int p1), .val (.int p2), .val (.int (y0 &&& (255 : Int32))), .val (.int ln), .val (.int (128 : Int32)), .val (.int (191 : Int32)), .val (.int (((1 : Int32) + (1 : Int32)) + (1 : Int32))), .val (.int (y2 &&& (255 : Int32)))] [(.int (((1 : Int32) + (1 : Int32)) + (1 : Int32)))])) _
              exact retOut X3 hx (t := .int) Bd.returns rfl (Or.inl ⟨rfl, Or.inl rfl, _, rfl⟩) (hb hby d1_94) hr39
            · show Q1 Z a1 wl wo wh cl cL cO cH y0 y1 y2 y3 ln lo hi p1 p2 h0 n0 _ T3.heap _
              rw [e3]
              exact ⟨by unfold own_wf; rw [if_pos hc36, if_pos hc44, if_neg hc63, if_neg hc70, if_pos hc36_13, if_pos hc44_15, if_neg hc63_17, if_neg hc70_21, if_pos hc36_25, if_neg hc44_27], N0, rfl⟩
          have pre40 : ∀ t, Steps p.tables e below (T3.setTop (mkF m 94 #[.val (.ref a1), .val (.int p1), .val (.int p2), .val (.int (y0 &&& (255 : Int32))), .val (.int ln), .val (.int (128 : Int32)), .val (.int (191 : Int32)), .val (.int (((1 : Int32) + (1 : Int32)) + (1 : Int32))), .val (.int (y2 &&& (255 : Int32)))] [(.int (((1 : Int32) + (1 : Int32)) + (1 : Int32)))])) t → Steps p.tables e below (s₁.setTop (entryFrame m #[(.ref a1), (.int p1), (.int p2)] 9)) t := fun t k => pre24 t (by
            show Steps p.tables e below (T3.setTop (mkF m 36 #[.val (.ref a1), .val (.int p1), .val (.int p2), .val (.int (y0 &&& (255 : Int32))), .val (.int ln), .val (.int (128 : Int32)), .val (.int (191 : Int32)), .val (.int (((1 : Int32) + (1 : Int32)) + (1 : Int32))), .val (.int (y2 &&& (255 : Int32)))] [(.int ln), (.int (((1 : Int32) + (1 : Int32)) + (1 : Int32)))])) _
            refine XS.icmpYes X3.here hx rfl (pc0 := 36) (pc' := 92) rfl (hb hby d1_36) rfl (flt hc36_25).2.1 (by decide) (by decide) ?_
            show Steps p.tables e below (T3.setTop (mkF m 92 #[.val (.ref a1), .val (.int p1), .val (.int p2), .val (.int (y0 &&& (255 : Int32))), .val (.int ln), .val (.int (128 : Int32)), .val (.int (191 : Int32)), .val (.int (((1 : Int32) + (1 : Int32)) + (1 : Int32))), .val (.int (y2 &&& (255 : Int32)))] [])) _
            refine XS.iload X3.here hx rfl (hb hby d1_92) rfl ?_
            exact k)
          obtain ⟨fs41, hr41, hrun41, hended41, hW41, hsame41⟩ := X3.leave (v := some (.int (((1 : Int32) + (1 : Int32)) + (1 : Int32)))) (fun h => by rw [Bd.returns] at h; cases h)
          refine ⟨_, _, pre40 _ ?_, hrun41, hended41, _, _, rfl, ?_, ⟨_, rfl⟩, hW41, hsame41.mono (by decide) (by decide)⟩
          · show Steps p.tables e below (T3.setTop (mkF m 94 #[.val (.ref a1), .val (.int p1), .val (.int p2), .val (.int (y0 &&& (255 : Int32))), .val (.int ln), .val (.int (128 : Int32)), .val (.int (191 : Int32)), .val (.int (((1 : Int32) + (1 : Int32)) + (1 : Int32))), .val (.int (y2 &&& (255 : Int32)))] [(.int (((1 : Int32) + (1 : Int32)) + (1 : Int32)))])) _
            exact retOut X3 hx (t := .int) Bd.returns rfl (Or.inl ⟨rfl, Or.inl rfl, _, rfl⟩) (hb hby d1_94) hr41
          · show Q1 Z a1 wl wo wh cl cL cO cH y0 y1 y2 y3 ln lo hi p1 p2 h0 n0 _ T3.heap _
            rw [e3]
            exact ⟨by unfold own_wf; rw [if_pos hc36, if_pos hc44, if_neg hc63, if_neg hc70, if_pos hc36_13, if_pos hc44_15, if_neg hc63_17, if_neg hc70_21, if_neg hc36_25], N0, rfl⟩
        have pre42 : ∀ t, Steps p.tables e below (T3.setTop (mkF m 94 #[.val (.ref a1), .val (.int p1), .val (.int p2), .val (.int (y0 &&& (255 : Int32))), .val (.int ln), .val (.int (128 : Int32)), .val (.int (191 : Int32)), .val (.int ((1 : Int32) + (1 : Int32))), .val (.int (y1 &&& (255 : Int32)))] [(.int ((1 : Int32) + (1 : Int32)))])) t → Steps p.tables e below (s₁.setTop (entryFrame m #[(.ref a1), (.int p1), (.int p2)] 9)) t := fun t k => pre14 t (by
          show Steps p.tables e below (T3.setTop (mkF m 44 #[.val (.ref a1), .val (.int p1), .val (.int p2), .val (.int (y0 &&& (255 : Int32))), .val (.int ln), .val (.int (128 : Int32)), .val (.int (191 : Int32)), .val (.int ((1 : Int32) + (1 : Int32))), .val (.int (y1 &&& (255 : Int32)))] [(.int p2), (.int (p1 + ((1 : Int32) + (1 : Int32))))])) _
          refine XS.icmpYes X3.here hx rfl (pc0 := 44) (pc' := 92) rfl (hb hby d1_44) rfl (flt hc44_15).2.1 (by decide) (by decide) ?_
          show Steps p.tables e below (T3.setTop (mkF m 92 #[.val (.ref a1), .val (.int p1), .val (.int p2), .val (.int (y0 &&& (255 : Int32))), .val (.int ln), .val (.int (128 : Int32)), .val (.int (191 : Int32)), .val (.int ((1 : Int32) + (1 : Int32))), .val (.int (y1 &&& (255 : Int32)))] [])) _
          refine XS.iload X3.here hx rfl (hb hby d1_92) rfl ?_
          exact k)
        obtain ⟨fs43, hr43, hrun43, hended43, hW43, hsame43⟩ := X3.leave (v := some (.int ((1 : Int32) + (1 : Int32)))) (fun h => by rw [Bd.returns] at h; cases h)
        refine ⟨_, _, pre42 _ ?_, hrun43, hended43, _, _, rfl, ?_, ⟨_, rfl⟩, hW43, hsame43.mono (by decide) (by decide)⟩
        · show Steps p.tables e below (T3.setTop (mkF m 94 #[.val (.ref a1), .val (.int p1), .val (.int p2), .val (.int (y0 &&& (255 : Int32))), .val (.int ln), .val (.int (128 : Int32)), .val (.int (191 : Int32)), .val (.int ((1 : Int32) + (1 : Int32))), .val (.int (y1 &&& (255 : Int32)))] [(.int ((1 : Int32) + (1 : Int32)))])) _
          exact retOut X3 hx (t := .int) Bd.returns rfl (Or.inl ⟨rfl, Or.inl rfl, _, rfl⟩) (hb hby d1_94) hr43
        · show Q1 Z a1 wl wo wh cl cL cO cH y0 y1 y2 y3 ln lo hi p1 p2 h0 n0 _ T3.heap _
          rw [e3]
          exact ⟨by unfold own_wf; rw [if_pos hc36, if_pos hc44, if_neg hc63, if_neg hc70, if_pos hc36_13, if_neg hc44_15], N0, rfl⟩
      have pre44 : ∀ t, Steps p.tables e below (T3.setTop (mkF m 94 #[.val (.ref a1), .val (.int p1), .val (.int p2), .val (.int (y0 &&& (255 : Int32))), .val (.int ln), .val (.int (128 : Int32)), .val (.int (191 : Int32)), .val (.int ((1 : Int32) + (1 : Int32))), .val (.int (y1 &&& (255 : Int32)))] [(.int ((1 : Int32) + (1 : Int32)))])) t → Steps p.tables e below (s₁.setTop (entryFrame m #[(.ref a1), (.int p1), (.int p2)] 9)) t := fun t k => pre12 t (by
        show Steps p.tables e below (T3.setTop (mkF m 36 #[.val (.ref a1), .val (.int p1), .val (.int p2), .val (.int (y0 &&& (255 : Int32))), .val (.int ln), .val (.int (128 : Int32)), .val (.int (191 : Int32)), .val (.int ((1 : Int32) + (1 : Int32))), .val (.int (y1 &&& (255 : Int32)))] [(.int ln), (.int ((1 : Int32) + (1 : Int32)))])) _
        refine XS.icmpYes X3.here hx rfl (pc0 := 36) (pc' := 92) rfl (hb hby d1_36) rfl (flt hc36_13).2.1 (by decide) (by decide) ?_
        show Steps p.tables e below (T3.setTop (mkF m 92 #[.val (.ref a1), .val (.int p1), .val (.int p2), .val (.int (y0 &&& (255 : Int32))), .val (.int ln), .val (.int (128 : Int32)), .val (.int (191 : Int32)), .val (.int ((1 : Int32) + (1 : Int32))), .val (.int (y1 &&& (255 : Int32)))] [])) _
        refine XS.iload X3.here hx rfl (hb hby d1_92) rfl ?_
        exact k)
      obtain ⟨fs45, hr45, hrun45, hended45, hW45, hsame45⟩ := X3.leave (v := some (.int ((1 : Int32) + (1 : Int32)))) (fun h => by rw [Bd.returns] at h; cases h)
      refine ⟨_, _, pre44 _ ?_, hrun45, hended45, _, _, rfl, ?_, ⟨_, rfl⟩, hW45, hsame45.mono (by decide) (by decide)⟩
      · show Steps p.tables e below (T3.setTop (mkF m 94 #[.val (.ref a1), .val (.int p1), .val (.int p2), .val (.int (y0 &&& (255 : Int32))), .val (.int ln), .val (.int (128 : Int32)), .val (.int (191 : Int32)), .val (.int ((1 : Int32) + (1 : Int32))), .val (.int (y1 &&& (255 : Int32)))] [(.int ((1 : Int32) + (1 : Int32)))])) _
        exact retOut X3 hx (t := .int) Bd.returns rfl (Or.inl ⟨rfl, Or.inl rfl, _, rfl⟩) (hb hby d1_94) hr45
      · show Q1 Z a1 wl wo wh cl cL cO cH y0 y1 y2 y3 ln lo hi p1 p2 h0 n0 _ T3.heap _
        rw [e3]
        exact ⟨by unfold own_wf; rw [if_pos hc36, if_pos hc44, if_neg hc63, if_neg hc70, if_neg hc36_13], N0, rfl⟩
    have pre46 : ∀ t, Steps p.tables e below (T3.setTop (mkF m 94 #[.val (.ref a1), .val (.int p1), .val (.int p2), .val (.int (y0 &&& (255 : Int32))), .val (.int ln), .val (.int lo), .val (.int hi), .val (.int (1 : Int32)), .unset] [(.int (1 : Int32))])) t → Steps p.tables e below (s₁.setTop (entryFrame m #[(.ref a1), (.int p1), (.int p2)] 9)) t := fun t k => pre5 t (by
      show Steps p.tables e below (T3.setTop (mkF m 44 #[.val (.ref a1), .val (.int p1), .val (.int p2), .val (.int (y0 &&& (255 : Int32))), .val (.int ln), .val (.int lo), .val (.int hi), .val (.int (1 : Int32)), .unset] [(.int p2), (.int (p1 + (1 : Int32)))])) _
      refine XS.icmpYes X3.here hx rfl (pc0 := 44) (pc' := 92) rfl (hb hby d1_44) rfl (flt hc44).2.1 (by decide) (by decide) ?_
      show Steps p.tables e below (T3.setTop (mkF m 92 #[.val (.ref a1), .val (.int p1), .val (.int p2), .val (.int (y0 &&& (255 : Int32))), .val (.int ln), .val (.int lo), .val (.int hi), .val (.int (1 : Int32)), .unset] [])) _
      refine XS.iload X3.here hx rfl (hb hby d1_92) rfl ?_
      exact k)
    obtain ⟨fs47, hr47, hrun47, hended47, hW47, hsame47⟩ := X3.leave (v := some (.int (1 : Int32))) (fun h => by rw [Bd.returns] at h; cases h)
    refine ⟨_, _, pre46 _ ?_, hrun47, hended47, _, _, rfl, ?_, ⟨_, rfl⟩, hW47, hsame47.mono (by decide) (by decide)⟩
    · show Steps p.tables e below (T3.setTop (mkF m 94 #[.val (.ref a1), .val (.int p1), .val (.int p2), .val (.int (y0 &&& (255 : Int32))), .val (.int ln), .val (.int lo), .val (.int hi), .val (.int (1 : Int32)), .unset] [(.int (1 : Int32))])) _
      exact retOut X3 hx (t := .int) Bd.returns rfl (Or.inl ⟨rfl, Or.inl rfl, _, rfl⟩) (hb hby d1_94) hr47
    · show Q1 Z a1 wl wo wh cl cL cO cH y0 y1 y2 y3 ln lo hi p1 p2 h0 n0 _ T3.heap _
      rw [e3]
      exact ⟨by unfold own_wf; rw [if_pos hc36, if_neg hc44], N0, rfl⟩
  have pre48 : ∀ t, Steps p.tables e below (T3.setTop (mkF m 94 #[.val (.ref a1), .val (.int p1), .val (.int p2), .val (.int (y0 &&& (255 : Int32))), .val (.int ln), .val (.int lo), .val (.int hi), .val (.int (1 : Int32)), .unset] [(.int (1 : Int32))])) t → Steps p.tables e below (s₁.setTop (entryFrame m #[(.ref a1), (.int p1), (.int p2)] 9)) t := fun t k => pre4 t (by
    show Steps p.tables e below (T3.setTop (mkF m 36 #[.val (.ref a1), .val (.int p1), .val (.int p2), .val (.int (y0 &&& (255 : Int32))), .val (.int ln), .val (.int lo), .val (.int hi), .val (.int (1 : Int32)), .unset] [(.int ln), (.int (1 : Int32))])) _
    refine XS.icmpYes X3.here hx rfl (pc0 := 36) (pc' := 92) rfl (hb hby d1_36) rfl (flt hc36).2.1 (by decide) (by decide) ?_
    show Steps p.tables e below (T3.setTop (mkF m 92 #[.val (.ref a1), .val (.int p1), .val (.int p2), .val (.int (y0 &&& (255 : Int32))), .val (.int ln), .val (.int lo), .val (.int hi), .val (.int (1 : Int32)), .unset] [])) _
    refine XS.iload X3.here hx rfl (hb hby d1_92) rfl ?_
    exact k)
  obtain ⟨fs49, hr49, hrun49, hended49, hW49, hsame49⟩ := X3.leave (v := some (.int (1 : Int32))) (fun h => by rw [Bd.returns] at h; cases h)
  refine ⟨_, _, pre48 _ ?_, hrun49, hended49, _, _, rfl, ?_, ⟨_, rfl⟩, hW49, hsame49.mono (by decide) (by decide)⟩
  · show Steps p.tables e below (T3.setTop (mkF m 94 #[.val (.ref a1), .val (.int p1), .val (.int p2), .val (.int (y0 &&& (255 : Int32))), .val (.int ln), .val (.int lo), .val (.int hi), .val (.int (1 : Int32)), .unset] [(.int (1 : Int32))])) _
    exact retOut X3 hx (t := .int) Bd.returns rfl (Or.inl ⟨rfl, Or.inl rfl, _, rfl⟩) (hb hby d1_94) hr49
  · show Q1 Z a1 wl wo wh cl cL cO cH y0 y1 y2 y3 ln lo hi p1 p2 h0 n0 _ T3.heap _
    rw [e3]
    exact ⟨by unfold own_wf; rw [if_neg hc36], N0, rfl⟩

theorem ef_3 (m : MethodId) (x0 : Int32)  : entryFrame m #[(.int x0)] 1 = mkF m 0 #[.val (.int x0)] [] := by first | (simp [entryFrame, mkF, argsToLocals, Value.category]; done) | rfl
def Q3 (Z : State) (p1 : Int32) (h0 : Heap) (n0 : Nat) (v : Option Value) (h : Heap) (L : List Loc) : Prop := v = some (.int (own_cont p1)) ∧ Fr n0 L ∧ h = h0
set_option maxRecDepth 65536 in
set_option maxHeartbeats 40000000 in
theorem rm3 (l : Launch) (Z : State) (a0 : Array Value) (hw : ∀ d ∈ tables_1, d.before a0 Z = true) (ws : List Jvm.Cond) (p1 : Int32) (h0 : Heap) (n0 : Nat) (Z0 : n0 ≤ h0.size)  :
    MetFree l (⟨"com/example/nearprint/nearprint/cli/Utf8ReaderWellFormedPinLaw", "cont", "(I)Z"⟩ : MethodName) (head1 (Jvm.Cond.code (⟨"com/example/nearprint/nearprint/cli/Utf8ReaderWellFormedPinLaw", "cont", "(I)Z"⟩ : MethodName) method_3_code 1 (some .boolean) :: ws) ({ frames := 0, cells := 0, slots := 0, locals := 0 } : Room)) (fun a U => a = #[(.int p1)] ∧ Z.Warmed39 U.vm ∧ U.heap = h0) (fun _ _ _ _ _ => True) (fun _ U o U' => ∃ v L, o = .returned v ∧ Q3 Z p1 h0 n0 v U'.heap L ∧ FrameEnd U o U' L ({ frames := 0, cells := 0, slots := 0, locals := 0 } : Room).cells ({ frames := 0, cells := 0, slots := 0, locals := 0 } : Room).slots) := by
  refine MetFree.of_bodySF (plainFor_of_name pn_0) hisR ?_
  intro p e s m args below meth c s₁ Bd hml0 hP hK
  obtain ⟨rfl, hZ, hh⟩ := hP
  have hx := Bd.exec
  have hby := Bd.bytes
  have hml : c.maxLocals = 1 := hml0
  have hown : s.vm.findClass "com/example/nearprint/nearprint/cli/Utf8ReaderWellFormedPinLaw" = some m.cls := findClass_of_methodNamed Bd.named
  have hnm := (name_of_methodNamed Bd.named Bd.method).1
  have X0 : Stand p l e ({ frames := 0, cells := 0, slots := 0, locals := 0 } : Room) s m #[(.int p1)] below meth c s₁ [] 0 0 := Stand.of_body Bd
  have e0 : s₁.heap = h0 := by rw [← hh, Bd.state]; rfl
  have N0 := Fr.nil n0
  have pre0 : ∀ t, Steps p.tables e below (s₁.setTop (mkF m 0 #[.val (.int p1)] [])) t → Steps p.tables e below (s₁.setTop (entryFrame m #[(.int p1)] 1)) t := fun t k => castTop (ef_3 m p1) k
  have pre1 : ∀ t, Steps p.tables e below (s₁.setTop (mkF m 4 #[.val (.int p1)] [(.int (128 : Int32)), (.int p1)])) t → Steps p.tables e below (s₁.setTop (entryFrame m #[(.int p1)] 1)) t := fun t k => pre0 t (by
    show Steps p.tables e below (s₁.setTop (mkF m 0 #[.val (.int p1)] [])) _
    refine XS.iloadN X0.here hx rfl (hb hby d3_0) rfl ?_
    show Steps p.tables e below (s₁.setTop (mkF m 1 #[.val (.int p1)] [(.int p1)])) _
    refine XS.sipush X0.here hx rfl (hb hby d3_1) ?_
    exact k)
  by_cases hc4 : p1 < (128 : Int32)
  · have pre2 : ∀ t, Steps p.tables e below (s₁.setTop (mkF m 19 #[.val (.int p1)] [(.int (0 : Int32))])) t → Steps p.tables e below (s₁.setTop (entryFrame m #[(.int p1)] 1)) t := fun t k => pre1 t (by
      show Steps p.tables e below (s₁.setTop (mkF m 4 #[.val (.int p1)] [(.int (128 : Int32)), (.int p1)])) _
      refine XS.icmpYes X0.here hx rfl (pc0 := 4) (pc' := 18) rfl (hb hby d3_4) rfl (tlt hc4).1 (by decide) (by decide) ?_
      show Steps p.tables e below (s₁.setTop (mkF m 18 #[.val (.int p1)] [])) _
      refine XS.iconst X0.here hx rfl (hb hby d3_18) ?_
      exact k)
    obtain ⟨fs3, hr3, hrun3, hended3, hW3, hsame3⟩ := X0.leave (v := some (.int (0 : Int32))) (fun h => by rw [Bd.returns] at h; cases h)
    refine ⟨_, _, pre2 _ ?_, hrun3, hended3, _, _, rfl, ?_, ⟨_, rfl⟩, hW3, hsame3.mono (by decide) (by decide)⟩
    · show Steps p.tables e below (s₁.setTop (mkF m 19 #[.val (.int p1)] [(.int (0 : Int32))])) _
      exact retN X0 hx (t := .boolean) Bd.returns (by simp) (hb hby d3_19) hr3
    · show Q3 Z p1 h0 n0 _ s₁.heap _
      rw [e0]
      exact ⟨by unfold own_cont; rw [if_pos hc4], N0, rfl⟩
  have pre4 : ∀ t, Steps p.tables e below (s₁.setTop (mkF m 11 #[.val (.int p1)] [(.int (191 : Int32)), (.int p1)])) t → Steps p.tables e below (s₁.setTop (entryFrame m #[(.int p1)] 1)) t := fun t k => pre1 t (by
    show Steps p.tables e below (s₁.setTop (mkF m 4 #[.val (.int p1)] [(.int (128 : Int32)), (.int p1)])) _
    refine XS.icmpNo X0.here hx rfl (hb hby d3_4) rfl (flt hc4).1 ?_
    show Steps p.tables e below (s₁.setTop (mkF m 7 #[.val (.int p1)] [])) _
    refine XS.iloadN X0.here hx rfl (hb hby d3_7) rfl ?_
    show Steps p.tables e below (s₁.setTop (mkF m 8 #[.val (.int p1)] [(.int p1)])) _
    refine XS.sipush X0.here hx rfl (hb hby d3_8) ?_
    exact k)
  by_cases hc11 : (191 : Int32) < p1
  · have pre5 : ∀ t, Steps p.tables e below (s₁.setTop (mkF m 19 #[.val (.int p1)] [(.int (0 : Int32))])) t → Steps p.tables e below (s₁.setTop (entryFrame m #[(.int p1)] 1)) t := fun t k => pre4 t (by
      show Steps p.tables e below (s₁.setTop (mkF m 11 #[.val (.int p1)] [(.int (191 : Int32)), (.int p1)])) _
      refine XS.icmpYes X0.here hx rfl (pc0 := 11) (pc' := 18) rfl (hb hby d3_11) rfl (tlt hc11).2.2.1 (by decide) (by decide) ?_
      show Steps p.tables e below (s₁.setTop (mkF m 18 #[.val (.int p1)] [])) _
      refine XS.iconst X0.here hx rfl (hb hby d3_18) ?_
      exact k)
    obtain ⟨fs6, hr6, hrun6, hended6, hW6, hsame6⟩ := X0.leave (v := some (.int (0 : Int32))) (fun h => by rw [Bd.returns] at h; cases h)
    refine ⟨_, _, pre5 _ ?_, hrun6, hended6, _, _, rfl, ?_, ⟨_, rfl⟩, hW6, hsame6.mono (by decide) (by decide)⟩
    · show Steps p.tables e below (s₁.setTop (mkF m 19 #[.val (.int p1)] [(.int (0 : Int32))])) _
      exact retN X0 hx (t := .boolean) Bd.returns (by simp) (hb hby d3_19) hr6
    · show Q3 Z p1 h0 n0 _ s₁.heap _
      rw [e0]
      exact ⟨by unfold own_cont; rw [if_neg hc4, if_pos hc11], N0, rfl⟩
  have pre7 : ∀ t, Steps p.tables e below (s₁.setTop (mkF m 19 #[.val (.int p1)] [(.int (1 : Int32))])) t → Steps p.tables e below (s₁.setTop (entryFrame m #[(.int p1)] 1)) t := fun t k => pre4 t (by
    show Steps p.tables e below (s₁.setTop (mkF m 11 #[.val (.int p1)] [(.int (191 : Int32)), (.int p1)])) _
    refine XS.icmpNo X0.here hx rfl (hb hby d3_11) rfl (flt hc11).2.2.1 ?_
    show Steps p.tables e below (s₁.setTop (mkF m 14 #[.val (.int p1)] [])) _
    refine XS.iconst X0.here hx rfl (hb hby d3_14) ?_
    show Steps p.tables e below (s₁.setTop (mkF m 15 #[.val (.int p1)] [(.int (1 : Int32))])) _
    refine XS.goto X0.here hx rfl (pc0 := 15) (pc' := 19) rfl (hb hby d3_15) (by decide) (by decide) ?_
    exact k)
  obtain ⟨fs8, hr8, hrun8, hended8, hW8, hsame8⟩ := X0.leave (v := some (.int (1 : Int32))) (fun h => by rw [Bd.returns] at h; cases h)
  refine ⟨_, _, pre7 _ ?_, hrun8, hended8, _, _, rfl, ?_, ⟨_, rfl⟩, hW8, hsame8.mono (by decide) (by decide)⟩
  · show Steps p.tables e below (s₁.setTop (mkF m 19 #[.val (.int p1)] [(.int (1 : Int32))])) _
    exact retN X0 hx (t := .boolean) Bd.returns (by simp) (hb hby d3_19) hr8
  · show Q3 Z p1 h0 n0 _ s₁.heap _
    rw [e0]
    exact ⟨by unfold own_cont; rw [if_neg hc4, if_neg hc11], N0, rfl⟩

theorem ef_2 (m : MethodId) (x0 : Int32) (x1 : Int32) (x2 : Int32) (x3 : Int32) (x4 : Int32)  : entryFrame m #[(.int x0), (.int x1), (.int x2), (.int x3), (.int x4)] 8 = mkF m 0 #[.val (.int x0), .val (.int x1), .val (.int x2), .val (.int x3), .val (.int x4), .unset, .unset, .unset] [] := by first | (simp [entryFrame, mkF, argsToLocals, Value.category]; done) | rfl
def Q2 (Z : State) (p1 p2 p3 p4 p5 : Int32) (h0 : Heap) (n0 : Nat) (v : Option Value) (h : Heap) (L : List Loc) : Prop := v = some (.int (own_exp p1 p2 p3 p4 p5)) ∧ Fr n0 L ∧ h = h0
set_option maxRecDepth 65536 in
set_option maxHeartbeats 40000000 in
theorem rm2 (l : Launch) (Z : State) (a0 : Array Value) (hw : ∀ d ∈ tables_1, d.before a0 Z = true) (ws : List Jvm.Cond) (p1 p2 p3 p4 p5 : Int32) (h0 : Heap) (n0 : Nat) (Z0 : n0 ≤ h0.size)  :
    MetFree l (⟨"com/example/nearprint/nearprint/cli/Utf8ReaderWellFormedPinLaw", "expected", "(IIIII)I"⟩ : MethodName) (head1 (Jvm.Cond.code (⟨"com/example/nearprint/nearprint/cli/Utf8ReaderWellFormedPinLaw", "expected", "(IIIII)I"⟩ : MethodName) method_4_code 8 (some .int) :: ws) ({ frames := 1, cells := 0, slots := 0, locals := 12 } : Room)) (fun a U => a = #[(.int p1), (.int p2), (.int p3), (.int p4), (.int p5)] ∧ Z.Warmed39 U.vm ∧ U.heap = h0) (fun _ _ _ _ _ => True) (fun _ U o U' => ∃ v L, o = .returned v ∧ Q2 Z p1 p2 p3 p4 p5 h0 n0 v U'.heap L ∧ FrameEnd U o U' L ({ frames := 1, cells := 0, slots := 0, locals := 12 } : Room).cells ({ frames := 1, cells := 0, slots := 0, locals := 12 } : Room).slots) := by
  refine MetFree.of_bodySF (plainFor_of_name pn_0) hisR ?_
  intro p e s m args below meth c s₁ Bd hml0 hP hK
  obtain ⟨rfl, hZ, hh⟩ := hP
  have hx := Bd.exec
  have hby := Bd.bytes
  have hml : c.maxLocals = 8 := hml0
  have hown : s.vm.findClass "com/example/nearprint/nearprint/cli/Utf8ReaderWellFormedPinLaw" = some m.cls := findClass_of_methodNamed Bd.named
  have hnm := (name_of_methodNamed Bd.named Bd.method).1
  have X0 : Stand p l e ({ frames := 1, cells := 0, slots := 0, locals := 12 } : Room) s m #[(.int p1), (.int p2), (.int p3), (.int p4), (.int p5)] below meth c s₁ [] 0 0 := Stand.of_body Bd
  have e0 : s₁.heap = h0 := by rw [← hh, Bd.state]; rfl
  have N0 := Fr.nil n0
  have pre0 : ∀ t, Steps p.tables e below (s₁.setTop (mkF m 0 #[.val (.int p1), .val (.int p2), .val (.int p3), .val (.int p4), .val (.int p5), .unset, .unset, .unset] [])) t → Steps p.tables e below (s₁.setTop (entryFrame m #[(.int p1), (.int p2), (.int p3), (.int p4), (.int p5)] 8)) t := fun t k => castTop (ef_2 m p1 p2 p3 p4 p5) k
  have pre1 : ∀ t, Steps p.tables e below (s₁.setTop (mkF m 68 #[.val (.int p1), .val (.int p2), .val (.int p3), .val (.int p4), .val (.int p5), .val (.int (own_len p1)), .unset, .unset] [])) t → Steps p.tables e below (s₁.setTop (entryFrame m #[(.int p1), (.int p2), (.int p3), (.int p4), (.int p5)] 8)) t := by
    have pre2 : ∀ t, Steps p.tables e below (s₁.setTop (mkF m 4 #[.val (.int p1), .val (.int p2), .val (.int p3), .val (.int p4), .val (.int p5), .unset, .unset, .unset] [(.int (128 : Int32)), (.int p1)])) t → Steps p.tables e below (s₁.setTop (entryFrame m #[(.int p1), (.int p2), (.int p3), (.int p4), (.int p5)] 8)) t := fun t k => pre0 t (by
      show Steps p.tables e below (s₁.setTop (mkF m 0 #[.val (.int p1), .val (.int p2), .val (.int p3), .val (.int p4), .val (.int p5), .unset, .unset, .unset] [])) _
      refine XS.iloadN X0.here hx rfl (hb hby d2_0) rfl ?_
      show Steps p.tables e below (s₁.setTop (mkF m 1 #[.val (.int p1), .val (.int p2), .val (.int p3), .val (.int p4), .val (.int p5), .unset, .unset, .unset] [(.int p1)])) _
      refine XS.sipush X0.here hx rfl (hb hby d2_1) ?_
      exact k)
    by_cases hc4 : p1 < (128 : Int32)
    · have pre3 : ∀ t, Steps p.tables e below (s₁.setTop (mkF m 68 #[.val (.int p1), .val (.int p2), .val (.int p3), .val (.int p4), .val (.int p5), .val (.int (1 : Int32)), .unset, .unset] [])) t → Steps p.tables e below (s₁.setTop (entryFrame m #[(.int p1), (.int p2), (.int p3), (.int p4), (.int p5)] 8)) t := fun t k => pre2 t (by
        show Steps p.tables e below (s₁.setTop (mkF m 4 #[.val (.int p1), .val (.int p2), .val (.int p3), .val (.int p4), .val (.int p5), .unset, .unset, .unset] [(.int (128 : Int32)), (.int p1)])) _
        refine XS.icmpNo X0.here hx rfl (hb hby d2_4) rfl (tlt hc4).2.1 ?_
        show Steps p.tables e below (s₁.setTop (mkF m 7 #[.val (.int p1), .val (.int p2), .val (.int p3), .val (.int p4), .val (.int p5), .unset, .unset, .unset] [])) _
        refine XS.iconst X0.here hx rfl (hb hby d2_7) ?_
        show Steps p.tables e below (s₁.setTop (mkF m 8 #[.val (.int p1), .val (.int p2), .val (.int p3), .val (.int p4), .val (.int p5), .unset, .unset, .unset] [(.int (1 : Int32))])) _
        refine XS.istore X0.here hx rfl (hb hby d2_8) rfl (l' := #[.val (.int p1), .val (.int p2), .val (.int p3), .val (.int p4), .val (.int p5), .val (.int (1 : Int32)), .unset, .unset]) rfl ?_
        show Steps p.tables e below (s₁.setTop (mkF m 10 #[.val (.int p1), .val (.int p2), .val (.int p3), .val (.int p4), .val (.int p5), .val (.int (1 : Int32)), .unset, .unset] [])) _
        refine XS.goto X0.here hx rfl (pc0 := 10) (pc' := 68) rfl (hb hby d2_10) (by decide) (by decide) ?_
        exact k)
      rw [show own_len p1 = (1 : Int32) from by unfold own_len; rw [if_pos hc4]]
      exact pre3
    have pre4 : ∀ t, Steps p.tables e below (s₁.setTop (mkF m 17 #[.val (.int p1), .val (.int p2), .val (.int p3), .val (.int p4), .val (.int p5), .unset, .unset, .unset] [(.int (194 : Int32)), (.int p1)])) t → Steps p.tables e below (s₁.setTop (entryFrame m #[(.int p1), (.int p2), (.int p3), (.int p4), (.int p5)] 8)) t := fun t k => pre2 t (by
      show Steps p.tables e below (s₁.setTop (mkF m 4 #[.val (.int p1), .val (.int p2), .val (.int p3), .val (.int p4), .val (.int p5), .unset, .unset, .unset] [(.int (128 : Int32)), (.int p1)])) _
      refine XS.icmpYes X0.here hx rfl (pc0 := 4) (pc' := 13) rfl (hb hby d2_4) rfl (flt hc4).2.1 (by decide) (by decide) ?_
      show Steps p.tables e below (s₁.setTop (mkF m 13 #[.val (.int p1), .val (.int p2), .val (.int p3), .val (.int p4), .val (.int p5), .unset, .unset, .unset] [])) _
      refine XS.iloadN X0.here hx rfl (hb hby d2_13) rfl ?_
      show Steps p.tables e below (s₁.setTop (mkF m 14 #[.val (.int p1), .val (.int p2), .val (.int p3), .val (.int p4), .val (.int p5), .unset, .unset, .unset] [(.int p1)])) _
      refine XS.sipush X0.here hx rfl (hb hby d2_14) ?_
      exact k)
    by_cases hc17 : p1 < (194 : Int32)
    · have pre5 : ∀ t, Steps p.tables e below (s₁.setTop (mkF m 68 #[.val (.int p1), .val (.int p2), .val (.int p3), .val (.int p4), .val (.int p5), .val (.int (0 : Int32)), .unset, .unset] [])) t → Steps p.tables e below (s₁.setTop (entryFrame m #[(.int p1), (.int p2), (.int p3), (.int p4), (.int p5)] 8)) t := fun t k => pre4 t (by
        show Steps p.tables e below (s₁.setTop (mkF m 17 #[.val (.int p1), .val (.int p2), .val (.int p3), .val (.int p4), .val (.int p5), .unset, .unset, .unset] [(.int (194 : Int32)), (.int p1)])) _
        refine XS.icmpNo X0.here hx rfl (hb hby d2_17) rfl (tlt hc17).2.1 ?_
        show Steps p.tables e below (s₁.setTop (mkF m 20 #[.val (.int p1), .val (.int p2), .val (.int p3), .val (.int p4), .val (.int p5), .unset, .unset, .unset] [])) _
        refine XS.iconst X0.here hx rfl (hb hby d2_20) ?_
        show Steps p.tables e below (s₁.setTop (mkF m 21 #[.val (.int p1), .val (.int p2), .val (.int p3), .val (.int p4), .val (.int p5), .unset, .unset, .unset] [(.int (0 : Int32))])) _
        refine XS.istore X0.here hx rfl (hb hby d2_21) rfl (l' := #[.val (.int p1), .val (.int p2), .val (.int p3), .val (.int p4), .val (.int p5), .val (.int (0 : Int32)), .unset, .unset]) rfl ?_
        show Steps p.tables e below (s₁.setTop (mkF m 23 #[.val (.int p1), .val (.int p2), .val (.int p3), .val (.int p4), .val (.int p5), .val (.int (0 : Int32)), .unset, .unset] [])) _
        refine XS.goto X0.here hx rfl (pc0 := 23) (pc' := 68) rfl (hb hby d2_23) (by decide) (by decide) ?_
        exact k)
      rw [show own_len p1 = (0 : Int32) from by unfold own_len; rw [if_neg hc4, if_pos hc17]]
      exact pre5
    have pre6 : ∀ t, Steps p.tables e below (s₁.setTop (mkF m 30 #[.val (.int p1), .val (.int p2), .val (.int p3), .val (.int p4), .val (.int p5), .unset, .unset, .unset] [(.int (223 : Int32)), (.int p1)])) t → Steps p.tables e below (s₁.setTop (entryFrame m #[(.int p1), (.int p2), (.int p3), (.int p4), (.int p5)] 8)) t := fun t k => pre4 t (by
      show Steps p.tables e below (s₁.setTop (mkF m 17 #[.val (.int p1), .val (.int p2), .val (.int p3), .val (.int p4), .val (.int p5), .unset, .unset, .unset] [(.int (194 : Int32)), (.int p1)])) _
      refine XS.icmpYes X0.here hx rfl (pc0 := 17) (pc' := 26) rfl (hb hby d2_17) rfl (flt hc17).2.1 (by decide) (by decide) ?_
      show Steps p.tables e below (s₁.setTop (mkF m 26 #[.val (.int p1), .val (.int p2), .val (.int p3), .val (.int p4), .val (.int p5), .unset, .unset, .unset] [])) _
      refine XS.iloadN X0.here hx rfl (hb hby d2_26) rfl ?_
      show Steps p.tables e below (s₁.setTop (mkF m 27 #[.val (.int p1), .val (.int p2), .val (.int p3), .val (.int p4), .val (.int p5), .unset, .unset, .unset] [(.int p1)])) _
      refine XS.sipush X0.here hx rfl (hb hby d2_27) ?_
      exact k)
    by_cases hc30 : (223 : Int32) < p1
    · have pre7 : ∀ t, Steps p.tables e below (s₁.setTop (mkF m 43 #[.val (.int p1), .val (.int p2), .val (.int p3), .val (.int p4), .val (.int p5), .unset, .unset, .unset] [(.int (239 : Int32)), (.int p1)])) t → Steps p.tables e below (s₁.setTop (entryFrame m #[(.int p1), (.int p2), (.int p3), (.int p4), (.int p5)] 8)) t := fun t k => pre6 t (by
        show Steps p.tables e below (s₁.setTop (mkF m 30 #[.val (.int p1), .val (.int p2), .val (.int p3), .val (.int p4), .val (.int p5), .unset, .unset, .unset] [(.int (223 : Int32)), (.int p1)])) _
        refine XS.icmpYes X0.here hx rfl (pc0 := 30) (pc' := 39) rfl (hb hby d2_30) rfl (tlt hc30).2.2.1 (by decide) (by decide) ?_
        show Steps p.tables e below (s₁.setTop (mkF m 39 #[.val (.int p1), .val (.int p2), .val (.int p3), .val (.int p4), .val (.int p5), .unset, .unset, .unset] [])) _
        refine XS.iloadN X0.here hx rfl (hb hby d2_39) rfl ?_
        show Steps p.tables e below (s₁.setTop (mkF m 40 #[.val (.int p1), .val (.int p2), .val (.int p3), .val (.int p4), .val (.int p5), .unset, .unset, .unset] [(.int p1)])) _
        refine XS.sipush X0.here hx rfl (hb hby d2_40) ?_
        exact k)
      by_cases hc43 : (239 : Int32) < p1
      · have pre8 : ∀ t, Steps p.tables e below (s₁.setTop (mkF m 56 #[.val (.int p1), .val (.int p2), .val (.int p3), .val (.int p4), .val (.int p5), .unset, .unset, .unset] [(.int (244 : Int32)), (.int p1)])) t → Steps p.tables e below (s₁.setTop (entryFrame m #[(.int p1), (.int p2), (.int p3), (.int p4), (.int p5)] 8)) t := fun t k => pre7 t (by
          show Steps p.tables e below (s₁.setTop (mkF m 43 #[.val (.int p1), .val (.int p2), .val (.int p3), .val (.int p4), .val (.int p5), .unset, .unset, .unset] [(.int (239 : Int32)), (.int p1)])) _
          refine XS.icmpYes X0.here hx rfl (pc0 := 43) (pc' := 52) rfl (hb hby d2_43) rfl (tlt hc43).2.2.1 (by decide) (by decide) ?_
          show Steps p.tables e below (s₁.setTop (mkF m 52 #[.val (.int p1), .val (.int p2), .val (.int p3), .val (.int p4), .val (.int p5), .unset, .unset, .unset] [])) _
          refine XS.iloadN X0.here hx rfl (hb hby d2_52) rfl ?_
          show Steps p.tables e below (s₁.setTop (mkF m 53 #[.val (.int p1), .val (.int p2), .val (.int p3), .val (.int p4), .val (.int p5), .unset, .unset, .unset] [(.int p1)])) _
          refine XS.sipush X0.here hx rfl (hb hby d2_53) ?_
          exact k)
        by_cases hc56 : (244 : Int32) < p1
        · have pre9 : ∀ t, Steps p.tables e below (s₁.setTop (mkF m 68 #[.val (.int p1), .val (.int p2), .val (.int p3), .val (.int p4), .val (.int p5), .val (.int (0 : Int32)), .unset, .unset] [])) t → Steps p.tables e below (s₁.setTop (entryFrame m #[(.int p1), (.int p2), (.int p3), (.int p4), (.int p5)] 8)) t := fun t k => pre8 t (by
            show Steps p.tables e below (s₁.setTop (mkF m 56 #[.val (.int p1), .val (.int p2), .val (.int p3), .val (.int p4), .val (.int p5), .unset, .unset, .unset] [(.int (244 : Int32)), (.int p1)])) _
            refine XS.icmpYes X0.here hx rfl (pc0 := 56) (pc' := 65) rfl (hb hby d2_56) rfl (tlt hc56).2.2.1 (by decide) (by decide) ?_
            show Steps p.tables e below (s₁.setTop (mkF m 65 #[.val (.int p1), .val (.int p2), .val (.int p3), .val (.int p4), .val (.int p5), .unset, .unset, .unset] [])) _
            refine XS.iconst X0.here hx rfl (hb hby d2_65) ?_
            show Steps p.tables e below (s₁.setTop (mkF m 66 #[.val (.int p1), .val (.int p2), .val (.int p3), .val (.int p4), .val (.int p5), .unset, .unset, .unset] [(.int (0 : Int32))])) _
            refine XS.istore X0.here hx rfl (hb hby d2_66) rfl (l' := #[.val (.int p1), .val (.int p2), .val (.int p3), .val (.int p4), .val (.int p5), .val (.int (0 : Int32)), .unset, .unset]) rfl ?_
            exact k)
          rw [show own_len p1 = (0 : Int32) from by unfold own_len; rw [if_neg hc4, if_neg hc17, if_pos hc30, if_pos hc43, if_pos hc56]]
          exact pre9
        have pre10 : ∀ t, Steps p.tables e below (s₁.setTop (mkF m 68 #[.val (.int p1), .val (.int p2), .val (.int p3), .val (.int p4), .val (.int p5), .val (.int (4 : Int32)), .unset, .unset] [])) t → Steps p.tables e below (s₁.setTop (entryFrame m #[(.int p1), (.int p2), (.int p3), (.int p4), (.int p5)] 8)) t := fun t k => pre8 t (by
          show Steps p.tables e below (s₁.setTop (mkF m 56 #[.val (.int p1), .val (.int p2), .val (.int p3), .val (.int p4), .val (.int p5), .unset, .unset, .unset] [(.int (244 : Int32)), (.int p1)])) _
          refine XS.icmpNo X0.here hx rfl (hb hby d2_56) rfl (flt hc56).2.2.1 ?_
          show Steps p.tables e below (s₁.setTop (mkF m 59 #[.val (.int p1), .val (.int p2), .val (.int p3), .val (.int p4), .val (.int p5), .unset, .unset, .unset] [])) _
          refine XS.iconst X0.here hx rfl (hb hby d2_59) ?_
          show Steps p.tables e below (s₁.setTop (mkF m 60 #[.val (.int p1), .val (.int p2), .val (.int p3), .val (.int p4), .val (.int p5), .unset, .unset, .unset] [(.int (4 : Int32))])) _
          refine XS.istore X0.here hx rfl (hb hby d2_60) rfl (l' := #[.val (.int p1), .val (.int p2), .val (.int p3), .val (.int p4), .val (.int p5), .val (.int (4 : Int32)), .unset, .unset]) rfl ?_
          show Steps p.tables e below (s₁.setTop (mkF m 62 #[.val (.int p1), .val (.int p2), .val (.int p3), .val (.int p4), .val (.int p5), .val (.int (4 : Int32)), .unset, .unset] [])) _
          refine XS.goto X0.here hx rfl (pc0 := 62) (pc' := 68) rfl (hb hby d2_62) (by decide) (by decide) ?_
          exact k)
        rw [show own_len p1 = (4 : Int32) from by unfold own_len; rw [if_neg hc4, if_neg hc17, if_pos hc30, if_pos hc43, if_neg hc56]]
        exact pre10
      have pre11 : ∀ t, Steps p.tables e below (s₁.setTop (mkF m 68 #[.val (.int p1), .val (.int p2), .val (.int p3), .val (.int p4), .val (.int p5), .val (.int (3 : Int32)), .unset, .unset] [])) t → Steps p.tables e below (s₁.setTop (entryFrame m #[(.int p1), (.int p2), (.int p3), (.int p4), (.int p5)] 8)) t := fun t k => pre7 t (by
        show Steps p.tables e below (s₁.setTop (mkF m 43 #[.val (.int p1), .val (.int p2), .val (.int p3), .val (.int p4), .val (.int p5), .unset, .unset, .unset] [(.int (239 : Int32)), (.int p1)])) _
        refine XS.icmpNo X0.here hx rfl (hb hby d2_43) rfl (flt hc43).2.2.1 ?_
        show Steps p.tables e below (s₁.setTop (mkF m 46 #[.val (.int p1), .val (.int p2), .val (.int p3), .val (.int p4), .val (.int p5), .unset, .unset, .unset] [])) _
        refine XS.iconst X0.here hx rfl (hb hby d2_46) ?_
        show Steps p.tables e below (s₁.setTop (mkF m 47 #[.val (.int p1), .val (.int p2), .val (.int p3), .val (.int p4), .val (.int p5), .unset, .unset, .unset] [(.int (3 : Int32))])) _
        refine XS.istore X0.here hx rfl (hb hby d2_47) rfl (l' := #[.val (.int p1), .val (.int p2), .val (.int p3), .val (.int p4), .val (.int p5), .val (.int (3 : Int32)), .unset, .unset]) rfl ?_
        show Steps p.tables e below (s₁.setTop (mkF m 49 #[.val (.int p1), .val (.int p2), .val (.int p3), .val (.int p4), .val (.int p5), .val (.int (3 : Int32)), .unset, .unset] [])) _
        refine XS.goto X0.here hx rfl (pc0 := 49) (pc' := 68) rfl (hb hby d2_49) (by decide) (by decide) ?_
        exact k)
      rw [show own_len p1 = (3 : Int32) from by unfold own_len; rw [if_neg hc4, if_neg hc17, if_pos hc30, if_neg hc43]]
      exact pre11
    have pre12 : ∀ t, Steps p.tables e below (s₁.setTop (mkF m 68 #[.val (.int p1), .val (.int p2), .val (.int p3), .val (.int p4), .val (.int p5), .val (.int (2 : Int32)), .unset, .unset] [])) t → Steps p.tables e below (s₁.setTop (entryFrame m #[(.int p1), (.int p2), (.int p3), (.int p4), (.int p5)] 8)) t := fun t k => pre6 t (by
      show Steps p.tables e below (s₁.setTop (mkF m 30 #[.val (.int p1), .val (.int p2), .val (.int p3), .val (.int p4), .val (.int p5), .unset, .unset, .unset] [(.int (223 : Int32)), (.int p1)])) _
      refine XS.icmpNo X0.here hx rfl (hb hby d2_30) rfl (flt hc30).2.2.1 ?_
      show Steps p.tables e below (s₁.setTop (mkF m 33 #[.val (.int p1), .val (.int p2), .val (.int p3), .val (.int p4), .val (.int p5), .unset, .unset, .unset] [])) _
      refine XS.iconst X0.here hx rfl (hb hby d2_33) ?_
      show Steps p.tables e below (s₁.setTop (mkF m 34 #[.val (.int p1), .val (.int p2), .val (.int p3), .val (.int p4), .val (.int p5), .unset, .unset, .unset] [(.int (2 : Int32))])) _
      refine XS.istore X0.here hx rfl (hb hby d2_34) rfl (l' := #[.val (.int p1), .val (.int p2), .val (.int p3), .val (.int p4), .val (.int p5), .val (.int (2 : Int32)), .unset, .unset]) rfl ?_
      show Steps p.tables e below (s₁.setTop (mkF m 36 #[.val (.int p1), .val (.int p2), .val (.int p3), .val (.int p4), .val (.int p5), .val (.int (2 : Int32)), .unset, .unset] [])) _
      refine XS.goto X0.here hx rfl (pc0 := 36) (pc' := 68) rfl (hb hby d2_36) (by decide) (by decide) ?_
      exact k)
    rw [show own_len p1 = (2 : Int32) from by unfold own_len; rw [if_neg hc4, if_neg hc17, if_neg hc30]]
    exact pre12
  have pre13 : ∀ t, Steps p.tables e below (s₁.setTop (mkF m 100 #[.val (.int p1), .val (.int p2), .val (.int p3), .val (.int p4), .val (.int p5), .val (.int (own_len p1)), .val (.int (own_lo p1)), .unset] [])) t → Steps p.tables e below (s₁.setTop (entryFrame m #[(.int p1), (.int p2), (.int p3), (.int p4), (.int p5)] 8)) t := by
    have pre14 : ∀ t, Steps p.tables e below (s₁.setTop (mkF m 77 #[.val (.int p1), .val (.int p2), .val (.int p3), .val (.int p4), .val (.int p5), .val (.int (own_len p1)), .val (.int (128 : Int32)), .unset] [(.int (224 : Int32)), (.int p1)])) t → Steps p.tables e below (s₁.setTop (entryFrame m #[(.int p1), (.int p2), (.int p3), (.int p4), (.int p5)] 8)) t := fun t k => pre1 t (by
      show Steps p.tables e below (s₁.setTop (mkF m 68 #[.val (.int p1), .val (.int p2), .val (.int p3), .val (.int p4), .val (.int p5), .val (.int (own_len p1)), .unset, .unset] [])) _
      refine XS.sipush X0.here hx rfl (hb hby d2_68) ?_
      show Steps p.tables e below (s₁.setTop (mkF m 71 #[.val (.int p1), .val (.int p2), .val (.int p3), .val (.int p4), .val (.int p5), .val (.int (own_len p1)), .unset, .unset] [(.int (128 : Int32))])) _
      refine XS.istore X0.here hx rfl (hb hby d2_71) rfl (l' := #[.val (.int p1), .val (.int p2), .val (.int p3), .val (.int p4), .val (.int p5), .val (.int (own_len p1)), .val (.int (128 : Int32)), .unset]) rfl ?_
      show Steps p.tables e below (s₁.setTop (mkF m 73 #[.val (.int p1), .val (.int p2), .val (.int p3), .val (.int p4), .val (.int p5), .val (.int (own_len p1)), .val (.int (128 : Int32)), .unset] [])) _
      refine XS.iloadN X0.here hx rfl (hb hby d2_73) rfl ?_
      show Steps p.tables e below (s₁.setTop (mkF m 74 #[.val (.int p1), .val (.int p2), .val (.int p3), .val (.int p4), .val (.int p5), .val (.int (own_len p1)), .val (.int (128 : Int32)), .unset] [(.int p1)])) _
      refine XS.sipush X0.here hx rfl (hb hby d2_74) ?_
      exact k)
    by_cases hc77 : p1 = (224 : Int32)
    · have pre15 : ∀ t, Steps p.tables e below (s₁.setTop (mkF m 100 #[.val (.int p1), .val (.int p2), .val (.int p3), .val (.int p4), .val (.int p5), .val (.int (own_len p1)), .val (.int (160 : Int32)), .unset] [])) t → Steps p.tables e below (s₁.setTop (entryFrame m #[(.int p1), (.int p2), (.int p3), (.int p4), (.int p5)] 8)) t := fun t k => pre14 t (by
        show Steps p.tables e below (s₁.setTop (mkF m 77 #[.val (.int p1), .val (.int p2), .val (.int p3), .val (.int p4), .val (.int p5), .val (.int (own_len p1)), .val (.int (128 : Int32)), .unset] [(.int (224 : Int32)), (.int p1)])) _
        refine XS.icmpNo X0.here hx rfl (hb hby d2_77) rfl (teq hc77).2 ?_
        show Steps p.tables e below (s₁.setTop (mkF m 80 #[.val (.int p1), .val (.int p2), .val (.int p3), .val (.int p4), .val (.int p5), .val (.int (own_len p1)), .val (.int (128 : Int32)), .unset] [])) _
        refine XS.sipush X0.here hx rfl (hb hby d2_80) ?_
        show Steps p.tables e below (s₁.setTop (mkF m 83 #[.val (.int p1), .val (.int p2), .val (.int p3), .val (.int p4), .val (.int p5), .val (.int (own_len p1)), .val (.int (128 : Int32)), .unset] [(.int (160 : Int32))])) _
        refine XS.istore X0.here hx rfl (hb hby d2_83) rfl (l' := #[.val (.int p1), .val (.int p2), .val (.int p3), .val (.int p4), .val (.int p5), .val (.int (own_len p1)), .val (.int (160 : Int32)), .unset]) rfl ?_
        show Steps p.tables e below (s₁.setTop (mkF m 85 #[.val (.int p1), .val (.int p2), .val (.int p3), .val (.int p4), .val (.int p5), .val (.int (own_len p1)), .val (.int (160 : Int32)), .unset] [])) _
        refine XS.goto X0.here hx rfl (pc0 := 85) (pc' := 100) rfl (hb hby d2_85) (by decide) (by decide) ?_
        exact k)
      rw [show own_lo p1 = (160 : Int32) from by unfold own_lo; rw [if_pos hc77]]
      exact pre15
    have pre16 : ∀ t, Steps p.tables e below (s₁.setTop (mkF m 92 #[.val (.int p1), .val (.int p2), .val (.int p3), .val (.int p4), .val (.int p5), .val (.int (own_len p1)), .val (.int (128 : Int32)), .unset] [(.int (240 : Int32)), (.int p1)])) t → Steps p.tables e below (s₁.setTop (entryFrame m #[(.int p1), (.int p2), (.int p3), (.int p4), (.int p5)] 8)) t := fun t k => pre14 t (by
      show Steps p.tables e below (s₁.setTop (mkF m 77 #[.val (.int p1), .val (.int p2), .val (.int p3), .val (.int p4), .val (.int p5), .val (.int (own_len p1)), .val (.int (128 : Int32)), .unset] [(.int (224 : Int32)), (.int p1)])) _
      refine XS.icmpYes X0.here hx rfl (pc0 := 77) (pc' := 88) rfl (hb hby d2_77) rfl (feq hc77).2 (by decide) (by decide) ?_
      show Steps p.tables e below (s₁.setTop (mkF m 88 #[.val (.int p1), .val (.int p2), .val (.int p3), .val (.int p4), .val (.int p5), .val (.int (own_len p1)), .val (.int (128 : Int32)), .unset] [])) _
      refine XS.iloadN X0.here hx rfl (hb hby d2_88) rfl ?_
      show Steps p.tables e below (s₁.setTop (mkF m 89 #[.val (.int p1), .val (.int p2), .val (.int p3), .val (.int p4), .val (.int p5), .val (.int (own_len p1)), .val (.int (128 : Int32)), .unset] [(.int p1)])) _
      refine XS.sipush X0.here hx rfl (hb hby d2_89) ?_
      exact k)
    by_cases hc92 : p1 = (240 : Int32)
    · have pre17 : ∀ t, Steps p.tables e below (s₁.setTop (mkF m 100 #[.val (.int p1), .val (.int p2), .val (.int p3), .val (.int p4), .val (.int p5), .val (.int (own_len p1)), .val (.int (144 : Int32)), .unset] [])) t → Steps p.tables e below (s₁.setTop (entryFrame m #[(.int p1), (.int p2), (.int p3), (.int p4), (.int p5)] 8)) t := fun t k => pre16 t (by
        show Steps p.tables e below (s₁.setTop (mkF m 92 #[.val (.int p1), .val (.int p2), .val (.int p3), .val (.int p4), .val (.int p5), .val (.int (own_len p1)), .val (.int (128 : Int32)), .unset] [(.int (240 : Int32)), (.int p1)])) _
        refine XS.icmpNo X0.here hx rfl (hb hby d2_92) rfl (teq hc92).2 ?_
        show Steps p.tables e below (s₁.setTop (mkF m 95 #[.val (.int p1), .val (.int p2), .val (.int p3), .val (.int p4), .val (.int p5), .val (.int (own_len p1)), .val (.int (128 : Int32)), .unset] [])) _
        refine XS.sipush X0.here hx rfl (hb hby d2_95) ?_
        show Steps p.tables e below (s₁.setTop (mkF m 98 #[.val (.int p1), .val (.int p2), .val (.int p3), .val (.int p4), .val (.int p5), .val (.int (own_len p1)), .val (.int (128 : Int32)), .unset] [(.int (144 : Int32))])) _
        refine XS.istore X0.here hx rfl (hb hby d2_98) rfl (l' := #[.val (.int p1), .val (.int p2), .val (.int p3), .val (.int p4), .val (.int p5), .val (.int (own_len p1)), .val (.int (144 : Int32)), .unset]) rfl ?_
        exact k)
      rw [show own_lo p1 = (144 : Int32) from by unfold own_lo; rw [if_neg hc77, if_pos hc92]]
      exact pre17
    have pre18 : ∀ t, Steps p.tables e below (s₁.setTop (mkF m 100 #[.val (.int p1), .val (.int p2), .val (.int p3), .val (.int p4), .val (.int p5), .val (.int (own_len p1)), .val (.int (128 : Int32)), .unset] [])) t → Steps p.tables e below (s₁.setTop (entryFrame m #[(.int p1), (.int p2), (.int p3), (.int p4), (.int p5)] 8)) t := fun t k => pre16 t (by
      show Steps p.tables e below (s₁.setTop (mkF m 92 #[.val (.int p1), .val (.int p2), .val (.int p3), .val (.int p4), .val (.int p5), .val (.int (own_len p1)), .val (.int (128 : Int32)), .unset] [(.int (240 : Int32)), (.int p1)])) _
      refine XS.icmpYes X0.here hx rfl (pc0 := 92) (pc' := 100) rfl (hb hby d2_92) rfl (feq hc92).2 (by decide) (by decide) ?_
      exact k)
    rw [show own_lo p1 = (128 : Int32) from by unfold own_lo; rw [if_neg hc77, if_neg hc92]]
    exact pre18
  have pre19 : ∀ t, Steps p.tables e below (s₁.setTop (mkF m 132 #[.val (.int p1), .val (.int p2), .val (.int p3), .val (.int p4), .val (.int p5), .val (.int (own_len p1)), .val (.int (own_lo p1)), .val (.int (own_hi p1))] [])) t → Steps p.tables e below (s₁.setTop (entryFrame m #[(.int p1), (.int p2), (.int p3), (.int p4), (.int p5)] 8)) t := by
    have pre20 : ∀ t, Steps p.tables e below (s₁.setTop (mkF m 109 #[.val (.int p1), .val (.int p2), .val (.int p3), .val (.int p4), .val (.int p5), .val (.int (own_len p1)), .val (.int (own_lo p1)), .val (.int (191 : Int32))] [(.int (237 : Int32)), (.int p1)])) t → Steps p.tables e below (s₁.setTop (entryFrame m #[(.int p1), (.int p2), (.int p3), (.int p4), (.int p5)] 8)) t := fun t k => pre13 t (by
      show Steps p.tables e below (s₁.setTop (mkF m 100 #[.val (.int p1), .val (.int p2), .val (.int p3), .val (.int p4), .val (.int p5), .val (.int (own_len p1)), .val (.int (own_lo p1)), .unset] [])) _
      refine XS.sipush X0.here hx rfl (hb hby d2_100) ?_
      show Steps p.tables e below (s₁.setTop (mkF m 103 #[.val (.int p1), .val (.int p2), .val (.int p3), .val (.int p4), .val (.int p5), .val (.int (own_len p1)), .val (.int (own_lo p1)), .unset] [(.int (191 : Int32))])) _
      refine XS.istore X0.here hx rfl (hb hby d2_103) rfl (l' := #[.val (.int p1), .val (.int p2), .val (.int p3), .val (.int p4), .val (.int p5), .val (.int (own_len p1)), .val (.int (own_lo p1)), .val (.int (191 : Int32))]) rfl ?_
      show Steps p.tables e below (s₁.setTop (mkF m 105 #[.val (.int p1), .val (.int p2), .val (.int p3), .val (.int p4), .val (.int p5), .val (.int (own_len p1)), .val (.int (own_lo p1)), .val (.int (191 : Int32))] [])) _
      refine XS.iloadN X0.here hx rfl (hb hby d2_105) rfl ?_
      show Steps p.tables e below (s₁.setTop (mkF m 106 #[.val (.int p1), .val (.int p2), .val (.int p3), .val (.int p4), .val (.int p5), .val (.int (own_len p1)), .val (.int (own_lo p1)), .val (.int (191 : Int32))] [(.int p1)])) _
      refine XS.sipush X0.here hx rfl (hb hby d2_106) ?_
      exact k)
    by_cases hc109 : p1 = (237 : Int32)
    · have pre21 : ∀ t, Steps p.tables e below (s₁.setTop (mkF m 132 #[.val (.int p1), .val (.int p2), .val (.int p3), .val (.int p4), .val (.int p5), .val (.int (own_len p1)), .val (.int (own_lo p1)), .val (.int (159 : Int32))] [])) t → Steps p.tables e below (s₁.setTop (entryFrame m #[(.int p1), (.int p2), (.int p3), (.int p4), (.int p5)] 8)) t := fun t k => pre20 t (by
        show Steps p.tables e below (s₁.setTop (mkF m 109 #[.val (.int p1), .val (.int p2), .val (.int p3), .val (.int p4), .val (.int p5), .val (.int (own_len p1)), .val (.int (own_lo p1)), .val (.int (191 : Int32))] [(.int (237 : Int32)), (.int p1)])) _
        refine XS.icmpNo X0.here hx rfl (hb hby d2_109) rfl (teq hc109).2 ?_
        show Steps p.tables e below (s₁.setTop (mkF m 112 #[.val (.int p1), .val (.int p2), .val (.int p3), .val (.int p4), .val (.int p5), .val (.int (own_len p1)), .val (.int (own_lo p1)), .val (.int (191 : Int32))] [])) _
        refine XS.sipush X0.here hx rfl (hb hby d2_112) ?_
        show Steps p.tables e below (s₁.setTop (mkF m 115 #[.val (.int p1), .val (.int p2), .val (.int p3), .val (.int p4), .val (.int p5), .val (.int (own_len p1)), .val (.int (own_lo p1)), .val (.int (191 : Int32))] [(.int (159 : Int32))])) _
        refine XS.istore X0.here hx rfl (hb hby d2_115) rfl (l' := #[.val (.int p1), .val (.int p2), .val (.int p3), .val (.int p4), .val (.int p5), .val (.int (own_len p1)), .val (.int (own_lo p1)), .val (.int (159 : Int32))]) rfl ?_
        show Steps p.tables e below (s₁.setTop (mkF m 117 #[.val (.int p1), .val (.int p2), .val (.int p3), .val (.int p4), .val (.int p5), .val (.int (own_len p1)), .val (.int (own_lo p1)), .val (.int (159 : Int32))] [])) _
        refine XS.goto X0.here hx rfl (pc0 := 117) (pc' := 132) rfl (hb hby d2_117) (by decide) (by decide) ?_
        exact k)
      rw [show own_hi p1 = (159 : Int32) from by unfold own_hi; rw [if_pos hc109]]
      exact pre21
    have pre22 : ∀ t, Steps p.tables e below (s₁.setTop (mkF m 124 #[.val (.int p1), .val (.int p2), .val (.int p3), .val (.int p4), .val (.int p5), .val (.int (own_len p1)), .val (.int (own_lo p1)), .val (.int (191 : Int32))] [(.int (244 : Int32)), (.int p1)])) t → Steps p.tables e below (s₁.setTop (entryFrame m #[(.int p1), (.int p2), (.int p3), (.int p4), (.int p5)] 8)) t := fun t k => pre20 t (by
      show Steps p.tables e below (s₁.setTop (mkF m 109 #[.val (.int p1), .val (.int p2), .val (.int p3), .val (.int p4), .val (.int p5), .val (.int (own_len p1)), .val (.int (own_lo p1)), .val (.int (191 : Int32))] [(.int (237 : Int32)), (.int p1)])) _
      refine XS.icmpYes X0.here hx rfl (pc0 := 109) (pc' := 120) rfl (hb hby d2_109) rfl (feq hc109).2 (by decide) (by decide) ?_
      show Steps p.tables e below (s₁.setTop (mkF m 120 #[.val (.int p1), .val (.int p2), .val (.int p3), .val (.int p4), .val (.int p5), .val (.int (own_len p1)), .val (.int (own_lo p1)), .val (.int (191 : Int32))] [])) _
      refine XS.iloadN X0.here hx rfl (hb hby d2_120) rfl ?_
      show Steps p.tables e below (s₁.setTop (mkF m 121 #[.val (.int p1), .val (.int p2), .val (.int p3), .val (.int p4), .val (.int p5), .val (.int (own_len p1)), .val (.int (own_lo p1)), .val (.int (191 : Int32))] [(.int p1)])) _
      refine XS.sipush X0.here hx rfl (hb hby d2_121) ?_
      exact k)
    by_cases hc124 : p1 = (244 : Int32)
    · have pre23 : ∀ t, Steps p.tables e below (s₁.setTop (mkF m 132 #[.val (.int p1), .val (.int p2), .val (.int p3), .val (.int p4), .val (.int p5), .val (.int (own_len p1)), .val (.int (own_lo p1)), .val (.int (143 : Int32))] [])) t → Steps p.tables e below (s₁.setTop (entryFrame m #[(.int p1), (.int p2), (.int p3), (.int p4), (.int p5)] 8)) t := fun t k => pre22 t (by
        show Steps p.tables e below (s₁.setTop (mkF m 124 #[.val (.int p1), .val (.int p2), .val (.int p3), .val (.int p4), .val (.int p5), .val (.int (own_len p1)), .val (.int (own_lo p1)), .val (.int (191 : Int32))] [(.int (244 : Int32)), (.int p1)])) _
        refine XS.icmpNo X0.here hx rfl (hb hby d2_124) rfl (teq hc124).2 ?_
        show Steps p.tables e below (s₁.setTop (mkF m 127 #[.val (.int p1), .val (.int p2), .val (.int p3), .val (.int p4), .val (.int p5), .val (.int (own_len p1)), .val (.int (own_lo p1)), .val (.int (191 : Int32))] [])) _
        refine XS.sipush X0.here hx rfl (hb hby d2_127) ?_
        show Steps p.tables e below (s₁.setTop (mkF m 130 #[.val (.int p1), .val (.int p2), .val (.int p3), .val (.int p4), .val (.int p5), .val (.int (own_len p1)), .val (.int (own_lo p1)), .val (.int (191 : Int32))] [(.int (143 : Int32))])) _
        refine XS.istore X0.here hx rfl (hb hby d2_130) rfl (l' := #[.val (.int p1), .val (.int p2), .val (.int p3), .val (.int p4), .val (.int p5), .val (.int (own_len p1)), .val (.int (own_lo p1)), .val (.int (143 : Int32))]) rfl ?_
        exact k)
      rw [show own_hi p1 = (143 : Int32) from by unfold own_hi; rw [if_neg hc109, if_pos hc124]]
      exact pre23
    have pre24 : ∀ t, Steps p.tables e below (s₁.setTop (mkF m 132 #[.val (.int p1), .val (.int p2), .val (.int p3), .val (.int p4), .val (.int p5), .val (.int (own_len p1)), .val (.int (own_lo p1)), .val (.int (191 : Int32))] [])) t → Steps p.tables e below (s₁.setTop (entryFrame m #[(.int p1), (.int p2), (.int p3), (.int p4), (.int p5)] 8)) t := fun t k => pre22 t (by
      show Steps p.tables e below (s₁.setTop (mkF m 124 #[.val (.int p1), .val (.int p2), .val (.int p3), .val (.int p4), .val (.int p5), .val (.int (own_len p1)), .val (.int (own_lo p1)), .val (.int (191 : Int32))] [(.int (244 : Int32)), (.int p1)])) _
      refine XS.icmpYes X0.here hx rfl (pc0 := 124) (pc' := 132) rfl (hb hby d2_124) rfl (feq hc124).2 (by decide) (by decide) ?_
      exact k)
    rw [show own_hi p1 = (191 : Int32) from by unfold own_hi; rw [if_neg hc109, if_neg hc124]]
    exact pre24
  have pre25 : ∀ t, Steps p.tables e below (s₁.setTop (mkF m 135 #[.val (.int p1), .val (.int p2), .val (.int p3), .val (.int p4), .val (.int p5), .val (.int (own_len p1)), .val (.int (own_lo p1)), .val (.int (own_hi p1))] [(.int (2 : Int32)), (.int (own_len p1))])) t → Steps p.tables e below (s₁.setTop (entryFrame m #[(.int p1), (.int p2), (.int p3), (.int p4), (.int p5)] 8)) t := fun t k => pre19 t (by
    show Steps p.tables e below (s₁.setTop (mkF m 132 #[.val (.int p1), .val (.int p2), .val (.int p3), .val (.int p4), .val (.int p5), .val (.int (own_len p1)), .val (.int (own_lo p1)), .val (.int (own_hi p1))] [])) _
    refine XS.iload X0.here hx rfl (hb hby d2_132) rfl ?_
    show Steps p.tables e below (s₁.setTop (mkF m 134 #[.val (.int p1), .val (.int p2), .val (.int p3), .val (.int p4), .val (.int p5), .val (.int (own_len p1)), .val (.int (own_lo p1)), .val (.int (own_hi p1))] [(.int (own_len p1))])) _
    refine XS.iconst X0.here hx rfl (hb hby d2_134) ?_
    exact k)
  by_cases hc135 : (own_len p1) < (2 : Int32)
  · have pre26 : ∀ t, Steps p.tables e below (s₁.setTop (mkF m 157 #[.val (.int p1), .val (.int p2), .val (.int p3), .val (.int p4), .val (.int p5), .val (.int (own_len p1)), .val (.int (own_lo p1)), .val (.int (own_hi p1))] [(.int (1 : Int32))])) t → Steps p.tables e below (s₁.setTop (entryFrame m #[(.int p1), (.int p2), (.int p3), (.int p4), (.int p5)] 8)) t := fun t k => pre25 t (by
      show Steps p.tables e below (s₁.setTop (mkF m 135 #[.val (.int p1), .val (.int p2), .val (.int p3), .val (.int p4), .val (.int p5), .val (.int (own_len p1)), .val (.int (own_lo p1)), .val (.int (own_hi p1))] [(.int (2 : Int32)), (.int (own_len p1))])) _
      refine XS.icmpYes X0.here hx rfl (pc0 := 135) (pc' := 156) rfl (hb hby d2_135) rfl (tlt hc135).1 (by decide) (by decide) ?_
      show Steps p.tables e below (s₁.setTop (mkF m 156 #[.val (.int p1), .val (.int p2), .val (.int p3), .val (.int p4), .val (.int p5), .val (.int (own_len p1)), .val (.int (own_lo p1)), .val (.int (own_hi p1))] [])) _
      refine XS.iconst X0.here hx rfl (hb hby d2_156) ?_
      exact k)
    obtain ⟨fs27, hr27, hrun27, hended27, hW27, hsame27⟩ := X0.leave (v := some (.int (1 : Int32))) (fun h => by rw [Bd.returns] at h; cases h)
    refine ⟨_, _, pre26 _ ?_, hrun27, hended27, _, _, rfl, ?_, ⟨_, rfl⟩, hW27, hsame27.mono (by decide) (by decide)⟩
    · show Steps p.tables e below (s₁.setTop (mkF m 157 #[.val (.int p1), .val (.int p2), .val (.int p3), .val (.int p4), .val (.int p5), .val (.int (own_len p1)), .val (.int (own_lo p1)), .val (.int (own_hi p1))] [(.int (1 : Int32))])) _
      exact retOut X0 hx (t := .int) Bd.returns rfl (Or.inl ⟨rfl, Or.inl rfl, _, rfl⟩) (hb hby d2_157) hr27
    · show Q2 Z p1 p2 p3 p4 p5 h0 n0 _ s₁.heap _
      rw [e0]
      exact ⟨by unfold own_exp; rw [if_pos hc135], N0, rfl⟩
  have pre28 : ∀ t, Steps p.tables e below (s₁.setTop (mkF m 141 #[.val (.int p1), .val (.int p2), .val (.int p3), .val (.int p4), .val (.int p5), .val (.int (own_len p1)), .val (.int (own_lo p1)), .val (.int (own_hi p1))] [(.int (2 : Int32)), (.int p5)])) t → Steps p.tables e below (s₁.setTop (entryFrame m #[(.int p1), (.int p2), (.int p3), (.int p4), (.int p5)] 8)) t := fun t k => pre25 t (by
    show Steps p.tables e below (s₁.setTop (mkF m 135 #[.val (.int p1), .val (.int p2), .val (.int p3), .val (.int p4), .val (.int p5), .val (.int (own_len p1)), .val (.int (own_lo p1)), .val (.int (own_hi p1))] [(.int (2 : Int32)), (.int (own_len p1))])) _
    refine XS.icmpNo X0.here hx rfl (hb hby d2_135) rfl (flt hc135).1 ?_
    show Steps p.tables e below (s₁.setTop (mkF m 138 #[.val (.int p1), .val (.int p2), .val (.int p3), .val (.int p4), .val (.int p5), .val (.int (own_len p1)), .val (.int (own_lo p1)), .val (.int (own_hi p1))] [])) _
    refine XS.iload X0.here hx rfl (hb hby d2_138) rfl ?_
    show Steps p.tables e below (s₁.setTop (mkF m 140 #[.val (.int p1), .val (.int p2), .val (.int p3), .val (.int p4), .val (.int p5), .val (.int (own_len p1)), .val (.int (own_lo p1)), .val (.int (own_hi p1))] [(.int p5)])) _
    refine XS.iconst X0.here hx rfl (hb hby d2_140) ?_
    exact k)
  by_cases hc141 : p5 < (2 : Int32)
  · have pre29 : ∀ t, Steps p.tables e below (s₁.setTop (mkF m 157 #[.val (.int p1), .val (.int p2), .val (.int p3), .val (.int p4), .val (.int p5), .val (.int (own_len p1)), .val (.int (own_lo p1)), .val (.int (own_hi p1))] [(.int (1 : Int32))])) t → Steps p.tables e below (s₁.setTop (entryFrame m #[(.int p1), (.int p2), (.int p3), (.int p4), (.int p5)] 8)) t := fun t k => pre28 t (by
      show Steps p.tables e below (s₁.setTop (mkF m 141 #[.val (.int p1), .val (.int p2), .val (.int p3), .val (.int p4), .val (.int p5), .val (.int (own_len p1)), .val (.int (own_lo p1)), .val (.int (own_hi p1))] [(.int (2 : Int32)), (.int p5)])) _
      refine XS.icmpYes X0.here hx rfl (pc0 := 141) (pc' := 156) rfl (hb hby d2_141) rfl (tlt hc141).1 (by decide) (by decide) ?_
      show Steps p.tables e below (s₁.setTop (mkF m 156 #[.val (.int p1), .val (.int p2), .val (.int p3), .val (.int p4), .val (.int p5), .val (.int (own_len p1)), .val (.int (own_lo p1)), .val (.int (own_hi p1))] [])) _
      refine XS.iconst X0.here hx rfl (hb hby d2_156) ?_
      exact k)
    obtain ⟨fs30, hr30, hrun30, hended30, hW30, hsame30⟩ := X0.leave (v := some (.int (1 : Int32))) (fun h => by rw [Bd.returns] at h; cases h)
    refine ⟨_, _, pre29 _ ?_, hrun30, hended30, _, _, rfl, ?_, ⟨_, rfl⟩, hW30, hsame30.mono (by decide) (by decide)⟩
    · show Steps p.tables e below (s₁.setTop (mkF m 157 #[.val (.int p1), .val (.int p2), .val (.int p3), .val (.int p4), .val (.int p5), .val (.int (own_len p1)), .val (.int (own_lo p1)), .val (.int (own_hi p1))] [(.int (1 : Int32))])) _
      exact retOut X0 hx (t := .int) Bd.returns rfl (Or.inl ⟨rfl, Or.inl rfl, _, rfl⟩) (hb hby d2_157) hr30
    · show Q2 Z p1 p2 p3 p4 p5 h0 n0 _ s₁.heap _
      rw [e0]
      exact ⟨by unfold own_exp; rw [if_neg hc135, if_pos hc141], N0, rfl⟩
  have pre31 : ∀ t, Steps p.tables e below (s₁.setTop (mkF m 147 #[.val (.int p1), .val (.int p2), .val (.int p3), .val (.int p4), .val (.int p5), .val (.int (own_len p1)), .val (.int (own_lo p1)), .val (.int (own_hi p1))] [(.int (own_lo p1)), (.int p2)])) t → Steps p.tables e below (s₁.setTop (entryFrame m #[(.int p1), (.int p2), (.int p3), (.int p4), (.int p5)] 8)) t := fun t k => pre28 t (by
    show Steps p.tables e below (s₁.setTop (mkF m 141 #[.val (.int p1), .val (.int p2), .val (.int p3), .val (.int p4), .val (.int p5), .val (.int (own_len p1)), .val (.int (own_lo p1)), .val (.int (own_hi p1))] [(.int (2 : Int32)), (.int p5)])) _
    refine XS.icmpNo X0.here hx rfl (hb hby d2_141) rfl (flt hc141).1 ?_
    show Steps p.tables e below (s₁.setTop (mkF m 144 #[.val (.int p1), .val (.int p2), .val (.int p3), .val (.int p4), .val (.int p5), .val (.int (own_len p1)), .val (.int (own_lo p1)), .val (.int (own_hi p1))] [])) _
    refine XS.iloadN X0.here hx rfl (hb hby d2_144) rfl ?_
    show Steps p.tables e below (s₁.setTop (mkF m 145 #[.val (.int p1), .val (.int p2), .val (.int p3), .val (.int p4), .val (.int p5), .val (.int (own_len p1)), .val (.int (own_lo p1)), .val (.int (own_hi p1))] [(.int p2)])) _
    refine XS.iload X0.here hx rfl (hb hby d2_145) rfl ?_
    exact k)
  by_cases hc147 : p2 < (own_lo p1)
  · have pre32 : ∀ t, Steps p.tables e below (s₁.setTop (mkF m 157 #[.val (.int p1), .val (.int p2), .val (.int p3), .val (.int p4), .val (.int p5), .val (.int (own_len p1)), .val (.int (own_lo p1)), .val (.int (own_hi p1))] [(.int (1 : Int32))])) t → Steps p.tables e below (s₁.setTop (entryFrame m #[(.int p1), (.int p2), (.int p3), (.int p4), (.int p5)] 8)) t := fun t k => pre31 t (by
      show Steps p.tables e below (s₁.setTop (mkF m 147 #[.val (.int p1), .val (.int p2), .val (.int p3), .val (.int p4), .val (.int p5), .val (.int (own_len p1)), .val (.int (own_lo p1)), .val (.int (own_hi p1))] [(.int (own_lo p1)), (.int p2)])) _
      refine XS.icmpYes X0.here hx rfl (pc0 := 147) (pc' := 156) rfl (hb hby d2_147) rfl (tlt hc147).1 (by decide) (by decide) ?_
      show Steps p.tables e below (s₁.setTop (mkF m 156 #[.val (.int p1), .val (.int p2), .val (.int p3), .val (.int p4), .val (.int p5), .val (.int (own_len p1)), .val (.int (own_lo p1)), .val (.int (own_hi p1))] [])) _
      refine XS.iconst X0.here hx rfl (hb hby d2_156) ?_
      exact k)
    obtain ⟨fs33, hr33, hrun33, hended33, hW33, hsame33⟩ := X0.leave (v := some (.int (1 : Int32))) (fun h => by rw [Bd.returns] at h; cases h)
    refine ⟨_, _, pre32 _ ?_, hrun33, hended33, _, _, rfl, ?_, ⟨_, rfl⟩, hW33, hsame33.mono (by decide) (by decide)⟩
    · show Steps p.tables e below (s₁.setTop (mkF m 157 #[.val (.int p1), .val (.int p2), .val (.int p3), .val (.int p4), .val (.int p5), .val (.int (own_len p1)), .val (.int (own_lo p1)), .val (.int (own_hi p1))] [(.int (1 : Int32))])) _
      exact retOut X0 hx (t := .int) Bd.returns rfl (Or.inl ⟨rfl, Or.inl rfl, _, rfl⟩) (hb hby d2_157) hr33
    · show Q2 Z p1 p2 p3 p4 p5 h0 n0 _ s₁.heap _
      rw [e0]
      exact ⟨by unfold own_exp; rw [if_neg hc135, if_neg hc141, if_pos hc147], N0, rfl⟩
  have pre34 : ∀ t, Steps p.tables e below (s₁.setTop (mkF m 153 #[.val (.int p1), .val (.int p2), .val (.int p3), .val (.int p4), .val (.int p5), .val (.int (own_len p1)), .val (.int (own_lo p1)), .val (.int (own_hi p1))] [(.int (own_hi p1)), (.int p2)])) t → Steps p.tables e below (s₁.setTop (entryFrame m #[(.int p1), (.int p2), (.int p3), (.int p4), (.int p5)] 8)) t := fun t k => pre31 t (by
    show Steps p.tables e below (s₁.setTop (mkF m 147 #[.val (.int p1), .val (.int p2), .val (.int p3), .val (.int p4), .val (.int p5), .val (.int (own_len p1)), .val (.int (own_lo p1)), .val (.int (own_hi p1))] [(.int (own_lo p1)), (.int p2)])) _
    refine XS.icmpNo X0.here hx rfl (hb hby d2_147) rfl (flt hc147).1 ?_
    show Steps p.tables e below (s₁.setTop (mkF m 150 #[.val (.int p1), .val (.int p2), .val (.int p3), .val (.int p4), .val (.int p5), .val (.int (own_len p1)), .val (.int (own_lo p1)), .val (.int (own_hi p1))] [])) _
    refine XS.iloadN X0.here hx rfl (hb hby d2_150) rfl ?_
    show Steps p.tables e below (s₁.setTop (mkF m 151 #[.val (.int p1), .val (.int p2), .val (.int p3), .val (.int p4), .val (.int p5), .val (.int (own_len p1)), .val (.int (own_lo p1)), .val (.int (own_hi p1))] [(.int p2)])) _
    refine XS.iload X0.here hx rfl (hb hby d2_151) rfl ?_
    exact k)
  by_cases hc153 : (own_hi p1) < p2
  · have pre35 : ∀ t, Steps p.tables e below (s₁.setTop (mkF m 157 #[.val (.int p1), .val (.int p2), .val (.int p3), .val (.int p4), .val (.int p5), .val (.int (own_len p1)), .val (.int (own_lo p1)), .val (.int (own_hi p1))] [(.int (1 : Int32))])) t → Steps p.tables e below (s₁.setTop (entryFrame m #[(.int p1), (.int p2), (.int p3), (.int p4), (.int p5)] 8)) t := fun t k => pre34 t (by
      show Steps p.tables e below (s₁.setTop (mkF m 153 #[.val (.int p1), .val (.int p2), .val (.int p3), .val (.int p4), .val (.int p5), .val (.int (own_len p1)), .val (.int (own_lo p1)), .val (.int (own_hi p1))] [(.int (own_hi p1)), (.int p2)])) _
      refine XS.icmpNo X0.here hx rfl (hb hby d2_153) rfl (tlt hc153).2.2.2 ?_
      show Steps p.tables e below (s₁.setTop (mkF m 156 #[.val (.int p1), .val (.int p2), .val (.int p3), .val (.int p4), .val (.int p5), .val (.int (own_len p1)), .val (.int (own_lo p1)), .val (.int (own_hi p1))] [])) _
      refine XS.iconst X0.here hx rfl (hb hby d2_156) ?_
      exact k)
    obtain ⟨fs36, hr36, hrun36, hended36, hW36, hsame36⟩ := X0.leave (v := some (.int (1 : Int32))) (fun h => by rw [Bd.returns] at h; cases h)
    refine ⟨_, _, pre35 _ ?_, hrun36, hended36, _, _, rfl, ?_, ⟨_, rfl⟩, hW36, hsame36.mono (by decide) (by decide)⟩
    · show Steps p.tables e below (s₁.setTop (mkF m 157 #[.val (.int p1), .val (.int p2), .val (.int p3), .val (.int p4), .val (.int p5), .val (.int (own_len p1)), .val (.int (own_lo p1)), .val (.int (own_hi p1))] [(.int (1 : Int32))])) _
      exact retOut X0 hx (t := .int) Bd.returns rfl (Or.inl ⟨rfl, Or.inl rfl, _, rfl⟩) (hb hby d2_157) hr36
    · show Q2 Z p1 p2 p3 p4 p5 h0 n0 _ s₁.heap _
      rw [e0]
      exact ⟨by unfold own_exp; rw [if_neg hc135, if_neg hc141, if_neg hc147, if_pos hc153], N0, rfl⟩
  have pre37 : ∀ t, Steps p.tables e below (s₁.setTop (mkF m 161 #[.val (.int p1), .val (.int p2), .val (.int p3), .val (.int p4), .val (.int p5), .val (.int (own_len p1)), .val (.int (own_lo p1)), .val (.int (own_hi p1))] [(.int (3 : Int32)), (.int (own_len p1))])) t → Steps p.tables e below (s₁.setTop (entryFrame m #[(.int p1), (.int p2), (.int p3), (.int p4), (.int p5)] 8)) t := fun t k => pre34 t (by
    show Steps p.tables e below (s₁.setTop (mkF m 153 #[.val (.int p1), .val (.int p2), .val (.int p3), .val (.int p4), .val (.int p5), .val (.int (own_len p1)), .val (.int (own_lo p1)), .val (.int (own_hi p1))] [(.int (own_hi p1)), (.int p2)])) _
    refine XS.icmpYes X0.here hx rfl (pc0 := 153) (pc' := 158) rfl (hb hby d2_153) rfl (flt hc153).2.2.2 (by decide) (by decide) ?_
    show Steps p.tables e below (s₁.setTop (mkF m 158 #[.val (.int p1), .val (.int p2), .val (.int p3), .val (.int p4), .val (.int p5), .val (.int (own_len p1)), .val (.int (own_lo p1)), .val (.int (own_hi p1))] [])) _
    refine XS.iload X0.here hx rfl (hb hby d2_158) rfl ?_
    show Steps p.tables e below (s₁.setTop (mkF m 160 #[.val (.int p1), .val (.int p2), .val (.int p3), .val (.int p4), .val (.int p5), .val (.int (own_len p1)), .val (.int (own_lo p1)), .val (.int (own_hi p1))] [(.int (own_len p1))])) _
    refine XS.iconst X0.here hx rfl (hb hby d2_160) ?_
    exact k)
  by_cases hc161 : (own_len p1) < (3 : Int32)
  · have pre38 : ∀ t, Steps p.tables e below (s₁.setTop (mkF m 178 #[.val (.int p1), .val (.int p2), .val (.int p3), .val (.int p4), .val (.int p5), .val (.int (own_len p1)), .val (.int (own_lo p1)), .val (.int (own_hi p1))] [(.int (2 : Int32))])) t → Steps p.tables e below (s₁.setTop (entryFrame m #[(.int p1), (.int p2), (.int p3), (.int p4), (.int p5)] 8)) t := fun t k => pre37 t (by
      show Steps p.tables e below (s₁.setTop (mkF m 161 #[.val (.int p1), .val (.int p2), .val (.int p3), .val (.int p4), .val (.int p5), .val (.int (own_len p1)), .val (.int (own_lo p1)), .val (.int (own_hi p1))] [(.int (3 : Int32)), (.int (own_len p1))])) _
      refine XS.icmpYes X0.here hx rfl (pc0 := 161) (pc' := 177) rfl (hb hby d2_161) rfl (tlt hc161).1 (by decide) (by decide) ?_
      show Steps p.tables e below (s₁.setTop (mkF m 177 #[.val (.int p1), .val (.int p2), .val (.int p3), .val (.int p4), .val (.int p5), .val (.int (own_len p1)), .val (.int (own_lo p1)), .val (.int (own_hi p1))] [])) _
      refine XS.iconst X0.here hx rfl (hb hby d2_177) ?_
      exact k)
    obtain ⟨fs39, hr39, hrun39, hended39, hW39, hsame39⟩ := X0.leave (v := some (.int (2 : Int32))) (fun h => by rw [Bd.returns] at h; cases h)
    refine ⟨_, _, pre38 _ ?_, hrun39, hended39, _, _, rfl, ?_, ⟨_, rfl⟩, hW39, hsame39.mono (by decide) (by decide)⟩
    · show Steps p.tables e below (s₁.setTop (mkF m 178 #[.val (.int p1), .val (.int p2), .val (.int p3), .val (.int p4), .val (.int p5), .val (.int (own_len p1)), .val (.int (own_lo p1)), .val (.int (own_hi p1))] [(.int (2 : Int32))])) _
      exact retOut X0 hx (t := .int) Bd.returns rfl (Or.inl ⟨rfl, Or.inl rfl, _, rfl⟩) (hb hby d2_178) hr39
    · show Q2 Z p1 p2 p3 p4 p5 h0 n0 _ s₁.heap _
      rw [e0]
      exact ⟨by unfold own_exp; rw [if_neg hc135, if_neg hc141, if_neg hc147, if_neg hc153, if_pos hc161], N0, rfl⟩
  have pre40 : ∀ t, Steps p.tables e below (s₁.setTop (mkF m 167 #[.val (.int p1), .val (.int p2), .val (.int p3), .val (.int p4), .val (.int p5), .val (.int (own_len p1)), .val (.int (own_lo p1)), .val (.int (own_hi p1))] [(.int (3 : Int32)), (.int p5)])) t → Steps p.tables e below (s₁.setTop (entryFrame m #[(.int p1), (.int p2), (.int p3), (.int p4), (.int p5)] 8)) t := fun t k => pre37 t (by
    show Steps p.tables e below (s₁.setTop (mkF m 161 #[.val (.int p1), .val (.int p2), .val (.int p3), .val (.int p4), .val (.int p5), .val (.int (own_len p1)), .val (.int (own_lo p1)), .val (.int (own_hi p1))] [(.int (3 : Int32)), (.int (own_len p1))])) _
    refine XS.icmpNo X0.here hx rfl (hb hby d2_161) rfl (flt hc161).1 ?_
    show Steps p.tables e below (s₁.setTop (mkF m 164 #[.val (.int p1), .val (.int p2), .val (.int p3), .val (.int p4), .val (.int p5), .val (.int (own_len p1)), .val (.int (own_lo p1)), .val (.int (own_hi p1))] [])) _
    refine XS.iload X0.here hx rfl (hb hby d2_164) rfl ?_
    show Steps p.tables e below (s₁.setTop (mkF m 166 #[.val (.int p1), .val (.int p2), .val (.int p3), .val (.int p4), .val (.int p5), .val (.int (own_len p1)), .val (.int (own_lo p1)), .val (.int (own_hi p1))] [(.int p5)])) _
    refine XS.iconst X0.here hx rfl (hb hby d2_166) ?_
    exact k)
  by_cases hc167 : p5 < (3 : Int32)
  · have pre41 : ∀ t, Steps p.tables e below (s₁.setTop (mkF m 178 #[.val (.int p1), .val (.int p2), .val (.int p3), .val (.int p4), .val (.int p5), .val (.int (own_len p1)), .val (.int (own_lo p1)), .val (.int (own_hi p1))] [(.int (2 : Int32))])) t → Steps p.tables e below (s₁.setTop (entryFrame m #[(.int p1), (.int p2), (.int p3), (.int p4), (.int p5)] 8)) t := fun t k => pre40 t (by
      show Steps p.tables e below (s₁.setTop (mkF m 167 #[.val (.int p1), .val (.int p2), .val (.int p3), .val (.int p4), .val (.int p5), .val (.int (own_len p1)), .val (.int (own_lo p1)), .val (.int (own_hi p1))] [(.int (3 : Int32)), (.int p5)])) _
      refine XS.icmpYes X0.here hx rfl (pc0 := 167) (pc' := 177) rfl (hb hby d2_167) rfl (tlt hc167).1 (by decide) (by decide) ?_
      show Steps p.tables e below (s₁.setTop (mkF m 177 #[.val (.int p1), .val (.int p2), .val (.int p3), .val (.int p4), .val (.int p5), .val (.int (own_len p1)), .val (.int (own_lo p1)), .val (.int (own_hi p1))] [])) _
      refine XS.iconst X0.here hx rfl (hb hby d2_177) ?_
      exact k)
    obtain ⟨fs42, hr42, hrun42, hended42, hW42, hsame42⟩ := X0.leave (v := some (.int (2 : Int32))) (fun h => by rw [Bd.returns] at h; cases h)
    refine ⟨_, _, pre41 _ ?_, hrun42, hended42, _, _, rfl, ?_, ⟨_, rfl⟩, hW42, hsame42.mono (by decide) (by decide)⟩
    · show Steps p.tables e below (s₁.setTop (mkF m 178 #[.val (.int p1), .val (.int p2), .val (.int p3), .val (.int p4), .val (.int p5), .val (.int (own_len p1)), .val (.int (own_lo p1)), .val (.int (own_hi p1))] [(.int (2 : Int32))])) _
      exact retOut X0 hx (t := .int) Bd.returns rfl (Or.inl ⟨rfl, Or.inl rfl, _, rfl⟩) (hb hby d2_178) hr42
    · show Q2 Z p1 p2 p3 p4 p5 h0 n0 _ s₁.heap _
      rw [e0]
      exact ⟨by unfold own_exp; rw [if_neg hc135, if_neg hc141, if_neg hc147, if_neg hc153, if_neg hc161, if_pos hc167], N0, rfl⟩
  obtain ⟨_, _, ⟨T43, L43, k43, n43⟩, -, X43, ⟨Lc43, hQ43, l43, y43, z43⟩, st43⟩ := Jvm.LawKit.callS X0 hx (y := (⟨"com/example/nearprint/nearprint/cli/Utf8ReaderWellFormedPinLaw", "cont", "(I)Z"⟩ : MethodName)) hown (mvT hZ (hw _ (List.mem_of_getElem? (i := 15) rfl))) (mvT hZ (hw _ (List.mem_of_getElem? (i := 16) rfl))) (mvT hZ (hw _ (List.mem_of_getElem? (i := 13) rfl))) (mvT hZ (hw _ (List.mem_of_getElem? (i := 17) rfl))) (by decide) (backOf (W := 0) (rm3 l Z a0 hw [] p3 h0 n0 Z0) hZ (hw _ (List.mem_of_getElem? (i := 17) rfl)) (hw _ (List.mem_of_getElem? (i := 13) rfl)) (by decide) (by decide)) (g := (mkF m 171 #[.val (.int p1), .val (.int p2), .val (.int p3), .val (.int p4), .val (.int p5), .val (.int (own_len p1)), .val (.int (own_lo p1)), .val (.int (own_hi p1))] [(.int p3)])) rfl (by rw [hml]; rfl) (argsL := [(.int p3)]) (rest := []) (lenOf pd_3 rfl) rfl (by show 2 * 0 + _ ≤ _; exact Nat.le_of_eq rfl) (hb hby d2_171) (fun _ _ => ⟨rfl, e0, (by decide : 0 + 0 ≤ _), (by decide : 0 + 0 ≤ _)⟩)
  dsimp only [Pt.U, Pt.locs, Pt.cells, Pt.slots] at X43 l43 y43 z43 st43 hQ43
  subst l43 y43 z43
  obtain ⟨rfl, N43q, q43⟩ := hQ43
  have N43 := Fr.app N0 N43q
  have pre44 : ∀ t, Steps p.tables e below (T43.setTop (mkF m 174 #[.val (.int p1), .val (.int p2), .val (.int p3), .val (.int p4), .val (.int p5), .val (.int (own_len p1)), .val (.int (own_lo p1)), .val (.int (own_hi p1))] [(.int (own_cont p3))])) t → Steps p.tables e below (s₁.setTop (entryFrame m #[(.int p1), (.int p2), (.int p3), (.int p4), (.int p5)] 8)) t := fun t k => pre40 t (by
    show Steps p.tables e below (s₁.setTop (mkF m 167 #[.val (.int p1), .val (.int p2), .val (.int p3), .val (.int p4), .val (.int p5), .val (.int (own_len p1)), .val (.int (own_lo p1)), .val (.int (own_hi p1))] [(.int (3 : Int32)), (.int p5)])) _
    refine XS.icmpNo X0.here hx rfl (hb hby d2_167) rfl (flt hc167).1 ?_
    show Steps p.tables e below (s₁.setTop (mkF m 170 #[.val (.int p1), .val (.int p2), .val (.int p3), .val (.int p4), .val (.int p5), .val (.int (own_len p1)), .val (.int (own_lo p1)), .val (.int (own_hi p1))] [])) _
    refine XS.iloadN X0.here hx rfl (hb hby d2_170) rfl ?_
    show Steps p.tables e below (s₁.setTop (mkF m 171 #[.val (.int p1), .val (.int p2), .val (.int p3), .val (.int p4), .val (.int p5), .val (.int (own_len p1)), .val (.int (own_lo p1)), .val (.int (own_hi p1))] [(.int p3)])) _
    refine st43 _ ?_
    exact k)
  by_cases hc174 : (own_cont p3) = (0 : Int32)
  · have pre45 : ∀ t, Steps p.tables e below (T43.setTop (mkF m 178 #[.val (.int p1), .val (.int p2), .val (.int p3), .val (.int p4), .val (.int p5), .val (.int (own_len p1)), .val (.int (own_lo p1)), .val (.int (own_hi p1))] [(.int (2 : Int32))])) t → Steps p.tables e below (s₁.setTop (entryFrame m #[(.int p1), (.int p2), (.int p3), (.int p4), (.int p5)] 8)) t := fun t k => pre44 t (by
      show Steps p.tables e below (T43.setTop (mkF m 174 #[.val (.int p1), .val (.int p2), .val (.int p3), .val (.int p4), .val (.int p5), .val (.int (own_len p1)), .val (.int (own_lo p1)), .val (.int (own_hi p1))] [(.int (own_cont p3))])) _
      refine XS.ifNo X43.here hx rfl (hb hby d2_174) rfl ((if0 _ _).trans (teq hc174).2) ?_
      show Steps p.tables e below (T43.setTop (mkF m 177 #[.val (.int p1), .val (.int p2), .val (.int p3), .val (.int p4), .val (.int p5), .val (.int (own_len p1)), .val (.int (own_lo p1)), .val (.int (own_hi p1))] [])) _
      refine XS.iconst X43.here hx rfl (hb hby d2_177) ?_
      exact k)
    obtain ⟨fs46, hr46, hrun46, hended46, hW46, hsame46⟩ := X43.leave (v := some (.int (2 : Int32))) (fun h => by rw [Bd.returns] at h; cases h)
    refine ⟨_, _, pre45 _ ?_, hrun46, hended46, _, _, rfl, ?_, ⟨_, rfl⟩, hW46, hsame46.mono (by decide) (by decide)⟩
    · show Steps p.tables e below (T43.setTop (mkF m 178 #[.val (.int p1), .val (.int p2), .val (.int p3), .val (.int p4), .val (.int p5), .val (.int (own_len p1)), .val (.int (own_lo p1)), .val (.int (own_hi p1))] [(.int (2 : Int32))])) _
      exact retOut X43 hx (t := .int) Bd.returns rfl (Or.inl ⟨rfl, Or.inl rfl, _, rfl⟩) (hb hby d2_178) hr46
    · show Q2 Z p1 p2 p3 p4 p5 h0 n0 _ T43.heap _
      rw [q43]
      exact ⟨by unfold own_exp; rw [if_neg hc135, if_neg hc141, if_neg hc147, if_neg hc153, if_neg hc161, if_neg hc167, if_pos hc174], N43, rfl⟩
  have pre47 : ∀ t, Steps p.tables e below (T43.setTop (mkF m 182 #[.val (.int p1), .val (.int p2), .val (.int p3), .val (.int p4), .val (.int p5), .val (.int (own_len p1)), .val (.int (own_lo p1)), .val (.int (own_hi p1))] [(.int (4 : Int32)), (.int (own_len p1))])) t → Steps p.tables e below (s₁.setTop (entryFrame m #[(.int p1), (.int p2), (.int p3), (.int p4), (.int p5)] 8)) t := fun t k => pre44 t (by
    show Steps p.tables e below (T43.setTop (mkF m 174 #[.val (.int p1), .val (.int p2), .val (.int p3), .val (.int p4), .val (.int p5), .val (.int (own_len p1)), .val (.int (own_lo p1)), .val (.int (own_hi p1))] [(.int (own_cont p3))])) _
    refine XS.ifYes X43.here hx rfl (pc0 := 174) (pc' := 179) rfl (hb hby d2_174) rfl ((if0 _ _).trans (feq hc174).2) (by decide) (by decide) ?_
    show Steps p.tables e below (T43.setTop (mkF m 179 #[.val (.int p1), .val (.int p2), .val (.int p3), .val (.int p4), .val (.int p5), .val (.int (own_len p1)), .val (.int (own_lo p1)), .val (.int (own_hi p1))] [])) _
    refine XS.iload X43.here hx rfl (hb hby d2_179) rfl ?_
    show Steps p.tables e below (T43.setTop (mkF m 181 #[.val (.int p1), .val (.int p2), .val (.int p3), .val (.int p4), .val (.int p5), .val (.int (own_len p1)), .val (.int (own_lo p1)), .val (.int (own_hi p1))] [(.int (own_len p1))])) _
    refine XS.iconst X43.here hx rfl (hb hby d2_181) ?_
    exact k)
  by_cases hc182 : (own_len p1) < (4 : Int32)
  · have pre48 : ∀ t, Steps p.tables e below (T43.setTop (mkF m 199 #[.val (.int p1), .val (.int p2), .val (.int p3), .val (.int p4), .val (.int p5), .val (.int (own_len p1)), .val (.int (own_lo p1)), .val (.int (own_hi p1))] [(.int (3 : Int32))])) t → Steps p.tables e below (s₁.setTop (entryFrame m #[(.int p1), (.int p2), (.int p3), (.int p4), (.int p5)] 8)) t := fun t k => pre47 t (by
      show Steps p.tables e below (T43.setTop (mkF m 182 #[.val (.int p1), .val (.int p2), .val (.int p3), .val (.int p4), .val (.int p5), .val (.int (own_len p1)), .val (.int (own_lo p1)), .val (.int (own_hi p1))] [(.int (4 : Int32)), (.int (own_len p1))])) _
      refine XS.icmpYes X43.here hx rfl (pc0 := 182) (pc' := 198) rfl (hb hby d2_182) rfl (tlt hc182).1 (by decide) (by decide) ?_
      show Steps p.tables e below (T43.setTop (mkF m 198 #[.val (.int p1), .val (.int p2), .val (.int p3), .val (.int p4), .val (.int p5), .val (.int (own_len p1)), .val (.int (own_lo p1)), .val (.int (own_hi p1))] [])) _
      refine XS.iconst X43.here hx rfl (hb hby d2_198) ?_
      exact k)
    obtain ⟨fs49, hr49, hrun49, hended49, hW49, hsame49⟩ := X43.leave (v := some (.int (3 : Int32))) (fun h => by rw [Bd.returns] at h; cases h)
    refine ⟨_, _, pre48 _ ?_, hrun49, hended49, _, _, rfl, ?_, ⟨_, rfl⟩, hW49, hsame49.mono (by decide) (by decide)⟩
    · show Steps p.tables e below (T43.setTop (mkF m 199 #[.val (.int p1), .val (.int p2), .val (.int p3), .val (.int p4), .val (.int p5), .val (.int (own_len p1)), .val (.int (own_lo p1)), .val (.int (own_hi p1))] [(.int (3 : Int32))])) _
      exact retOut X43 hx (t := .int) Bd.returns rfl (Or.inl ⟨rfl, Or.inl rfl, _, rfl⟩) (hb hby d2_199) hr49
    · show Q2 Z p1 p2 p3 p4 p5 h0 n0 _ T43.heap _
      rw [q43]
      exact ⟨by unfold own_exp; rw [if_neg hc135, if_neg hc141, if_neg hc147, if_neg hc153, if_neg hc161, if_neg hc167, if_neg hc174, if_pos hc182], N43, rfl⟩
  have pre50 : ∀ t, Steps p.tables e below (T43.setTop (mkF m 188 #[.val (.int p1), .val (.int p2), .val (.int p3), .val (.int p4), .val (.int p5), .val (.int (own_len p1)), .val (.int (own_lo p1)), .val (.int (own_hi p1))] [(.int (4 : Int32)), (.int p5)])) t → Steps p.tables e below (s₁.setTop (entryFrame m #[(.int p1), (.int p2), (.int p3), (.int p4), (.int p5)] 8)) t := fun t k => pre47 t (by
    show Steps p.tables e below (T43.setTop (mkF m 182 #[.val (.int p1), .val (.int p2), .val (.int p3), .val (.int p4), .val (.int p5), .val (.int (own_len p1)), .val (.int (own_lo p1)), .val (.int (own_hi p1))] [(.int (4 : Int32)), (.int (own_len p1))])) _
    refine XS.icmpNo X43.here hx rfl (hb hby d2_182) rfl (flt hc182).1 ?_
    show Steps p.tables e below (T43.setTop (mkF m 185 #[.val (.int p1), .val (.int p2), .val (.int p3), .val (.int p4), .val (.int p5), .val (.int (own_len p1)), .val (.int (own_lo p1)), .val (.int (own_hi p1))] [])) _
    refine XS.iload X43.here hx rfl (hb hby d2_185) rfl ?_
    show Steps p.tables e below (T43.setTop (mkF m 187 #[.val (.int p1), .val (.int p2), .val (.int p3), .val (.int p4), .val (.int p5), .val (.int (own_len p1)), .val (.int (own_lo p1)), .val (.int (own_hi p1))] [(.int p5)])) _
    refine XS.iconst X43.here hx rfl (hb hby d2_187) ?_
    exact k)
  by_cases hc188 : p5 < (4 : Int32)
  · have pre51 : ∀ t, Steps p.tables e below (T43.setTop (mkF m 199 #[.val (.int p1), .val (.int p2), .val (.int p3), .val (.int p4), .val (.int p5), .val (.int (own_len p1)), .val (.int (own_lo p1)), .val (.int (own_hi p1))] [(.int (3 : Int32))])) t → Steps p.tables e below (s₁.setTop (entryFrame m #[(.int p1), (.int p2), (.int p3), (.int p4), (.int p5)] 8)) t := fun t k => pre50 t (by
      show Steps p.tables e below (T43.setTop (mkF m 188 #[.val (.int p1), .val (.int p2), .val (.int p3), .val (.int p4), .val (.int p5), .val (.int (own_len p1)), .val (.int (own_lo p1)), .val (.int (own_hi p1))] [(.int (4 : Int32)), (.int p5)])) _
      refine XS.icmpYes X43.here hx rfl (pc0 := 188) (pc' := 198) rfl (hb hby d2_188) rfl (tlt hc188).1 (by decide) (by decide) ?_
      show Steps p.tables e below (T43.setTop (mkF m 198 #[.val (.int p1), .val (.int p2), .val (.int p3), .val (.int p4), .val (.int p5), .val (.int (own_len p1)), .val (.int (own_lo p1)), .val (.int (own_hi p1))] [])) _
      refine XS.iconst X43.here hx rfl (hb hby d2_198) ?_
      exact k)
    obtain ⟨fs52, hr52, hrun52, hended52, hW52, hsame52⟩ := X43.leave (v := some (.int (3 : Int32))) (fun h => by rw [Bd.returns] at h; cases h)
    refine ⟨_, _, pre51 _ ?_, hrun52, hended52, _, _, rfl, ?_, ⟨_, rfl⟩, hW52, hsame52.mono (by decide) (by decide)⟩
    · show Steps p.tables e below (T43.setTop (mkF m 199 #[.val (.int p1), .val (.int p2), .val (.int p3), .val (.int p4), .val (.int p5), .val (.int (own_len p1)), .val (.int (own_lo p1)), .val (.int (own_hi p1))] [(.int (3 : Int32))])) _
      exact retOut X43 hx (t := .int) Bd.returns rfl (Or.inl ⟨rfl, Or.inl rfl, _, rfl⟩) (hb hby d2_199) hr52
    · show Q2 Z p1 p2 p3 p4 p5 h0 n0 _ T43.heap _
      rw [q43]
      exact ⟨by unfold own_exp; rw [if_neg hc135, if_neg hc141, if_neg hc147, if_neg hc153, if_neg hc161, if_neg hc167, if_neg hc174, if_neg hc182, if_pos hc188], N43, rfl⟩
  obtain ⟨_, _, ⟨T53, L53, k53, n53⟩, -, X53, ⟨Lc53, hQ53, l53, y53, z53⟩, st53⟩ := Jvm.LawKit.callS X43 hx (y := (⟨"com/example/nearprint/nearprint/cli/Utf8ReaderWellFormedPinLaw", "cont", "(I)Z"⟩ : MethodName)) hown (mvT hZ (hw _ (List.mem_of_getElem? (i := 15) rfl))) (mvT hZ (hw _ (List.mem_of_getElem? (i := 16) rfl))) (mvT hZ (hw _ (List.mem_of_getElem? (i := 13) rfl))) (mvT hZ (hw _ (List.mem_of_getElem? (i := 17) rfl))) (by decide) (backOf (W := 0) (rm3 l Z a0 hw [] p4 h0 n0 Z0) hZ (hw _ (List.mem_of_getElem? (i := 17) rfl)) (hw _ (List.mem_of_getElem? (i := 13) rfl)) (by decide) (by decide)) (g := (mkF m 192 #[.val (.int p1), .val (.int p2), .val (.int p3), .val (.int p4), .val (.int p5), .val (.int (own_len p1)), .val (.int (own_lo p1)), .val (.int (own_hi p1))] [(.int p4)])) rfl (by rw [hml]; rfl) (argsL := [(.int p4)]) (rest := []) (lenOf pd_3 rfl) rfl (by show 2 * 0 + _ ≤ _; exact Nat.le_of_eq rfl) (hb hby d2_192) (fun _ _ => ⟨rfl, q43, (by decide : 0 + 0 ≤ _), (by decide : 0 + 0 ≤ _)⟩)
  dsimp only [Pt.U, Pt.locs, Pt.cells, Pt.slots] at X53 l53 y53 z53 st53 hQ53
  subst l53 y53 z53
  obtain ⟨rfl, N53q, q53⟩ := hQ53
  have N53 := Fr.app N43 N53q
  have pre54 : ∀ t, Steps p.tables e below (T53.setTop (mkF m 195 #[.val (.int p1), .val (.int p2), .val (.int p3), .val (.int p4), .val (.int p5), .val (.int (own_len p1)), .val (.int (own_lo p1)), .val (.int (own_hi p1))] [(.int (own_cont p4))])) t → Steps p.tables e below (s₁.setTop (entryFrame m #[(.int p1), (.int p2), (.int p3), (.int p4), (.int p5)] 8)) t := fun t k => pre50 t (by
    show Steps p.tables e below (T43.setTop (mkF m 188 #[.val (.int p1), .val (.int p2), .val (.int p3), .val (.int p4), .val (.int p5), .val (.int (own_len p1)), .val (.int (own_lo p1)), .val (.int (own_hi p1))] [(.int (4 : Int32)), (.int p5)])) _
    refine XS.icmpNo X43.here hx rfl (hb hby d2_188) rfl (flt hc188).1 ?_
    show Steps p.tables e below (T43.setTop (mkF m 191 #[.val (.int p1), .val (.int p2), .val (.int p3), .val (.int p4), .val (.int p5), .val (.int (own_len p1)), .val (.int (own_lo p1)), .val (.int (own_hi p1))] [])) _
    refine XS.iloadN X43.here hx rfl (hb hby d2_191) rfl ?_
    show Steps p.tables e below (T43.setTop (mkF m 192 #[.val (.int p1), .val (.int p2), .val (.int p3), .val (.int p4), .val (.int p5), .val (.int (own_len p1)), .val (.int (own_lo p1)), .val (.int (own_hi p1))] [(.int p4)])) _
    refine st53 _ ?_
    exact k)
  by_cases hc195 : (own_cont p4) = (0 : Int32)
  · have pre55 : ∀ t, Steps p.tables e below (T53.setTop (mkF m 199 #[.val (.int p1), .val (.int p2), .val (.int p3), .val (.int p4), .val (.int p5), .val (.int (own_len p1)), .val (.int (own_lo p1)), .val (.int (own_hi p1))] [(.int (3 : Int32))])) t → Steps p.tables e below (s₁.setTop (entryFrame m #[(.int p1), (.int p2), (.int p3), (.int p4), (.int p5)] 8)) t := fun t k => pre54 t (by
      show Steps p.tables e below (T53.setTop (mkF m 195 #[.val (.int p1), .val (.int p2), .val (.int p3), .val (.int p4), .val (.int p5), .val (.int (own_len p1)), .val (.int (own_lo p1)), .val (.int (own_hi p1))] [(.int (own_cont p4))])) _
      refine XS.ifNo X53.here hx rfl (hb hby d2_195) rfl ((if0 _ _).trans (teq hc195).2) ?_
      show Steps p.tables e below (T53.setTop (mkF m 198 #[.val (.int p1), .val (.int p2), .val (.int p3), .val (.int p4), .val (.int p5), .val (.int (own_len p1)), .val (.int (own_lo p1)), .val (.int (own_hi p1))] [])) _
      refine XS.iconst X53.here hx rfl (hb hby d2_198) ?_
      exact k)
    obtain ⟨fs56, hr56, hrun56, hended56, hW56, hsame56⟩ := X53.leave (v := some (.int (3 : Int32))) (fun h => by rw [Bd.returns] at h; cases h)
    refine ⟨_, _, pre55 _ ?_, hrun56, hended56, _, _, rfl, ?_, ⟨_, rfl⟩, hW56, hsame56.mono (by decide) (by decide)⟩
    · show Steps p.tables e below (T53.setTop (mkF m 199 #[.val (.int p1), .val (.int p2), .val (.int p3), .val (.int p4), .val (.int p5), .val (.int (own_len p1)), .val (.int (own_lo p1)), .val (.int (own_hi p1))] [(.int (3 : Int32))])) _
      exact retOut X53 hx (t := .int) Bd.returns rfl (Or.inl ⟨rfl, Or.inl rfl, _, rfl⟩) (hb hby d2_199) hr56
    · show Q2 Z p1 p2 p3 p4 p5 h0 n0 _ T53.heap _
      rw [q53]
      exact ⟨by unfold own_exp; rw [if_neg hc135, if_neg hc141, if_neg hc147, if_neg hc153, if_neg hc161, if_neg hc167, if_neg hc174, if_neg hc182, if_neg hc188, if_pos hc195], N53, rfl⟩
  have pre57 : ∀ t, Steps p.tables e below (T53.setTop (mkF m 201 #[.val (.int p1), .val (.int p2), .val (.int p3), .val (.int p4), .val (.int p5), .val (.int (own_len p1)), .val (.int (own_lo p1)), .val (.int (own_hi p1))] [(.int (4 : Int32))])) t → Steps p.tables e below (s₁.setTop (entryFrame m #[(.int p1), (.int p2), (.int p3), (.int p4), (.int p5)] 8)) t := fun t k => pre54 t (by
    show Steps p.tables e below (T53.setTop (mkF m 195 #[.val (.int p1), .val (.int p2), .val (.int p3), .val (.int p4), .val (.int p5), .val (.int (own_len p1)), .val (.int (own_lo p1)), .val (.int (own_hi p1))] [(.int (own_cont p4))])) _
    refine XS.ifYes X53.here hx rfl (pc0 := 195) (pc' := 200) rfl (hb hby d2_195) rfl ((if0 _ _).trans (feq hc195).2) (by decide) (by decide) ?_
    show Steps p.tables e below (T53.setTop (mkF m 200 #[.val (.int p1), .val (.int p2), .val (.int p3), .val (.int p4), .val (.int p5), .val (.int (own_len p1)), .val (.int (own_lo p1)), .val (.int (own_hi p1))] [])) _
    refine XS.iconst X53.here hx rfl (hb hby d2_200) ?_
    exact k)
  obtain ⟨fs58, hr58, hrun58, hended58, hW58, hsame58⟩ := X53.leave (v := some (.int (4 : Int32))) (fun h => by rw [Bd.returns] at h; cases h)
  refine ⟨_, _, pre57 _ ?_, hrun58, hended58, _, _, rfl, ?_, ⟨_, rfl⟩, hW58, hsame58.mono (by decide) (by decide)⟩
  · show Steps p.tables e below (T53.setTop (mkF m 201 #[.val (.int p1), .val (.int p2), .val (.int p3), .val (.int p4), .val (.int p5), .val (.int (own_len p1)), .val (.int (own_lo p1)), .val (.int (own_hi p1))] [(.int (4 : Int32))])) _
    exact retOut X53 hx (t := .int) Bd.returns rfl (Or.inl ⟨rfl, Or.inl rfl, _, rfl⟩) (hb hby d2_201) hr58
  · show Q2 Z p1 p2 p3 p4 p5 h0 n0 _ T53.heap _
    rw [q53]
    exact ⟨by unfold own_exp; rw [if_neg hc135, if_neg hc141, if_neg hc147, if_neg hc153, if_neg hc161, if_neg hc167, if_neg hc174, if_neg hc182, if_neg hc188, if_neg hc195], N53, rfl⟩

theorem ef_0 (m : MethodId) (x0 : Int32) (x1 : Int32) (x2 : Int32) (x3 : Int32) (x4 : Int32)  : entryFrame m #[(.int x0), (.int x1), (.int x2), (.int x3), (.int x4)] maxLocals = mkF m 0 #[.val (.int x0), .val (.int x1), .val (.int x2), .val (.int x3), .val (.int x4), .unset, .unset, .unset, .unset, .unset, .unset, .unset, .unset, .unset, .unset] [] := by first | (simp [entryFrame, mkF, argsToLocals, Value.category, maxLocals]; done) | rfl
def Q0 (Z : State) (wl wo wh : Addr) (cL cO cH : Cell) (p1 p2 p3 p4 p5 : Int32) (h0 : Heap) (n0 : Nat) (v : Option Value) (h : Heap) (L : List Loc) : Prop := v = some (.int (1 : Int32)) ∧ Fr n0 L
set_option maxRecDepth 65536 in
set_option maxHeartbeats 40000000 in
theorem rm0 (l : Launch) (Z : State) (a0 : Array Value) (hw : ∀ d ∈ tables_1, d.before a0 Z = true) (ws : List Jvm.Cond) (wl wo wh : Addr) (cL cO cH : Cell) (p1 p2 p3 p4 p5 : Int32) (h0 : Heap) (n0 : Nat) (Z0 : n0 ≤ h0.size) (S1 : Sta Z h0 "com/example/nearprint/nearprint/cli/Utf8Reader" "LENGTHS" "[B" (.ref wl)) (S2 : Sta Z h0 "com/example/nearprint/nearprint/cli/Utf8Reader" "FIRST_LOW" "[I" (.ref wo)) (S3 : Sta Z h0 "com/example/nearprint/nearprint/cli/Utf8Reader" "FIRST_HIGH" "[I" (.ref wh)) (AL : Arr Z h0 wl cL .byte) (AO : Arr Z h0 wo cO .int) (AH : Arr Z h0 wh cH .int) (HB : ∀ b : Int32, ¬ b < 0 → b < 256 → own_rd cL b (own_len b) ∧ own_rd cO b (own_lo b) ∧ own_rd cH b (own_hi b)) :
    MetFree l x (head1 (Jvm.Cond.code x code maxLocals ret :: ws) room_1) (fun a U => a = #[(.int p1), (.int p2), (.int p3), (.int p4), (.int p5)] ∧ Z.Warmed39 U.vm ∧ U.heap = h0) (fun _ _ _ _ _ => True) (fun _ U o U' => ∃ v L, o = .returned v ∧ Q0 Z wl wo wh cL cO cH p1 p2 p3 p4 p5 h0 n0 v U'.heap L ∧ FrameEnd U o U' L room_1.cells room_1.slots) := by
  refine MetFree.of_bodySF (plainFor_of_name pn_0) hisR ?_
  intro p e s m args below meth c s₁ Bd hml0 hP hK
  obtain ⟨rfl, hZ, hh⟩ := hP
  have hx := Bd.exec
  have hby := Bd.bytes
  have hml : c.maxLocals = 15 := hml0
  have hown : s.vm.findClass "com/example/nearprint/nearprint/cli/Utf8ReaderWellFormedPinLaw" = some m.cls := findClass_of_methodNamed Bd.named
  have hnm := (name_of_methodNamed Bd.named Bd.method).1
  have X0 : Stand p l e room_1 s m #[(.int p1), (.int p2), (.int p3), (.int p4), (.int p5)] below meth c s₁ [] 0 0 := Stand.of_body Bd
  have e0 : s₁.heap = h0 := by rw [← hh, Bd.state]; rfl
  have N0 := Fr.nil n0
  have pre0 : ∀ t, Steps p.tables e below (s₁.setTop (mkF m 0 #[.val (.int p1), .val (.int p2), .val (.int p3), .val (.int p4), .val (.int p5), .unset, .unset, .unset, .unset, .unset, .unset, .unset, .unset, .unset, .unset] [])) t → Steps p.tables e below (s₁.setTop (entryFrame m #[(.int p1), (.int p2), (.int p3), (.int p4), (.int p5)] maxLocals)) t := fun t k => castTop (ef_0 m p1 p2 p3 p4 p5) k
  obtain ⟨T1, h1, k1, X1, e1, E1, A1, st1⟩ := newP X0 hx hZ (hw _ (List.mem_of_getElem? (i := 0) rfl)) e0 (g := (mkF m 63 #[.val (.int p1), .val (.int p2), .val (.int p3), .val (.int p4), .val (.int p5), .val (.int (p1 &&& (255 : Int32))), .val (.int (p2 &&& (255 : Int32))), .val (.int (p3 &&& (255 : Int32))), .val (.int (p4 &&& (255 : Int32))), .val (.int (p5 &&& (1 : Int32))), .val (.int (((((p5.toUInt32 >>> ((1 : Int32) &&& 31).toUInt32).toInt32) &&& (7 : Int32)) % (5 : Int32)) + (1 : Int32))), .val (.int ((p5 &&& (1 : Int32)) + (((((p5.toUInt32 >>> ((1 : Int32) &&& 31).toUInt32).toInt32) &&& (7 : Int32)) % (5 : Int32)) + (1 : Int32)))), .val (.int (((p5.toUInt32 >>> ((4 : Int32) &&& 31).toUInt32).toInt32).toInt8.toInt32)), .unset, .unset] [(.int (6 : Int32))])) rfl (hb hby at_63) rfl (by decide) (cap := 6) (by decide) (by decide) (by decide) (by decide)
  obtain ⟨b1, gb1⟩ : ∃ z, z = h0.size := ⟨_, rfl⟩
  rw [← gb1] at A1 st1
  have gn1 : n0 ≤ b1 := Nat.le_trans Z0 (Nat.le_of_eq gb1.symm)
  have ne_wl_b1 : wl ≠ b1 := Nat.ne_of_lt (Nat.lt_of_lt_of_le AL.lt (Nat.le_of_eq gb1.symm))
  have ne_wo_b1 : wo ≠ b1 := Nat.ne_of_lt (Nat.lt_of_lt_of_le AO.lt (Nat.le_of_eq gb1.symm))
  have ne_wh_b1 : wh ≠ b1 := Nat.ne_of_lt (Nat.lt_of_lt_of_le AH.lt (Nat.le_of_eq gb1.symm))
  have S1_1 := S1.ext E1
  have S2_1 := S2.ext E1
  have S3_1 := S3.ext E1
  have AL_1 := AL.ext E1
  have AO_1 := AO.ext E1
  have AH_1 := AH.ext E1
  have V1 : Arv Z h1 b1 k1 .byte (6 : Int32) [(.int (0 : Int32)), (.int (0 : Int32)), (.int (0 : Int32)), (.int (0 : Int32)), (.int (0 : Int32)), (.int (0 : Int32))] (.int (0 : Int32)) := (Arv.new A1 (by decide)).pad (pad_rep [] (.int (0 : Int32)) 6)
  have Vc2 := V1
  obtain ⟨cl2, Ar2, qq2, sz2, nn2, Ha2, Gf2⟩ := Vc2
  have hin2 : ¬ ((0 : Int32) < 0 ∨ cl2.slots.size ≤ ((0 : Int32)).toNatClampNeg) := inb_of sz2 ⟨by decide, by decide⟩
  obtain ⟨T3, h3, X3, e3, W3, st3⟩ := stB X1 hx hZ e1 Ar2 (j := (0 : Int32)) hin2 (g := (mkF m 72 #[.val (.int p1), .val (.int p2), .val (.int p3), .val (.int p4), .val (.int p5), .val (.int (p1 &&& (255 : Int32))), .val (.int (p2 &&& (255 : Int32))), .val (.int (p3 &&& (255 : Int32))), .val (.int (p4 &&& (255 : Int32))), .val (.int (p5 &&& (1 : Int32))), .val (.int (((((p5.toUInt32 >>> ((1 : Int32) &&& 31).toUInt32).toInt32) &&& (7 : Int32)) % (5 : Int32)) + (1 : Int32))), .val (.int ((p5 &&& (1 : Int32)) + (((((p5.toUInt32 >>> ((1 : Int32) &&& 31).toUInt32).toInt32) &&& (7 : Int32)) % (5 : Int32)) + (1 : Int32)))), .val (.int (((p5.toUInt32 >>> ((4 : Int32) &&& 31).toUInt32).toInt32).toInt8.toInt32)), .val (.ref b1), .unset] [(.int (((p5.toUInt32 >>> ((4 : Int32) &&& 31).toUInt32).toInt32).toInt8.toInt32)), (.int (0 : Int32)), (.ref b1)])) rfl rfl (hb hby at_72)
  have N3 := Fr.snoc X3 N0 gn1
  have S1_3 := S1_1.wr W3
  have S2_3 := S2_1.wr W3
  have S3_3 := S3_1.wr W3
  have AL_3 := AL_1.other W3 ne_wl_b1
  have AO_3 := AO_1.other W3 ne_wo_b1
  have AH_3 := AH_1.other W3 ne_wh_b1
  have V1_3 := Arv.set Ar2 qq2 sz2 nn2 Ha2 Gf2 (fits_nar_byte _) W3 0 rfl (Nat.le_of_ble_eq_true rfl)
  have Vc4 := V1_3
  obtain ⟨cl4, Ar4, qq4, sz4, nn4, Ha4, Gf4⟩ := Vc4
  have hin4 : ¬ ((1 : Int32) < 0 ∨ cl4.slots.size ≤ ((1 : Int32)).toNatClampNeg) := inb_of sz4 ⟨by decide, by decide⟩
  obtain ⟨T5, h5, X5, e5, W5, st5⟩ := stB X3 hx hZ e3 Ar4 (j := (1 : Int32)) hin4 (g := (mkF m 78 #[.val (.int p1), .val (.int p2), .val (.int p3), .val (.int p4), .val (.int p5), .val (.int (p1 &&& (255 : Int32))), .val (.int (p2 &&& (255 : Int32))), .val (.int (p3 &&& (255 : Int32))), .val (.int (p4 &&& (255 : Int32))), .val (.int (p5 &&& (1 : Int32))), .val (.int (((((p5.toUInt32 >>> ((1 : Int32) &&& 31).toUInt32).toInt32) &&& (7 : Int32)) % (5 : Int32)) + (1 : Int32))), .val (.int ((p5 &&& (1 : Int32)) + (((((p5.toUInt32 >>> ((1 : Int32) &&& 31).toUInt32).toInt32) &&& (7 : Int32)) % (5 : Int32)) + (1 : Int32)))), .val (.int (((p5.toUInt32 >>> ((4 : Int32) &&& 31).toUInt32).toInt32).toInt8.toInt32)), .val (.ref b1), .unset] [(.int (((p5.toUInt32 >>> ((4 : Int32) &&& 31).toUInt32).toInt32).toInt8.toInt32)), (.int (1 : Int32)), (.ref b1)])) rfl rfl (hb hby at_78)
  have N5 := Fr.snoc X5 N3 gn1
  have S1_5 := S1_3.wr W5
  have S2_5 := S2_3.wr W5
  have S3_5 := S3_3.wr W5
  have AL_5 := AL_3.other W5 ne_wl_b1
  have AO_5 := AO_3.other W5 ne_wo_b1
  have AH_5 := AH_3.other W5 ne_wh_b1
  have V1_5 := Arv.set Ar4 qq4 sz4 nn4 Ha4 Gf4 (fits_nar_byte _) W5 1 rfl (Nat.le_of_ble_eq_true rfl)
  have Vc6 := V1_5
  obtain ⟨cl6, Ar6, qq6, sz6, nn6, Ha6, Gf6⟩ := Vc6
  have hin6 : ¬ ((2 : Int32) < 0 ∨ cl6.slots.size ≤ ((2 : Int32)).toNatClampNeg) := inb_of sz6 ⟨by decide, by decide⟩
  obtain ⟨T7, h7, X7, e7, W7, st7⟩ := stB X5 hx hZ e5 Ar6 (j := (2 : Int32)) hin6 (g := (mkF m 84 #[.val (.int p1), .val (.int p2), .val (.int p3), .val (.int p4), .val (.int p5), .val (.int (p1 &&& (255 : Int32))), .val (.int (p2 &&& (255 : Int32))), .val (.int (p3 &&& (255 : Int32))), .val (.int (p4 &&& (255 : Int32))), .val (.int (p5 &&& (1 : Int32))), .val (.int (((((p5.toUInt32 >>> ((1 : Int32) &&& 31).toUInt32).toInt32) &&& (7 : Int32)) % (5 : Int32)) + (1 : Int32))), .val (.int ((p5 &&& (1 : Int32)) + (((((p5.toUInt32 >>> ((1 : Int32) &&& 31).toUInt32).toInt32) &&& (7 : Int32)) % (5 : Int32)) + (1 : Int32)))), .val (.int (((p5.toUInt32 >>> ((4 : Int32) &&& 31).toUInt32).toInt32).toInt8.toInt32)), .val (.ref b1), .unset] [(.int (((p5.toUInt32 >>> ((4 : Int32) &&& 31).toUInt32).toInt32).toInt8.toInt32)), (.int (2 : Int32)), (.ref b1)])) rfl rfl (hb hby at_84)
  have N7 := Fr.snoc X7 N5 gn1
  have S1_7 := S1_5.wr W7
  have S2_7 := S2_5.wr W7
  have S3_7 := S3_5.wr W7
  have AL_7 := AL_5.other W7 ne_wl_b1
  have AO_7 := AO_5.other W7 ne_wo_b1
  have AH_7 := AH_5.other W7 ne_wh_b1
  have V1_7 := Arv.set Ar6 qq6 sz6 nn6 Ha6 Gf6 (fits_nar_byte _) W7 2 rfl (Nat.le_of_ble_eq_true rfl)
  have Vc8 := V1_7
  obtain ⟨cl8, Ar8, qq8, sz8, nn8, Ha8, Gf8⟩ := Vc8
  have hin8 : ¬ ((3 : Int32) < 0 ∨ cl8.slots.size ≤ ((3 : Int32)).toNatClampNeg) := inb_of sz8 ⟨by decide, by decide⟩
  obtain ⟨T9, h9, X9, e9, W9, st9⟩ := stB X7 hx hZ e7 Ar8 (j := (3 : Int32)) hin8 (g := (mkF m 90 #[.val (.int p1), .val (.int p2), .val (.int p3), .val (.int p4), .val (.int p5), .val (.int (p1 &&& (255 : Int32))), .val (.int (p2 &&& (255 : Int32))), .val (.int (p3 &&& (255 : Int32))), .val (.int (p4 &&& (255 : Int32))), .val (.int (p5 &&& (1 : Int32))), .val (.int (((((p5.toUInt32 >>> ((1 : Int32) &&& 31).toUInt32).toInt32) &&& (7 : Int32)) % (5 : Int32)) + (1 : Int32))), .val (.int ((p5 &&& (1 : Int32)) + (((((p5.toUInt32 >>> ((1 : Int32) &&& 31).toUInt32).toInt32) &&& (7 : Int32)) % (5 : Int32)) + (1 : Int32)))), .val (.int (((p5.toUInt32 >>> ((4 : Int32) &&& 31).toUInt32).toInt32).toInt8.toInt32)), .val (.ref b1), .unset] [(.int (((p5.toUInt32 >>> ((4 : Int32) &&& 31).toUInt32).toInt32).toInt8.toInt32)), (.int (3 : Int32)), (.ref b1)])) rfl rfl (hb hby at_90)
  have N9 := Fr.snoc X9 N7 gn1
  have S1_9 := S1_7.wr W9
  have S2_9 := S2_7.wr W9
  have S3_9 := S3_7.wr W9
  have AL_9 := AL_7.other W9 ne_wl_b1
  have AO_9 := AO_7.other W9 ne_wo_b1
  have AH_9 := AH_7.other W9 ne_wh_b1
  have V1_9 := Arv.set Ar8 qq8 sz8 nn8 Ha8 Gf8 (fits_nar_byte _) W9 3 rfl (Nat.le_of_ble_eq_true rfl)
  have Vc10 := V1_9
  obtain ⟨cl10, Ar10, qq10, sz10, nn10, Ha10, Gf10⟩ := Vc10
  have hin10 : ¬ ((4 : Int32) < 0 ∨ cl10.slots.size ≤ ((4 : Int32)).toNatClampNeg) := inb_of sz10 ⟨by decide, by decide⟩
  obtain ⟨T11, h11, X11, e11, W11, st11⟩ := stB X9 hx hZ e9 Ar10 (j := (4 : Int32)) hin10 (g := (mkF m 96 #[.val (.int p1), .val (.int p2), .val (.int p3), .val (.int p4), .val (.int p5), .val (.int (p1 &&& (255 : Int32))), .val (.int (p2 &&& (255 : Int32))), .val (.int (p3 &&& (255 : Int32))), .val (.int (p4 &&& (255 : Int32))), .val (.int (p5 &&& (1 : Int32))), .val (.int (((((p5.toUInt32 >>> ((1 : Int32) &&& 31).toUInt32).toInt32) &&& (7 : Int32)) % (5 : Int32)) + (1 : Int32))), .val (.int ((p5 &&& (1 : Int32)) + (((((p5.toUInt32 >>> ((1 : Int32) &&& 31).toUInt32).toInt32) &&& (7 : Int32)) % (5 : Int32)) + (1 : Int32)))), .val (.int (((p5.toUInt32 >>> ((4 : Int32) &&& 31).toUInt32).toInt32).toInt8.toInt32)), .val (.ref b1), .unset] [(.int (((p5.toUInt32 >>> ((4 : Int32) &&& 31).toUInt32).toInt32).toInt8.toInt32)), (.int (4 : Int32)), (.ref b1)])) rfl rfl (hb hby at_96)
  have N11 := Fr.snoc X11 N9 gn1
  have S1_11 := S1_9.wr W11
  have S2_11 := S2_9.wr W11
  have S3_11 := S3_9.wr W11
  have AL_11 := AL_9.other W11 ne_wl_b1
  have AO_11 := AO_9.other W11 ne_wo_b1
  have AH_11 := AH_9.other W11 ne_wh_b1
  have V1_11 := Arv.set Ar10 qq10 sz10 nn10 Ha10 Gf10 (fits_nar_byte _) W11 4 rfl (Nat.le_of_ble_eq_true rfl)
  have Vc12 := V1_11
  obtain ⟨cl12, Ar12, qq12, sz12, nn12, Ha12, Gf12⟩ := Vc12
  have hin12 : ¬ ((5 : Int32) < 0 ∨ cl12.slots.size ≤ ((5 : Int32)).toNatClampNeg) := inb_of sz12 ⟨by decide, by decide⟩
  obtain ⟨T13, h13, X13, e13, W13, st13⟩ := stB X11 hx hZ e11 Ar12 (j := (5 : Int32)) hin12 (g := (mkF m 102 #[.val (.int p1), .val (.int p2), .val (.int p3), .val (.int p4), .val (.int p5), .val (.int (p1 &&& (255 : Int32))), .val (.int (p2 &&& (255 : Int32))), .val (.int (p3 &&& (255 : Int32))), .val (.int (p4 &&& (255 : Int32))), .val (.int (p5 &&& (1 : Int32))), .val (.int (((((p5.toUInt32 >>> ((1 : Int32) &&& 31).toUInt32).toInt32) &&& (7 : Int32)) % (5 : Int32)) + (1 : Int32))), .val (.int ((p5 &&& (1 : Int32)) + (((((p5.toUInt32 >>> ((1 : Int32) &&& 31).toUInt32).toInt32) &&& (7 : Int32)) % (5 : Int32)) + (1 : Int32)))), .val (.int (((p5.toUInt32 >>> ((4 : Int32) &&& 31).toUInt32).toInt32).toInt8.toInt32)), .val (.ref b1), .unset] [(.int (((p5.toUInt32 >>> ((4 : Int32) &&& 31).toUInt32).toInt32).toInt8.toInt32)), (.int (5 : Int32)), (.ref b1)])) rfl rfl (hb hby at_102)
  have N13 := Fr.snoc X13 N11 gn1
  have S1_13 := S1_11.wr W13
  have S2_13 := S2_11.wr W13
  have S3_13 := S3_11.wr W13
  have AL_13 := AL_11.other W13 ne_wl_b1
  have AO_13 := AO_11.other W13 ne_wo_b1
  have AH_13 := AH_11.other W13 ne_wh_b1
  have V1_13 := Arv.set Ar12 qq12 sz12 nn12 Ha12 Gf12 (fits_nar_byte _) W13 5 rfl (Nat.le_of_ble_eq_true rfl)
  have pre14 : ∀ t, Steps p.tables e below (T13.setTop (mkF m 110 #[.val (.int p1), .val (.int p2), .val (.int p3), .val (.int p4), .val (.int p5), .val (.int (p1 &&& (255 : Int32))), .val (.int (p2 &&& (255 : Int32))), .val (.int (p3 &&& (255 : Int32))), .val (.int (p4 &&& (255 : Int32))), .val (.int (p5 &&& (1 : Int32))), .val (.int (((((p5.toUInt32 >>> ((1 : Int32) &&& 31).toUInt32).toInt32) &&& (7 : Int32)) % (5 : Int32)) + (1 : Int32))), .val (.int ((p5 &&& (1 : Int32)) + (((((p5.toUInt32 >>> ((1 : Int32) &&& 31).toUInt32).toInt32) &&& (7 : Int32)) % (5 : Int32)) + (1 : Int32)))), .val (.int (((p5.toUInt32 >>> ((4 : Int32) &&& 31).toUInt32).toInt32).toInt8.toInt32)), .val (.ref b1), .unset] [(.int ((p1 &&& (255 : Int32)).toInt8.toInt32)), (.int (p5 &&& (1 : Int32))), (.ref b1)])) t → Steps p.tables e below (s₁.setTop (entryFrame m #[(.int p1), (.int p2), (.int p3), (.int p4), (.int p5)] maxLocals)) t := fun t k => pre0 t (by
    show Steps p.tables e below (s₁.setTop (mkF m 0 #[.val (.int p1), .val (.int p2), .val (.int p3), .val (.int p4), .val (.int p5), .unset, .unset, .unset, .unset, .unset, .unset, .unset, .unset, .unset, .unset] [])) _
    refine XS.iloadN X0.here hx rfl (hb hby at_0) rfl ?_
    show Steps p.tables e below (s₁.setTop (mkF m 1 #[.val (.int p1), .val (.int p2), .val (.int p3), .val (.int p4), .val (.int p5), .unset, .unset, .unset, .unset, .unset, .unset, .unset, .unset, .unset, .unset] [(.int p1)])) _
    refine XS.sipush X0.here hx rfl (hb hby at_1) ?_
    show Steps p.tables e below (s₁.setTop (mkF m 4 #[.val (.int p1), .val (.int p2), .val (.int p3), .val (.int p4), .val (.int p5), .unset, .unset, .unset, .unset, .unset, .unset, .unset, .unset, .unset, .unset] [(.int (255 : Int32)), (.int p1)])) _
    refine XS.iand X0.here hx rfl (hb hby at_4) rfl ?_
    show Steps p.tables e below (s₁.setTop (mkF m 5 #[.val (.int p1), .val (.int p2), .val (.int p3), .val (.int p4), .val (.int p5), .unset, .unset, .unset, .unset, .unset, .unset, .unset, .unset, .unset, .unset] [(.int (p1 &&& (255 : Int32)))])) _
    refine XS.istore X0.here hx rfl (hb hby at_5) rfl (l' := #[.val (.int p1), .val (.int p2), .val (.int p3), .val (.int p4), .val (.int p5), .val (.int (p1 &&& (255 : Int32))), .unset, .unset, .unset, .unset, .unset, .unset, .unset, .unset, .unset]) rfl ?_
    show Steps p.tables e below (s₁.setTop (mkF m 7 #[.val (.int p1), .val (.int p2), .val (.int p3), .val (.int p4), .val (.int p5), .val (.int (p1 &&& (255 : Int32))), .unset, .unset, .unset, .unset, .unset, .unset, .unset, .unset, .unset] [])) _
    refine XS.iloadN X0.here hx rfl (hb hby at_7) rfl ?_
    show Steps p.tables e below (s₁.setTop (mkF m 8 #[.val (.int p1), .val (.int p2), .val (.int p3), .val (.int p4), .val (.int p5), .val (.int (p1 &&& (255 : Int32))), .unset, .unset, .unset, .unset, .unset, .unset, .unset, .unset, .unset] [(.int p2)])) _
    refine XS.sipush X0.here hx rfl (hb hby at_8) ?_
    show Steps p.tables e below (s₁.setTop (mkF m 11 #[.val (.int p1), .val (.int p2), .val (.int p3), .val (.int p4), .val (.int p5), .val (.int (p1 &&& (255 : Int32))), .unset, .unset, .unset, .unset, .unset, .unset, .unset, .unset, .unset] [(.int (255 : Int32)), (.int p2)])) _
    refine XS.iand X0.here hx rfl (hb hby at_11) rfl ?_
    show Steps p.tables e below (s₁.setTop (mkF m 12 #[.val (.int p1), .val (.int p2), .val (.int p3), .val (.int p4), .val (.int p5), .val (.int (p1 &&& (255 : Int32))), .unset, .unset, .unset, .unset, .unset, .unset, .unset, .unset, .unset] [(.int (p2 &&& (255 : Int32)))])) _
    refine XS.istore X0.here hx rfl (hb hby at_12) rfl (l' := #[.val (.int p1), .val (.int p2), .val (.int p3), .val (.int p4), .val (.int p5), .val (.int (p1 &&& (255 : Int32))), .val (.int (p2 &&& (255 : Int32))), .unset, .unset, .unset, .unset, .unset, .unset, .unset, .unset]) rfl ?_
    show Steps p.tables e below (s₁.setTop (mkF m 14 #[.val (.int p1), .val (.int p2), .val (.int p3), .val (.int p4), .val (.int p5), .val (.int (p1 &&& (255 : Int32))), .val (.int (p2 &&& (255 : Int32))), .unset, .unset, .unset, .unset, .unset, .unset, .unset, .unset] [])) _
    refine XS.iloadN X0.here hx rfl (hb hby at_14) rfl ?_
    show Steps p.tables e below (s₁.setTop (mkF m 15 #[.val (.int p1), .val (.int p2), .val (.int p3), .val (.int p4), .val (.int p5), .val (.int (p1 &&& (255 : Int32))), .val (.int (p2 &&& (255 : Int32))), .unset, .unset, .unset, .unset, .unset, .unset, .unset, .unset] [(.int p3)])) _
    refine XS.sipush X0.here hx rfl (hb hby at_15) ?_
    show Steps p.tables e below (s₁.setTop (mkF m 18 #[.val (.int p1), .val (.int p2), .val (.int p3), .val (.int p4), .val (.int p5), .val (.int (p1 &&& (255 : Int32))), .val (.int (p2 &&& (255 : Int32))), .unset, .unset, .unset, .unset, .unset, .unset, .unset, .unset] [(.int (255 : Int32)), (.int p3)])) _
    refine XS.iand X0.here hx rfl (hb hby at_18) rfl ?_
    show Steps p.tables e below (s₁.setTop (mkF m 19 #[.val (.int p1), .val (.int p2), .val (.int p3), .val (.int p4), .val (.int p5), .val (.int (p1 &&& (255 : Int32))), .val (.int (p2 &&& (255 : Int32))), .unset, .unset, .unset, .unset, .unset, .unset, .unset, .unset] [(.int (p3 &&& (255 : Int32)))])) _
    refine XS.istore X0.here hx rfl (hb hby at_19) rfl (l' := #[.val (.int p1), .val (.int p2), .val (.int p3), .val (.int p4), .val (.int p5), .val (.int (p1 &&& (255 : Int32))), .val (.int (p2 &&& (255 : Int32))), .val (.int (p3 &&& (255 : Int32))), .unset, .unset, .unset, .unset, .unset, .unset, .unset]) rfl ?_
    show Steps p.tables e below (s₁.setTop (mkF m 21 #[.val (.int p1), .val (.int p2), .val (.int p3), .val (.int p4), .val (.int p5), .val (.int (p1 &&& (255 : Int32))), .val (.int (p2 &&& (255 : Int32))), .val (.int (p3 &&& (255 : Int32))), .unset, .unset, .unset, .unset, .unset, .unset, .unset] [])) _
    refine XS.iloadN X0.here hx rfl (hb hby at_21) rfl ?_
    show Steps p.tables e below (s₁.setTop (mkF m 22 #[.val (.int p1), .val (.int p2), .val (.int p3), .val (.int p4), .val (.int p5), .val (.int (p1 &&& (255 : Int32))), .val (.int (p2 &&& (255 : Int32))), .val (.int (p3 &&& (255 : Int32))), .unset, .unset, .unset, .unset, .unset, .unset, .unset] [(.int p4)])) _
    refine XS.sipush X0.here hx rfl (hb hby at_22) ?_
    show Steps p.tables e below (s₁.setTop (mkF m 25 #[.val (.int p1), .val (.int p2), .val (.int p3), .val (.int p4), .val (.int p5), .val (.int (p1 &&& (255 : Int32))), .val (.int (p2 &&& (255 : Int32))), .val (.int (p3 &&& (255 : Int32))), .unset, .unset, .unset, .unset, .unset, .unset, .unset] [(.int (255 : Int32)), (.int p4)])) _
    refine XS.iand X0.here hx rfl (hb hby at_25) rfl ?_
    show Steps p.tables e below (s₁.setTop (mkF m 26 #[.val (.int p1), .val (.int p2), .val (.int p3), .val (.int p4), .val (.int p5), .val (.int (p1 &&& (255 : Int32))), .val (.int (p2 &&& (255 : Int32))), .val (.int (p3 &&& (255 : Int32))), .unset, .unset, .unset, .unset, .unset, .unset, .unset] [(.int (p4 &&& (255 : Int32)))])) _
    refine XS.istore X0.here hx rfl (hb hby at_26) rfl (l' := #[.val (.int p1), .val (.int p2), .val (.int p3), .val (.int p4), .val (.int p5), .val (.int (p1 &&& (255 : Int32))), .val (.int (p2 &&& (255 : Int32))), .val (.int (p3 &&& (255 : Int32))), .val (.int (p4 &&& (255 : Int32))), .unset, .unset, .unset, .unset, .unset, .unset]) rfl ?_
    show Steps p.tables e below (s₁.setTop (mkF m 28 #[.val (.int p1), .val (.int p2), .val (.int p3), .val (.int p4), .val (.int p5), .val (.int (p1 &&& (255 : Int32))), .val (.int (p2 &&& (255 : Int32))), .val (.int (p3 &&& (255 : Int32))), .val (.int (p4 &&& (255 : Int32))), .unset, .unset, .unset, .unset, .unset, .unset] [])) _
    refine XS.iload X0.here hx rfl (hb hby at_28) rfl ?_
    show Steps p.tables e below (s₁.setTop (mkF m 30 #[.val (.int p1), .val (.int p2), .val (.int p3), .val (.int p4), .val (.int p5), .val (.int (p1 &&& (255 : Int32))), .val (.int (p2 &&& (255 : Int32))), .val (.int (p3 &&& (255 : Int32))), .val (.int (p4 &&& (255 : Int32))), .unset, .unset, .unset, .unset, .unset, .unset] [(.int p5)])) _
    refine XS.iconst X0.here hx rfl (hb hby at_30) ?_
    show Steps p.tables e below (s₁.setTop (mkF m 31 #[.val (.int p1), .val (.int p2), .val (.int p3), .val (.int p4), .val (.int p5), .val (.int (p1 &&& (255 : Int32))), .val (.int (p2 &&& (255 : Int32))), .val (.int (p3 &&& (255 : Int32))), .val (.int (p4 &&& (255 : Int32))), .unset, .unset, .unset, .unset, .unset, .unset] [(.int (1 : Int32)), (.int p5)])) _
    refine XS.iand X0.here hx rfl (hb hby at_31) rfl ?_
    show Steps p.tables e below (s₁.setTop (mkF m 32 #[.val (.int p1), .val (.int p2), .val (.int p3), .val (.int p4), .val (.int p5), .val (.int (p1 &&& (255 : Int32))), .val (.int (p2 &&& (255 : Int32))), .val (.int (p3 &&& (255 : Int32))), .val (.int (p4 &&& (255 : Int32))), .unset, .unset, .unset, .unset, .unset, .unset] [(.int (p5 &&& (1 : Int32)))])) _
    refine XS.istore X0.here hx rfl (hb hby at_32) rfl (l' := #[.val (.int p1), .val (.int p2), .val (.int p3), .val (.int p4), .val (.int p5), .val (.int (p1 &&& (255 : Int32))), .val (.int (p2 &&& (255 : Int32))), .val (.int (p3 &&& (255 : Int32))), .val (.int (p4 &&& (255 : Int32))), .val (.int (p5 &&& (1 : Int32))), .unset, .unset, .unset, .unset, .unset]) rfl ?_
    show Steps p.tables e below (s₁.setTop (mkF m 34 #[.val (.int p1), .val (.int p2), .val (.int p3), .val (.int p4), .val (.int p5), .val (.int (p1 &&& (255 : Int32))), .val (.int (p2 &&& (255 : Int32))), .val (.int (p3 &&& (255 : Int32))), .val (.int (p4 &&& (255 : Int32))), .val (.int (p5 &&& (1 : Int32))), .unset, .unset, .unset, .unset, .unset] [])) _
    refine XS.iload X0.here hx rfl (hb hby at_34) rfl ?_
    show Steps p.tables e below (s₁.setTop (mkF m 36 #[.val (.int p1), .val (.int p2), .val (.int p3), .val (.int p4), .val (.int p5), .val (.int (p1 &&& (255 : Int32))), .val (.int (p2 &&& (255 : Int32))), .val (.int (p3 &&& (255 : Int32))), .val (.int (p4 &&& (255 : Int32))), .val (.int (p5 &&& (1 : Int32))), .unset, .unset, .unset, .unset, .unset] [(.int p5)])) _
    refine XS.iconst X0.here hx rfl (hb hby at_36) ?_
    show Steps p.tables e below (s₁.setTop (mkF m 37 #[.val (.int p1), .val (.int p2), .val (.int p3), .val (.int p4), .val (.int p5), .val (.int (p1 &&& (255 : Int32))), .val (.int (p2 &&& (255 : Int32))), .val (.int (p3 &&& (255 : Int32))), .val (.int (p4 &&& (255 : Int32))), .val (.int (p5 &&& (1 : Int32))), .unset, .unset, .unset, .unset, .unset] [(.int (1 : Int32)), (.int p5)])) _
    refine XS.iushr X0.here hx rfl (hb hby at_37) rfl ?_
    show Steps p.tables e below (s₁.setTop (mkF m 38 #[.val (.int p1), .val (.int p2), .val (.int p3), .val (.int p4), .val (.int p5), .val (.int (p1 &&& (255 : Int32))), .val (.int (p2 &&& (255 : Int32))), .val (.int (p3 &&& (255 : Int32))), .val (.int (p4 &&& (255 : Int32))), .val (.int (p5 &&& (1 : Int32))), .unset, .unset, .unset, .unset, .unset] [(.int ((p5.toUInt32 >>> ((1 : Int32) &&& 31).toUInt32).toInt32))])) _
    refine XS.bipush X0.here hx rfl (hb hby at_38) ?_
    show Steps p.tables e below (s₁.setTop (mkF m 40 #[.val (.int p1), .val (.int p2), .val (.int p3), .val (.int p4), .val (.int p5), .val (.int (p1 &&& (255 : Int32))), .val (.int (p2 &&& (255 : Int32))), .val (.int (p3 &&& (255 : Int32))), .val (.int (p4 &&& (255 : Int32))), .val (.int (p5 &&& (1 : Int32))), .unset, .unset, .unset, .unset, .unset] [(.int (7 : Int32)), (.int ((p5.toUInt32 >>> ((1 : Int32) &&& 31).toUInt32).toInt32))])) _
    refine XS.iand X0.here hx rfl (hb hby at_40) rfl ?_
    show Steps p.tables e below (s₁.setTop (mkF m 41 #[.val (.int p1), .val (.int p2), .val (.int p3), .val (.int p4), .val (.int p5), .val (.int (p1 &&& (255 : Int32))), .val (.int (p2 &&& (255 : Int32))), .val (.int (p3 &&& (255 : Int32))), .val (.int (p4 &&& (255 : Int32))), .val (.int (p5 &&& (1 : Int32))), .unset, .unset, .unset, .unset, .unset] [(.int (((p5.toUInt32 >>> ((1 : Int32) &&& 31).toUInt32).toInt32) &&& (7 : Int32)))])) _
    refine XS.iconst X0.here hx rfl (hb hby at_41) ?_
    show Steps p.tables e below (s₁.setTop (mkF m 42 #[.val (.int p1), .val (.int p2), .val (.int p3), .val (.int p4), .val (.int p5), .val (.int (p1 &&& (255 : Int32))), .val (.int (p2 &&& (255 : Int32))), .val (.int (p3 &&& (255 : Int32))), .val (.int (p4 &&& (255 : Int32))), .val (.int (p5 &&& (1 : Int32))), .unset, .unset, .unset, .unset, .unset] [(.int (5 : Int32)), (.int (((p5.toUInt32 >>> ((1 : Int32) &&& 31).toUInt32).toInt32) &&& (7 : Int32)))])) _
    refine iremM (g := (mkF m 42 #[.val (.int p1), .val (.int p2), .val (.int p3), .val (.int p4), .val (.int p5), .val (.int (p1 &&& (255 : Int32))), .val (.int (p2 &&& (255 : Int32))), .val (.int (p3 &&& (255 : Int32))), .val (.int (p4 &&& (255 : Int32))), .val (.int (p5 &&& (1 : Int32))), .unset, .unset, .unset, .unset, .unset] [(.int (5 : Int32)), (.int (((p5.toUInt32 >>> ((1 : Int32) &&& 31).toUInt32).toInt32) &&& (7 : Int32)))])) X0 hx rfl (hb hby at_42) rfl (by decide) ?_
    show Steps p.tables e below (s₁.setTop (mkF m 43 #[.val (.int p1), .val (.int p2), .val (.int p3), .val (.int p4), .val (.int p5), .val (.int (p1 &&& (255 : Int32))), .val (.int (p2 &&& (255 : Int32))), .val (.int (p3 &&& (255 : Int32))), .val (.int (p4 &&& (255 : Int32))), .val (.int (p5 &&& (1 : Int32))), .unset, .unset, .unset, .unset, .unset] [(.int ((((p5.toUInt32 >>> ((1 : Int32) &&& 31).toUInt32).toInt32) &&& (7 : Int32)) % (5 : Int32)))])) _
    refine XS.iconst X0.here hx rfl (hb hby at_43) ?_
    show Steps p.tables e below (s₁.setTop (mkF m 44 #[.val (.int p1), .val (.int p2), .val (.int p3), .val (.int p4), .val (.int p5), .val (.int (p1 &&& (255 : Int32))), .val (.int (p2 &&& (255 : Int32))), .val (.int (p3 &&& (255 : Int32))), .val (.int (p4 &&& (255 : Int32))), .val (.int (p5 &&& (1 : Int32))), .unset, .unset, .unset, .unset, .unset] [(.int (1 : Int32)), (.int ((((p5.toUInt32 >>> ((1 : Int32) &&& 31).toUInt32).toInt32) &&& (7 : Int32)) % (5 : Int32)))])) _
    refine XS.iadd X0.here hx rfl (hb hby at_44) rfl ?_
    show Steps p.tables e below (s₁.setTop (mkF m 45 #[.val (.int p1), .val (.int p2), .val (.int p3), .val (.int p4), .val (.int p5), .val (.int (p1 &&& (255 : Int32))), .val (.int (p2 &&& (255 : Int32))), .val (.int (p3 &&& (255 : Int32))), .val (.int (p4 &&& (255 : Int32))), .val (.int (p5 &&& (1 : Int32))), .unset, .unset, .unset, .unset, .unset] [(.int (((((p5.toUInt32 >>> ((1 : Int32) &&& 31).toUInt32).toInt32) &&& (7 : Int32)) % (5 : Int32)) + (1 : Int32)))])) _
    refine XS.istore X0.here hx rfl (hb hby at_45) rfl (l' := #[.val (.int p1), .val (.int p2), .val (.int p3), .val (.int p4), .val (.int p5), .val (.int (p1 &&& (255 : Int32))), .val (.int (p2 &&& (255 : Int32))), .val (.int (p3 &&& (255 : Int32))), .val (.int (p4 &&& (255 : Int32))), .val (.int (p5 &&& (1 : Int32))), .val (.int (((((p5.toUInt32 >>> ((1 : Int32) &&& 31).toUInt32).toInt32) &&& (7 : Int32)) % (5 : Int32)) + (1 : Int32))), .unset, .unset, .unset, .unset]) rfl ?_
    show Steps p.tables e below (s₁.setTop (mkF m 47 #[.val (.int p1), .val (.int p2), .val (.int p3), .val (.int p4), .val (.int p5), .val (.int (p1 &&& (255 : Int32))), .val (.int (p2 &&& (255 : Int32))), .val (.int (p3 &&& (255 : Int32))), .val (.int (p4 &&& (255 : Int32))), .val (.int (p5 &&& (1 : Int32))), .val (.int (((((p5.toUInt32 >>> ((1 : Int32) &&& 31).toUInt32).toInt32) &&& (7 : Int32)) % (5 : Int32)) + (1 : Int32))), .unset, .unset, .unset, .unset] [])) _
    refine XS.iload X0.here hx rfl (hb hby at_47) rfl ?_
    show Steps p.tables e below (s₁.setTop (mkF m 49 #[.val (.int p1), .val (.int p2), .val (.int p3), .val (.int p4), .val (.int p5), .val (.int (p1 &&& (255 : Int32))), .val (.int (p2 &&& (255 : Int32))), .val (.int (p3 &&& (255 : Int32))), .val (.int (p4 &&& (255 : Int32))), .val (.int (p5 &&& (1 : Int32))), .val (.int (((((p5.toUInt32 >>> ((1 : Int32) &&& 31).toUInt32).toInt32) &&& (7 : Int32)) % (5 : Int32)) + (1 : Int32))), .unset, .unset, .unset, .unset] [(.int (p5 &&& (1 : Int32)))])) _
    refine XS.iload X0.here hx rfl (hb hby at_49) rfl ?_
    show Steps p.tables e below (s₁.setTop (mkF m 51 #[.val (.int p1), .val (.int p2), .val (.int p3), .val (.int p4), .val (.int p5), .val (.int (p1 &&& (255 : Int32))), .val (.int (p2 &&& (255 : Int32))), .val (.int (p3 &&& (255 : Int32))), .val (.int (p4 &&& (255 : Int32))), .val (.int (p5 &&& (1 : Int32))), .val (.int (((((p5.toUInt32 >>> ((1 : Int32) &&& 31).toUInt32).toInt32) &&& (7 : Int32)) % (5 : Int32)) + (1 : Int32))), .unset, .unset, .unset, .unset] [(.int (((((p5.toUInt32 >>> ((1 : Int32) &&& 31).toUInt32).toInt32) &&& (7 : Int32)) % (5 : Int32)) + (1 : Int32))), (.int (p5 &&& (1 : Int32)))])) _
    refine XS.iadd X0.here hx rfl (hb hby at_51) rfl ?_
    show Steps p.tables e below (s₁.setTop (mkF m 52 #[.val (.int p1), .val (.int p2), .val (.int p3), .val (.int p4), .val (.int p5), .val (.int (p1 &&& (255 : Int32))), .val (.int (p2 &&& (255 : Int32))), .val (.int (p3 &&& (255 : Int32))), .val (.int (p4 &&& (255 : Int32))), .val (.int (p5 &&& (1 : Int32))), .val (.int (((((p5.toUInt32 >>> ((1 : Int32) &&& 31).toUInt32).toInt32) &&& (7 : Int32)) % (5 : Int32)) + (1 : Int32))), .unset, .unset, .unset, .unset] [(.int ((p5 &&& (1 : Int32)) + (((((p5.toUInt32 >>> ((1 : Int32) &&& 31).toUInt32).toInt32) &&& (7 : Int32)) % (5 : Int32)) + (1 : Int32))))])) _
    refine XS.istore X0.here hx rfl (hb hby at_52) rfl (l' := #[.val (.int p1), .val (.int p2), .val (.int p3), .val (.int p4), .val (.int p5), .val (.int (p1 &&& (255 : Int32))), .val (.int (p2 &&& (255 : Int32))), .val (.int (p3 &&& (255 : Int32))), .val (.int (p4 &&& (255 : Int32))), .val (.int (p5 &&& (1 : Int32))), .val (.int (((((p5.toUInt32 >>> ((1 : Int32) &&& 31).toUInt32).toInt32) &&& (7 : Int32)) % (5 : Int32)) + (1 : Int32))), .val (.int ((p5 &&& (1 : Int32)) + (((((p5.toUInt32 >>> ((1 : Int32) &&& 31).toUInt32).toInt32) &&& (7 : Int32)) % (5 : Int32)) + (1 : Int32)))), .unset, .unset, .unset]) rfl ?_
    show Steps p.tables e below (s₁.setTop (mkF m 54 #[.val (.int p1), .val (.int p2), .val (.int p3), .val (.int p4), .val (.int p5), .val (.int (p1 &&& (255 : Int32))), .val (.int (p2 &&& (255 : Int32))), .val (.int (p3 &&& (255 : Int32))), .val (.int (p4 &&& (255 : Int32))), .val (.int (p5 &&& (1 : Int32))), .val (.int (((((p5.toUInt32 >>> ((1 : Int32) &&& 31).toUInt32).toInt32) &&& (7 : Int32)) % (5 : Int32)) + (1 : Int32))), .val (.int ((p5 &&& (1 : Int32)) + (((((p5.toUInt32 >>> ((1 : Int32) &&& 31).toUInt32).toInt32) &&& (7 : Int32)) % (5 : Int32)) + (1 : Int32)))), .unset, .unset, .unset] [])) _
    refine XS.iload X0.here hx rfl (hb hby at_54) rfl ?_
    show Steps p.tables e below (s₁.setTop (mkF m 56 #[.val (.int p1), .val (.int p2), .val (.int p3), .val (.int p4), .val (.int p5), .val (.int (p1 &&& (255 : Int32))), .val (.int (p2 &&& (255 : Int32))), .val (.int (p3 &&& (255 : Int32))), .val (.int (p4 &&& (255 : Int32))), .val (.int (p5 &&& (1 : Int32))), .val (.int (((((p5.toUInt32 >>> ((1 : Int32) &&& 31).toUInt32).toInt32) &&& (7 : Int32)) % (5 : Int32)) + (1 : Int32))), .val (.int ((p5 &&& (1 : Int32)) + (((((p5.toUInt32 >>> ((1 : Int32) &&& 31).toUInt32).toInt32) &&& (7 : Int32)) % (5 : Int32)) + (1 : Int32)))), .unset, .unset, .unset] [(.int p5)])) _
    refine XS.iconst X0.here hx rfl (hb hby at_56) ?_
    show Steps p.tables e below (s₁.setTop (mkF m 57 #[.val (.int p1), .val (.int p2), .val (.int p3), .val (.int p4), .val (.int p5), .val (.int (p1 &&& (255 : Int32))), .val (.int (p2 &&& (255 : Int32))), .val (.int (p3 &&& (255 : Int32))), .val (.int (p4 &&& (255 : Int32))), .val (.int (p5 &&& (1 : Int32))), .val (.int (((((p5.toUInt32 >>> ((1 : Int32) &&& 31).toUInt32).toInt32) &&& (7 : Int32)) % (5 : Int32)) + (1 : Int32))), .val (.int ((p5 &&& (1 : Int32)) + (((((p5.toUInt32 >>> ((1 : Int32) &&& 31).toUInt32).toInt32) &&& (7 : Int32)) % (5 : Int32)) + (1 : Int32)))), .unset, .unset, .unset] [(.int (4 : Int32)), (.int p5)])) _
    refine XS.iushr X0.here hx rfl (hb hby at_57) rfl ?_
    show Steps p.tables e below (s₁.setTop (mkF m 58 #[.val (.int p1), .val (.int p2), .val (.int p3), .val (.int p4), .val (.int p5), .val (.int (p1 &&& (255 : Int32))), .val (.int (p2 &&& (255 : Int32))), .val (.int (p3 &&& (255 : Int32))), .val (.int (p4 &&& (255 : Int32))), .val (.int (p5 &&& (1 : Int32))), .val (.int (((((p5.toUInt32 >>> ((1 : Int32) &&& 31).toUInt32).toInt32) &&& (7 : Int32)) % (5 : Int32)) + (1 : Int32))), .val (.int ((p5 &&& (1 : Int32)) + (((((p5.toUInt32 >>> ((1 : Int32) &&& 31).toUInt32).toInt32) &&& (7 : Int32)) % (5 : Int32)) + (1 : Int32)))), .unset, .unset, .unset] [(.int ((p5.toUInt32 >>> ((4 : Int32) &&& 31).toUInt32).toInt32))])) _
    refine XS.i2b X0.here hx rfl (hb hby at_58) rfl ?_
    show Steps p.tables e below (s₁.setTop (mkF m 59 #[.val (.int p1), .val (.int p2), .val (.int p3), .val (.int p4), .val (.int p5), .val (.int (p1 &&& (255 : Int32))), .val (.int (p2 &&& (255 : Int32))), .val (.int (p3 &&& (255 : Int32))), .val (.int (p4 &&& (255 : Int32))), .val (.int (p5 &&& (1 : Int32))), .val (.int (((((p5.toUInt32 >>> ((1 : Int32) &&& 31).toUInt32).toInt32) &&& (7 : Int32)) % (5 : Int32)) + (1 : Int32))), .val (.int ((p5 &&& (1 : Int32)) + (((((p5.toUInt32 >>> ((1 : Int32) &&& 31).toUInt32).toInt32) &&& (7 : Int32)) % (5 : Int32)) + (1 : Int32)))), .unset, .unset, .unset] [(.int (((p5.toUInt32 >>> ((4 : Int32) &&& 31).toUInt32).toInt32).toInt8.toInt32))])) _
    refine XS.istore X0.here hx rfl (hb hby at_59) rfl (l' := #[.val (.int p1), .val (.int p2), .val (.int p3), .val (.int p4), .val (.int p5), .val (.int (p1 &&& (255 : Int32))), .val (.int (p2 &&& (255 : Int32))), .val (.int (p3 &&& (255 : Int32))), .val (.int (p4 &&& (255 : Int32))), .val (.int (p5 &&& (1 : Int32))), .val (.int (((((p5.toUInt32 >>> ((1 : Int32) &&& 31).toUInt32).toInt32) &&& (7 : Int32)) % (5 : Int32)) + (1 : Int32))), .val (.int ((p5 &&& (1 : Int32)) + (((((p5.toUInt32 >>> ((1 : Int32) &&& 31).toUInt32).toInt32) &&& (7 : Int32)) % (5 : Int32)) + (1 : Int32)))), .val (.int (((p5.toUInt32 >>> ((4 : Int32) &&& 31).toUInt32).toInt32).toInt8.toInt32)), .unset, .unset]) rfl ?_
    show Steps p.tables e below (s₁.setTop (mkF m 61 #[.val (.int p1), .val (.int p2), .val (.int p3), .val (.int p4), .val (.int p5), .val (.int (p1 &&& (255 : Int32))), .val (.int (p2 &&& (255 : Int32))), .val (.int (p3 &&& (255 : Int32))), .val (.int (p4 &&& (255 : Int32))), .val (.int (p5 &&& (1 : Int32))), .val (.int (((((p5.toUInt32 >>> ((1 : Int32) &&& 31).toUInt32).toInt32) &&& (7 : Int32)) % (5 : Int32)) + (1 : Int32))), .val (.int ((p5 &&& (1 : Int32)) + (((((p5.toUInt32 >>> ((1 : Int32) &&& 31).toUInt32).toInt32) &&& (7 : Int32)) % (5 : Int32)) + (1 : Int32)))), .val (.int (((p5.toUInt32 >>> ((4 : Int32) &&& 31).toUInt32).toInt32).toInt8.toInt32)), .unset, .unset] [])) _
    refine XS.bipush X0.here hx rfl (hb hby at_61) ?_
    show Steps p.tables e below (s₁.setTop (mkF m 63 #[.val (.int p1), .val (.int p2), .val (.int p3), .val (.int p4), .val (.int p5), .val (.int (p1 &&& (255 : Int32))), .val (.int (p2 &&& (255 : Int32))), .val (.int (p3 &&& (255 : Int32))), .val (.int (p4 &&& (255 : Int32))), .val (.int (p5 &&& (1 : Int32))), .val (.int (((((p5.toUInt32 >>> ((1 : Int32) &&& 31).toUInt32).toInt32) &&& (7 : Int32)) % (5 : Int32)) + (1 : Int32))), .val (.int ((p5 &&& (1 : Int32)) + (((((p5.toUInt32 >>> ((1 : Int32) &&& 31).toUInt32).toInt32) &&& (7 : Int32)) % (5 : Int32)) + (1 : Int32)))), .val (.int (((p5.toUInt32 >>> ((4 : Int32) &&& 31).toUInt32).toInt32).toInt8.toInt32)), .unset, .unset] [(.int (6 : Int32))])) _
    refine st1 _ ?_
    show Steps p.tables e below (T1.setTop (mkF m 65 #[.val (.int p1), .val (.int p2), .val (.int p3), .val (.int p4), .val (.int p5), .val (.int (p1 &&& (255 : Int32))), .val (.int (p2 &&& (255 : Int32))), .val (.int (p3 &&& (255 : Int32))), .val (.int (p4 &&& (255 : Int32))), .val (.int (p5 &&& (1 : Int32))), .val (.int (((((p5.toUInt32 >>> ((1 : Int32) &&& 31).toUInt32).toInt32) &&& (7 : Int32)) % (5 : Int32)) + (1 : Int32))), .val (.int ((p5 &&& (1 : Int32)) + (((((p5.toUInt32 >>> ((1 : Int32) &&& 31).toUInt32).toInt32) &&& (7 : Int32)) % (5 : Int32)) + (1 : Int32)))), .val (.int (((p5.toUInt32 >>> ((4 : Int32) &&& 31).toUInt32).toInt32).toInt8.toInt32)), .unset, .unset] [(.ref b1)])) _
    refine XS.astore X1.here hx rfl (hb hby at_65) rfl rfl (l' := #[.val (.int p1), .val (.int p2), .val (.int p3), .val (.int p4), .val (.int p5), .val (.int (p1 &&& (255 : Int32))), .val (.int (p2 &&& (255 : Int32))), .val (.int (p3 &&& (255 : Int32))), .val (.int (p4 &&& (255 : Int32))), .val (.int (p5 &&& (1 : Int32))), .val (.int (((((p5.toUInt32 >>> ((1 : Int32) &&& 31).toUInt32).toInt32) &&& (7 : Int32)) % (5 : Int32)) + (1 : Int32))), .val (.int ((p5 &&& (1 : Int32)) + (((((p5.toUInt32 >>> ((1 : Int32) &&& 31).toUInt32).toInt32) &&& (7 : Int32)) % (5 : Int32)) + (1 : Int32)))), .val (.int (((p5.toUInt32 >>> ((4 : Int32) &&& 31).toUInt32).toInt32).toInt8.toInt32)), .val (.ref b1), .unset]) rfl ?_
    show Steps p.tables e below (T1.setTop (mkF m 67 #[.val (.int p1), .val (.int p2), .val (.int p3), .val (.int p4), .val (.int p5), .val (.int (p1 &&& (255 : Int32))), .val (.int (p2 &&& (255 : Int32))), .val (.int (p3 &&& (255 : Int32))), .val (.int (p4 &&& (255 : Int32))), .val (.int (p5 &&& (1 : Int32))), .val (.int (((((p5.toUInt32 >>> ((1 : Int32) &&& 31).toUInt32).toInt32) &&& (7 : Int32)) % (5 : Int32)) + (1 : Int32))), .val (.int ((p5 &&& (1 : Int32)) + (((((p5.toUInt32 >>> ((1 : Int32) &&& 31).toUInt32).toInt32) &&& (7 : Int32)) % (5 : Int32)) + (1 : Int32)))), .val (.int (((p5.toUInt32 >>> ((4 : Int32) &&& 31).toUInt32).toInt32).toInt8.toInt32)), .val (.ref b1), .unset] [])) _
    refine XS.aload X1.here hx rfl (hb hby at_67) rfl rfl ?_
    show Steps p.tables e below (T1.setTop (mkF m 69 #[.val (.int p1), .val (.int p2), .val (.int p3), .val (.int p4), .val (.int p5), .val (.int (p1 &&& (255 : Int32))), .val (.int (p2 &&& (255 : Int32))), .val (.int (p3 &&& (255 : Int32))), .val (.int (p4 &&& (255 : Int32))), .val (.int (p5 &&& (1 : Int32))), .val (.int (((((p5.toUInt32 >>> ((1 : Int32) &&& 31).toUInt32).toInt32) &&& (7 : Int32)) % (5 : Int32)) + (1 : Int32))), .val (.int ((p5 &&& (1 : Int32)) + (((((p5.toUInt32 >>> ((1 : Int32) &&& 31).toUInt32).toInt32) &&& (7 : Int32)) % (5 : Int32)) + (1 : Int32)))), .val (.int (((p5.toUInt32 >>> ((4 : Int32) &&& 31).toUInt32).toInt32).toInt8.toInt32)), .val (.ref b1), .unset] [(.ref b1)])) _
    refine XS.iconst X1.here hx rfl (hb hby at_69) ?_
    show Steps p.tables e below (T1.setTop (mkF m 70 #[.val (.int p1), .val (.int p2), .val (.int p3), .val (.int p4), .val (.int p5), .val (.int (p1 &&& (255 : Int32))), .val (.int (p2 &&& (255 : Int32))), .val (.int (p3 &&& (255 : Int32))), .val (.int (p4 &&& (255 : Int32))), .val (.int (p5 &&& (1 : Int32))), .val (.int (((((p5.toUInt32 >>> ((1 : Int32) &&& 31).toUInt32).toInt32) &&& (7 : Int32)) % (5 : Int32)) + (1 : Int32))), .val (.int ((p5 &&& (1 : Int32)) + (((((p5.toUInt32 >>> ((1 : Int32) &&& 31).toUInt32).toInt32) &&& (7 : Int32)) % (5 : Int32)) + (1 : Int32)))), .val (.int (((p5.toUInt32 >>> ((4 : Int32) &&& 31).toUInt32).toInt32).toInt8.toInt32)), .val (.ref b1), .unset] [(.int (0 : Int32)), (.ref b1)])) _
    refine XS.iload X1.here hx rfl (hb hby at_70) rfl ?_
    show Steps p.tables e below (T1.setTop (mkF m 72 #[.val (.int p1), .val (.int p2), .val (.int p3), .val (.int p4), .val (.int p5), .val (.int (p1 &&& (255 : Int32))), .val (.int (p2 &&& (255 : Int32))), .val (.int (p3 &&& (255 : Int32))), .val (.int (p4 &&& (255 : Int32))), .val (.int (p5 &&& (1 : Int32))), .val (.int (((((p5.toUInt32 >>> ((1 : Int32) &&& 31).toUInt32).toInt32) &&& (7 : Int32)) % (5 : Int32)) + (1 : Int32))), .val (.int ((p5 &&& (1 : Int32)) + (((((p5.toUInt32 >>> ((1 : Int32) &&& 31).toUInt32).toInt32) &&& (7 : Int32)) % (5 : Int32)) + (1 : Int32)))), .val (.int (((p5.toUInt32 >>> ((4 : Int32) &&& 31).toUInt32).toInt32).toInt8.toInt32)), .val (.ref b1), .unset] [(.int (((p5.toUInt32 >>> ((4 : Int32) &&& 31).toUInt32).toInt32).toInt8.toInt32)), (.int (0 : Int32)), (.ref b1)])) _
    refine st3 _ ?_
    show Steps p.tables e below (T3.setTop (mkF m 73 #[.val (.int p1), .val (.int p2), .val (.int p3), .val (.int p4), .val (.int p5), .val (.int (p1 &&& (255 : Int32))), .val (.int (p2 &&& (255 : Int32))), .val (.int (p3 &&& (255 : Int32))), .val (.int (p4 &&& (255 : Int32))), .val (.int (p5 &&& (1 : Int32))), .val (.int (((((p5.toUInt32 >>> ((1 : Int32) &&& 31).toUInt32).toInt32) &&& (7 : Int32)) % (5 : Int32)) + (1 : Int32))), .val (.int ((p5 &&& (1 : Int32)) + (((((p5.toUInt32 >>> ((1 : Int32) &&& 31).toUInt32).toInt32) &&& (7 : Int32)) % (5 : Int32)) + (1 : Int32)))), .val (.int (((p5.toUInt32 >>> ((4 : Int32) &&& 31).toUInt32).toInt32).toInt8.toInt32)), .val (.ref b1), .unset] [])) _
    refine XS.aload X3.here hx rfl (hb hby at_73) rfl rfl ?_
    show Steps p.tables e below (T3.setTop (mkF m 75 #[.val (.int p1), .val (.int p2), .val (.int p3), .val (.int p4), .val (.int p5), .val (.int (p1 &&& (255 : Int32))), .val (.int (p2 &&& (255 : Int32))), .val (.int (p3 &&& (255 : Int32))), .val (.int (p4 &&& (255 : Int32))), .val (.int (p5 &&& (1 : Int32))), .val (.int (((((p5.toUInt32 >>> ((1 : Int32) &&& 31).toUInt32).toInt32) &&& (7 : Int32)) % (5 : Int32)) + (1 : Int32))), .val (.int ((p5 &&& (1 : Int32)) + (((((p5.toUInt32 >>> ((1 : Int32) &&& 31).toUInt32).toInt32) &&& (7 : Int32)) % (5 : Int32)) + (1 : Int32)))), .val (.int (((p5.toUInt32 >>> ((4 : Int32) &&& 31).toUInt32).toInt32).toInt8.toInt32)), .val (.ref b1), .unset] [(.ref b1)])) _
    refine XS.iconst X3.here hx rfl (hb hby at_75) ?_
    show Steps p.tables e below (T3.setTop (mkF m 76 #[.val (.int p1), .val (.int p2), .val (.int p3), .val (.int p4), .val (.int p5), .val (.int (p1 &&& (255 : Int32))), .val (.int (p2 &&& (255 : Int32))), .val (.int (p3 &&& (255 : Int32))), .val (.int (p4 &&& (255 : Int32))), .val (.int (p5 &&& (1 : Int32))), .val (.int (((((p5.toUInt32 >>> ((1 : Int32) &&& 31).toUInt32).toInt32) &&& (7 : Int32)) % (5 : Int32)) + (1 : Int32))), .val (.int ((p5 &&& (1 : Int32)) + (((((p5.toUInt32 >>> ((1 : Int32) &&& 31).toUInt32).toInt32) &&& (7 : Int32)) % (5 : Int32)) + (1 : Int32)))), .val (.int (((p5.toUInt32 >>> ((4 : Int32) &&& 31).toUInt32).toInt32).toInt8.toInt32)), .val (.ref b1), .unset] [(.int (1 : Int32)), (.ref b1)])) _
    refine XS.iload X3.here hx rfl (hb hby at_76) rfl ?_
    show Steps p.tables e below (T3.setTop (mkF m 78 #[.val (.int p1), .val (.int p2), .val (.int p3), .val (.int p4), .val (.int p5), .val (.int (p1 &&& (255 : Int32))), .val (.int (p2 &&& (255 : Int32))), .val (.int (p3 &&& (255 : Int32))), .val (.int (p4 &&& (255 : Int32))), .val (.int (p5 &&& (1 : Int32))), .val (.int (((((p5.toUInt32 >>> ((1 : Int32) &&& 31).toUInt32).toInt32) &&& (7 : Int32)) % (5 : Int32)) + (1 : Int32))), .val (.int ((p5 &&& (1 : Int32)) + (((((p5.toUInt32 >>> ((1 : Int32) &&& 31).toUInt32).toInt32) &&& (7 : Int32)) % (5 : Int32)) + (1 : Int32)))), .val (.int (((p5.toUInt32 >>> ((4 : Int32) &&& 31).toUInt32).toInt32).toInt8.toInt32)), .val (.ref b1), .unset] [(.int (((p5.toUInt32 >>> ((4 : Int32) &&& 31).toUInt32).toInt32).toInt8.toInt32)), (.int (1 : Int32)), (.ref b1)])) _
    refine st5 _ ?_
    show Steps p.tables e below (T5.setTop (mkF m 79 #[.val (.int p1), .val (.int p2), .val (.int p3), .val (.int p4), .val (.int p5), .val (.int (p1 &&& (255 : Int32))), .val (.int (p2 &&& (255 : Int32))), .val (.int (p3 &&& (255 : Int32))), .val (.int (p4 &&& (255 : Int32))), .val (.int (p5 &&& (1 : Int32))), .val (.int (((((p5.toUInt32 >>> ((1 : Int32) &&& 31).toUInt32).toInt32) &&& (7 : Int32)) % (5 : Int32)) + (1 : Int32))), .val (.int ((p5 &&& (1 : Int32)) + (((((p5.toUInt32 >>> ((1 : Int32) &&& 31).toUInt32).toInt32) &&& (7 : Int32)) % (5 : Int32)) + (1 : Int32)))), .val (.int (((p5.toUInt32 >>> ((4 : Int32) &&& 31).toUInt32).toInt32).toInt8.toInt32)), .val (.ref b1), .unset] [])) _
    refine XS.aload X5.here hx rfl (hb hby at_79) rfl rfl ?_
    show Steps p.tables e below (T5.setTop (mkF m 81 #[.val (.int p1), .val (.int p2), .val (.int p3), .val (.int p4), .val (.int p5), .val (.int (p1 &&& (255 : Int32))), .val (.int (p2 &&& (255 : Int32))), .val (.int (p3 &&& (255 : Int32))), .val (.int (p4 &&& (255 : Int32))), .val (.int (p5 &&& (1 : Int32))), .val (.int (((((p5.toUInt32 >>> ((1 : Int32) &&& 31).toUInt32).toInt32) &&& (7 : Int32)) % (5 : Int32)) + (1 : Int32))), .val (.int ((p5 &&& (1 : Int32)) + (((((p5.toUInt32 >>> ((1 : Int32) &&& 31).toUInt32).toInt32) &&& (7 : Int32)) % (5 : Int32)) + (1 : Int32)))), .val (.int (((p5.toUInt32 >>> ((4 : Int32) &&& 31).toUInt32).toInt32).toInt8.toInt32)), .val (.ref b1), .unset] [(.ref b1)])) _
    refine XS.iconst X5.here hx rfl (hb hby at_81) ?_
    show Steps p.tables e below (T5.setTop (mkF m 82 #[.val (.int p1), .val (.int p2), .val (.int p3), .val (.int p4), .val (.int p5), .val (.int (p1 &&& (255 : Int32))), .val (.int (p2 &&& (255 : Int32))), .val (.int (p3 &&& (255 : Int32))), .val (.int (p4 &&& (255 : Int32))), .val (.int (p5 &&& (1 : Int32))), .val (.int (((((p5.toUInt32 >>> ((1 : Int32) &&& 31).toUInt32).toInt32) &&& (7 : Int32)) % (5 : Int32)) + (1 : Int32))), .val (.int ((p5 &&& (1 : Int32)) + (((((p5.toUInt32 >>> ((1 : Int32) &&& 31).toUInt32).toInt32) &&& (7 : Int32)) % (5 : Int32)) + (1 : Int32)))), .val (.int (((p5.toUInt32 >>> ((4 : Int32) &&& 31).toUInt32).toInt32).toInt8.toInt32)), .val (.ref b1), .unset] [(.int (2 : Int32)), (.ref b1)])) _
    refine XS.iload X5.here hx rfl (hb hby at_82) rfl ?_
    show Steps p.tables e below (T5.setTop (mkF m 84 #[.val (.int p1), .val (.int p2), .val (.int p3), .val (.int p4), .val (.int p5), .val (.int (p1 &&& (255 : Int32))), .val (.int (p2 &&& (255 : Int32))), .val (.int (p3 &&& (255 : Int32))), .val (.int (p4 &&& (255 : Int32))), .val (.int (p5 &&& (1 : Int32))), .val (.int (((((p5.toUInt32 >>> ((1 : Int32) &&& 31).toUInt32).toInt32) &&& (7 : Int32)) % (5 : Int32)) + (1 : Int32))), .val (.int ((p5 &&& (1 : Int32)) + (((((p5.toUInt32 >>> ((1 : Int32) &&& 31).toUInt32).toInt32) &&& (7 : Int32)) % (5 : Int32)) + (1 : Int32)))), .val (.int (((p5.toUInt32 >>> ((4 : Int32) &&& 31).toUInt32).toInt32).toInt8.toInt32)), .val (.ref b1), .unset] [(.int (((p5.toUInt32 >>> ((4 : Int32) &&& 31).toUInt32).toInt32).toInt8.toInt32)), (.int (2 : Int32)), (.ref b1)])) _
    refine st7 _ ?_
    show Steps p.tables e below (T7.setTop (mkF m 85 #[.val (.int p1), .val (.int p2), .val (.int p3), .val (.int p4), .val (.int p5), .val (.int (p1 &&& (255 : Int32))), .val (.int (p2 &&& (255 : Int32))), .val (.int (p3 &&& (255 : Int32))), .val (.int (p4 &&& (255 : Int32))), .val (.int (p5 &&& (1 : Int32))), .val (.int (((((p5.toUInt32 >>> ((1 : Int32) &&& 31).toUInt32).toInt32) &&& (7 : Int32)) % (5 : Int32)) + (1 : Int32))), .val (.int ((p5 &&& (1 : Int32)) + (((((p5.toUInt32 >>> ((1 : Int32) &&& 31).toUInt32).toInt32) &&& (7 : Int32)) % (5 : Int32)) + (1 : Int32)))), .val (.int (((p5.toUInt32 >>> ((4 : Int32) &&& 31).toUInt32).toInt32).toInt8.toInt32)), .val (.ref b1), .unset] [])) _
    refine XS.aload X7.here hx rfl (hb hby at_85) rfl rfl ?_
    show Steps p.tables e below (T7.setTop (mkF m 87 #[.val (.int p1), .val (.int p2), .val (.int p3), .val (.int p4), .val (.int p5), .val (.int (p1 &&& (255 : Int32))), .val (.int (p2 &&& (255 : Int32))), .val (.int (p3 &&& (255 : Int32))), .val (.int (p4 &&& (255 : Int32))), .val (.int (p5 &&& (1 : Int32))), .val (.int (((((p5.toUInt32 >>> ((1 : Int32) &&& 31).toUInt32).toInt32) &&& (7 : Int32)) % (5 : Int32)) + (1 : Int32))), .val (.int ((p5 &&& (1 : Int32)) + (((((p5.toUInt32 >>> ((1 : Int32) &&& 31).toUInt32).toInt32) &&& (7 : Int32)) % (5 : Int32)) + (1 : Int32)))), .val (.int (((p5.toUInt32 >>> ((4 : Int32) &&& 31).toUInt32).toInt32).toInt8.toInt32)), .val (.ref b1), .unset] [(.ref b1)])) _
    refine XS.iconst X7.here hx rfl (hb hby at_87) ?_
    show Steps p.tables e below (T7.setTop (mkF m 88 #[.val (.int p1), .val (.int p2), .val (.int p3), .val (.int p4), .val (.int p5), .val (.int (p1 &&& (255 : Int32))), .val (.int (p2 &&& (255 : Int32))), .val (.int (p3 &&& (255 : Int32))), .val (.int (p4 &&& (255 : Int32))), .val (.int (p5 &&& (1 : Int32))), .val (.int (((((p5.toUInt32 >>> ((1 : Int32) &&& 31).toUInt32).toInt32) &&& (7 : Int32)) % (5 : Int32)) + (1 : Int32))), .val (.int ((p5 &&& (1 : Int32)) + (((((p5.toUInt32 >>> ((1 : Int32) &&& 31).toUInt32).toInt32) &&& (7 : Int32)) % (5 : Int32)) + (1 : Int32)))), .val (.int (((p5.toUInt32 >>> ((4 : Int32) &&& 31).toUInt32).toInt32).toInt8.toInt32)), .val (.ref b1), .unset] [(.int (3 : Int32)), (.ref b1)])) _
    refine XS.iload X7.here hx rfl (hb hby at_88) rfl ?_
    show Steps p.tables e below (T7.setTop (mkF m 90 #[.val (.int p1), .val (.int p2), .val (.int p3), .val (.int p4), .val (.int p5), .val (.int (p1 &&& (255 : Int32))), .val (.int (p2 &&& (255 : Int32))), .val (.int (p3 &&& (255 : Int32))), .val (.int (p4 &&& (255 : Int32))), .val (.int (p5 &&& (1 : Int32))), .val (.int (((((p5.toUInt32 >>> ((1 : Int32) &&& 31).toUInt32).toInt32) &&& (7 : Int32)) % (5 : Int32)) + (1 : Int32))), .val (.int ((p5 &&& (1 : Int32)) + (((((p5.toUInt32 >>> ((1 : Int32) &&& 31).toUInt32).toInt32) &&& (7 : Int32)) % (5 : Int32)) + (1 : Int32)))), .val (.int (((p5.toUInt32 >>> ((4 : Int32) &&& 31).toUInt32).toInt32).toInt8.toInt32)), .val (.ref b1), .unset] [(.int (((p5.toUInt32 >>> ((4 : Int32) &&& 31).toUInt32).toInt32).toInt8.toInt32)), (.int (3 : Int32)), (.ref b1)])) _
    refine st9 _ ?_
    show Steps p.tables e below (T9.setTop (mkF m 91 #[.val (.int p1), .val (.int p2), .val (.int p3), .val (.int p4), .val (.int p5), .val (.int (p1 &&& (255 : Int32))), .val (.int (p2 &&& (255 : Int32))), .val (.int (p3 &&& (255 : Int32))), .val (.int (p4 &&& (255 : Int32))), .val (.int (p5 &&& (1 : Int32))), .val (.int (((((p5.toUInt32 >>> ((1 : Int32) &&& 31).toUInt32).toInt32) &&& (7 : Int32)) % (5 : Int32)) + (1 : Int32))), .val (.int ((p5 &&& (1 : Int32)) + (((((p5.toUInt32 >>> ((1 : Int32) &&& 31).toUInt32).toInt32) &&& (7 : Int32)) % (5 : Int32)) + (1 : Int32)))), .val (.int (((p5.toUInt32 >>> ((4 : Int32) &&& 31).toUInt32).toInt32).toInt8.toInt32)), .val (.ref b1), .unset] [])) _
    refine XS.aload X9.here hx rfl (hb hby at_91) rfl rfl ?_
    show Steps p.tables e below (T9.setTop (mkF m 93 #[.val (.int p1), .val (.int p2), .val (.int p3), .val (.int p4), .val (.int p5), .val (.int (p1 &&& (255 : Int32))), .val (.int (p2 &&& (255 : Int32))), .val (.int (p3 &&& (255 : Int32))), .val (.int (p4 &&& (255 : Int32))), .val (.int (p5 &&& (1 : Int32))), .val (.int (((((p5.toUInt32 >>> ((1 : Int32) &&& 31).toUInt32).toInt32) &&& (7 : Int32)) % (5 : Int32)) + (1 : Int32))), .val (.int ((p5 &&& (1 : Int32)) + (((((p5.toUInt32 >>> ((1 : Int32) &&& 31).toUInt32).toInt32) &&& (7 : Int32)) % (5 : Int32)) + (1 : Int32)))), .val (.int (((p5.toUInt32 >>> ((4 : Int32) &&& 31).toUInt32).toInt32).toInt8.toInt32)), .val (.ref b1), .unset] [(.ref b1)])) _
    refine XS.iconst X9.here hx rfl (hb hby at_93) ?_
    show Steps p.tables e below (T9.setTop (mkF m 94 #[.val (.int p1), .val (.int p2), .val (.int p3), .val (.int p4), .val (.int p5), .val (.int (p1 &&& (255 : Int32))), .val (.int (p2 &&& (255 : Int32))), .val (.int (p3 &&& (255 : Int32))), .val (.int (p4 &&& (255 : Int32))), .val (.int (p5 &&& (1 : Int32))), .val (.int (((((p5.toUInt32 >>> ((1 : Int32) &&& 31).toUInt32).toInt32) &&& (7 : Int32)) % (5 : Int32)) + (1 : Int32))), .val (.int ((p5 &&& (1 : Int32)) + (((((p5.toUInt32 >>> ((1 : Int32) &&& 31).toUInt32).toInt32) &&& (7 : Int32)) % (5 : Int32)) + (1 : Int32)))), .val (.int (((p5.toUInt32 >>> ((4 : Int32) &&& 31).toUInt32).toInt32).toInt8.toInt32)), .val (.ref b1), .unset] [(.int (4 : Int32)), (.ref b1)])) _
    refine XS.iload X9.here hx rfl (hb hby at_94) rfl ?_
    show Steps p.tables e below (T9.setTop (mkF m 96 #[.val (.int p1), .val (.int p2), .val (.int p3), .val (.int p4), .val (.int p5), .val (.int (p1 &&& (255 : Int32))), .val (.int (p2 &&& (255 : Int32))), .val (.int (p3 &&& (255 : Int32))), .val (.int (p4 &&& (255 : Int32))), .val (.int (p5 &&& (1 : Int32))), .val (.int (((((p5.toUInt32 >>> ((1 : Int32) &&& 31).toUInt32).toInt32) &&& (7 : Int32)) % (5 : Int32)) + (1 : Int32))), .val (.int ((p5 &&& (1 : Int32)) + (((((p5.toUInt32 >>> ((1 : Int32) &&& 31).toUInt32).toInt32) &&& (7 : Int32)) % (5 : Int32)) + (1 : Int32)))), .val (.int (((p5.toUInt32 >>> ((4 : Int32) &&& 31).toUInt32).toInt32).toInt8.toInt32)), .val (.ref b1), .unset] [(.int (((p5.toUInt32 >>> ((4 : Int32) &&& 31).toUInt32).toInt32).toInt8.toInt32)), (.int (4 : Int32)), (.ref b1)])) _
    refine st11 _ ?_
    show Steps p.tables e below (T11.setTop (mkF m 97 #[.val (.int p1), .val (.int p2), .val (.int p3), .val (.int p4), .val (.int p5), .val (.int (p1 &&& (255 : Int32))), .val (.int (p2 &&& (255 : Int32))), .val (.int (p3 &&& (255 : Int32))), .val (.int (p4 &&& (255 : Int32))), .val (.int (p5 &&& (1 : Int32))), .val (.int (((((p5.toUInt32 >>> ((1 : Int32) &&& 31).toUInt32).toInt32) &&& (7 : Int32)) % (5 : Int32)) + (1 : Int32))), .val (.int ((p5 &&& (1 : Int32)) + (((((p5.toUInt32 >>> ((1 : Int32) &&& 31).toUInt32).toInt32) &&& (7 : Int32)) % (5 : Int32)) + (1 : Int32)))), .val (.int (((p5.toUInt32 >>> ((4 : Int32) &&& 31).toUInt32).toInt32).toInt8.toInt32)), .val (.ref b1), .unset] [])) _
    refine XS.aload X11.here hx rfl (hb hby at_97) rfl rfl ?_
    show Steps p.tables e below (T11.setTop (mkF m 99 #[.val (.int p1), .val (.int p2), .val (.int p3), .val (.int p4), .val (.int p5), .val (.int (p1 &&& (255 : Int32))), .val (.int (p2 &&& (255 : Int32))), .val (.int (p3 &&& (255 : Int32))), .val (.int (p4 &&& (255 : Int32))), .val (.int (p5 &&& (1 : Int32))), .val (.int (((((p5.toUInt32 >>> ((1 : Int32) &&& 31).toUInt32).toInt32) &&& (7 : Int32)) % (5 : Int32)) + (1 : Int32))), .val (.int ((p5 &&& (1 : Int32)) + (((((p5.toUInt32 >>> ((1 : Int32) &&& 31).toUInt32).toInt32) &&& (7 : Int32)) % (5 : Int32)) + (1 : Int32)))), .val (.int (((p5.toUInt32 >>> ((4 : Int32) &&& 31).toUInt32).toInt32).toInt8.toInt32)), .val (.ref b1), .unset] [(.ref b1)])) _
    refine XS.iconst X11.here hx rfl (hb hby at_99) ?_
    show Steps p.tables e below (T11.setTop (mkF m 100 #[.val (.int p1), .val (.int p2), .val (.int p3), .val (.int p4), .val (.int p5), .val (.int (p1 &&& (255 : Int32))), .val (.int (p2 &&& (255 : Int32))), .val (.int (p3 &&& (255 : Int32))), .val (.int (p4 &&& (255 : Int32))), .val (.int (p5 &&& (1 : Int32))), .val (.int (((((p5.toUInt32 >>> ((1 : Int32) &&& 31).toUInt32).toInt32) &&& (7 : Int32)) % (5 : Int32)) + (1 : Int32))), .val (.int ((p5 &&& (1 : Int32)) + (((((p5.toUInt32 >>> ((1 : Int32) &&& 31).toUInt32).toInt32) &&& (7 : Int32)) % (5 : Int32)) + (1 : Int32)))), .val (.int (((p5.toUInt32 >>> ((4 : Int32) &&& 31).toUInt32).toInt32).toInt8.toInt32)), .val (.ref b1), .unset] [(.int (5 : Int32)), (.ref b1)])) _
    refine XS.iload X11.here hx rfl (hb hby at_100) rfl ?_
    show Steps p.tables e below (T11.setTop (mkF m 102 #[.val (.int p1), .val (.int p2), .val (.int p3), .val (.int p4), .val (.int p5), .val (.int (p1 &&& (255 : Int32))), .val (.int (p2 &&& (255 : Int32))), .val (.int (p3 &&& (255 : Int32))), .val (.int (p4 &&& (255 : Int32))), .val (.int (p5 &&& (1 : Int32))), .val (.int (((((p5.toUInt32 >>> ((1 : Int32) &&& 31).toUInt32).toInt32) &&& (7 : Int32)) % (5 : Int32)) + (1 : Int32))), .val (.int ((p5 &&& (1 : Int32)) + (((((p5.toUInt32 >>> ((1 : Int32) &&& 31).toUInt32).toInt32) &&& (7 : Int32)) % (5 : Int32)) + (1 : Int32)))), .val (.int (((p5.toUInt32 >>> ((4 : Int32) &&& 31).toUInt32).toInt32).toInt8.toInt32)), .val (.ref b1), .unset] [(.int (((p5.toUInt32 >>> ((4 : Int32) &&& 31).toUInt32).toInt32).toInt8.toInt32)), (.int (5 : Int32)), (.ref b1)])) _
    refine st13 _ ?_
    show Steps p.tables e below (T13.setTop (mkF m 103 #[.val (.int p1), .val (.int p2), .val (.int p3), .val (.int p4), .val (.int p5), .val (.int (p1 &&& (255 : Int32))), .val (.int (p2 &&& (255 : Int32))), .val (.int (p3 &&& (255 : Int32))), .val (.int (p4 &&& (255 : Int32))), .val (.int (p5 &&& (1 : Int32))), .val (.int (((((p5.toUInt32 >>> ((1 : Int32) &&& 31).toUInt32).toInt32) &&& (7 : Int32)) % (5 : Int32)) + (1 : Int32))), .val (.int ((p5 &&& (1 : Int32)) + (((((p5.toUInt32 >>> ((1 : Int32) &&& 31).toUInt32).toInt32) &&& (7 : Int32)) % (5 : Int32)) + (1 : Int32)))), .val (.int (((p5.toUInt32 >>> ((4 : Int32) &&& 31).toUInt32).toInt32).toInt8.toInt32)), .val (.ref b1), .unset] [])) _
    refine XS.aload X13.here hx rfl (hb hby at_103) rfl rfl ?_
    show Steps p.tables e below (T13.setTop (mkF m 105 #[.val (.int p1), .val (.int p2), .val (.int p3), .val (.int p4), .val (.int p5), .val (.int (p1 &&& (255 : Int32))), .val (.int (p2 &&& (255 : Int32))), .val (.int (p3 &&& (255 : Int32))), .val (.int (p4 &&& (255 : Int32))), .val (.int (p5 &&& (1 : Int32))), .val (.int (((((p5.toUInt32 >>> ((1 : Int32) &&& 31).toUInt32).toInt32) &&& (7 : Int32)) % (5 : Int32)) + (1 : Int32))), .val (.int ((p5 &&& (1 : Int32)) + (((((p5.toUInt32 >>> ((1 : Int32) &&& 31).toUInt32).toInt32) &&& (7 : Int32)) % (5 : Int32)) + (1 : Int32)))), .val (.int (((p5.toUInt32 >>> ((4 : Int32) &&& 31).toUInt32).toInt32).toInt8.toInt32)), .val (.ref b1), .unset] [(.ref b1)])) _
    refine XS.iload X13.here hx rfl (hb hby at_105) rfl ?_
    show Steps p.tables e below (T13.setTop (mkF m 107 #[.val (.int p1), .val (.int p2), .val (.int p3), .val (.int p4), .val (.int p5), .val (.int (p1 &&& (255 : Int32))), .val (.int (p2 &&& (255 : Int32))), .val (.int (p3 &&& (255 : Int32))), .val (.int (p4 &&& (255 : Int32))), .val (.int (p5 &&& (1 : Int32))), .val (.int (((((p5.toUInt32 >>> ((1 : Int32) &&& 31).toUInt32).toInt32) &&& (7 : Int32)) % (5 : Int32)) + (1 : Int32))), .val (.int ((p5 &&& (1 : Int32)) + (((((p5.toUInt32 >>> ((1 : Int32) &&& 31).toUInt32).toInt32) &&& (7 : Int32)) % (5 : Int32)) + (1 : Int32)))), .val (.int (((p5.toUInt32 >>> ((4 : Int32) &&& 31).toUInt32).toInt32).toInt8.toInt32)), .val (.ref b1), .unset] [(.int (p5 &&& (1 : Int32))), (.ref b1)])) _
    refine XS.iload X13.here hx rfl (hb hby at_107) rfl ?_
    show Steps p.tables e below (T13.setTop (mkF m 109 #[.val (.int p1), .val (.int p2), .val (.int p3), .val (.int p4), .val (.int p5), .val (.int (p1 &&& (255 : Int32))), .val (.int (p2 &&& (255 : Int32))), .val (.int (p3 &&& (255 : Int32))), .val (.int (p4 &&& (255 : Int32))), .val (.int (p5 &&& (1 : Int32))), .val (.int (((((p5.toUInt32 >>> ((1 : Int32) &&& 31).toUInt32).toInt32) &&& (7 : Int32)) % (5 : Int32)) + (1 : Int32))), .val (.int ((p5 &&& (1 : Int32)) + (((((p5.toUInt32 >>> ((1 : Int32) &&& 31).toUInt32).toInt32) &&& (7 : Int32)) % (5 : Int32)) + (1 : Int32)))), .val (.int (((p5.toUInt32 >>> ((4 : Int32) &&& 31).toUInt32).toInt32).toInt8.toInt32)), .val (.ref b1), .unset] [(.int (p1 &&& (255 : Int32))), (.int (p5 &&& (1 : Int32))), (.ref b1)])) _
    refine XS.i2b X13.here hx rfl (hb hby at_109) rfl ?_
    exact k)
  rcases own_bit p5 with hat | hat
  · have Vc15 := V1_13
    obtain ⟨cl15, Ar15, qq15, sz15, nn15, Ha15, Gf15⟩ := Vc15
    have hin15 : ¬ ((p5 &&& (1 : Int32)) < 0 ∨ cl15.slots.size ≤ ((p5 &&& (1 : Int32))).toNatClampNeg) := inb_of sz15 ⟨by rw [hat]; decide, by rw [hat]; decide⟩
    obtain ⟨T16, h16, X16, e16, W16, st16⟩ := stB X13 hx hZ e13 Ar15 (j := (p5 &&& (1 : Int32))) hin15 (g := (mkF m 110 #[.val (.int p1), .val (.int p2), .val (.int p3), .val (.int p4), .val (.int p5), .val (.int (p1 &&& (255 : Int32))), .val (.int (p2 &&& (255 : Int32))), .val (.int (p3 &&& (255 : Int32))), .val (.int (p4 &&& (255 : Int32))), .val (.int (p5 &&& (1 : Int32))), .val (.int (((((p5.toUInt32 >>> ((1 : Int32) &&& 31).toUInt32).toInt32) &&& (7 : Int32)) % (5 : Int32)) + (1 : Int32))), .val (.int ((p5 &&& (1 : Int32)) + (((((p5.toUInt32 >>> ((1 : Int32) &&& 31).toUInt32).toInt32) &&& (7 : Int32)) % (5 : Int32)) + (1 : Int32)))), .val (.int (((p5.toUInt32 >>> ((4 : Int32) &&& 31).toUInt32).toInt32).toInt8.toInt32)), .val (.ref b1), .unset] [(.int ((p1 &&& (255 : Int32)).toInt8.toInt32)), (.int (p5 &&& (1 : Int32))), (.ref b1)])) rfl rfl (hb hby at_110)
    have N16 := Fr.snoc X16 N13 gn1
    have S1_16 := S1_13.wr W16
    have S2_16 := S2_13.wr W16
    have S3_16 := S3_13.wr W16
    have AL_16 := AL_13.other W16 ne_wl_b1
    have AO_16 := AO_13.other W16 ne_wo_b1
    have AH_16 := AH_13.other W16 ne_wh_b1
    have V1_16 := Arv.set Ar15 qq15 sz15 nn15 Ha15 Gf15 (fits_nar_byte _) W16 0 (by rw [hat]; rfl) (Nat.le_of_ble_eq_true rfl)
    have Vc17 := V1_16
    obtain ⟨cl17, Ar17, qq17, sz17, nn17, Ha17, Gf17⟩ := Vc17
    have hin17 : ¬ (((p5 &&& (1 : Int32)) + (1 : Int32)) < 0 ∨ cl17.slots.size ≤ (((p5 &&& (1 : Int32)) + (1 : Int32))).toNatClampNeg) := inb_of sz17 ⟨by rw [hat]; decide, by rw [hat]; decide⟩
    obtain ⟨T18, h18, X18, e18, W18, st18⟩ := stB X16 hx hZ e16 Ar17 (j := ((p5 &&& (1 : Int32)) + (1 : Int32))) hin17 (g := (mkF m 120 #[.val (.int p1), .val (.int p2), .val (.int p3), .val (.int p4), .val (.int p5), .val (.int (p1 &&& (255 : Int32))), .val (.int (p2 &&& (255 : Int32))), .val (.int (p3 &&& (255 : Int32))), .val (.int (p4 &&& (255 : Int32))), .val (.int (p5 &&& (1 : Int32))), .val (.int (((((p5.toUInt32 >>> ((1 : Int32) &&& 31).toUInt32).toInt32) &&& (7 : Int32)) % (5 : Int32)) + (1 : Int32))), .val (.int ((p5 &&& (1 : Int32)) + (((((p5.toUInt32 >>> ((1 : Int32) &&& 31).toUInt32).toInt32) &&& (7 : Int32)) % (5 : Int32)) + (1 : Int32)))), .val (.int (((p5.toUInt32 >>> ((4 : Int32) &&& 31).toUInt32).toInt32).toInt8.toInt32)), .val (.ref b1), .unset] [(.int ((p2 &&& (255 : Int32)).toInt8.toInt32)), (.int ((p5 &&& (1 : Int32)) + (1 : Int32))), (.ref b1)])) rfl rfl (hb hby at_120)
    have N18 := Fr.snoc X18 N16 gn1
    have S1_18 := S1_16.wr W18
    have S2_18 := S2_16.wr W18
    have S3_18 := S3_16.wr W18
    have AL_18 := AL_16.other W18 ne_wl_b1
    have AO_18 := AO_16.other W18 ne_wo_b1
    have AH_18 := AH_16.other W18 ne_wh_b1
    have V1_18 := Arv.set Ar17 qq17 sz17 nn17 Ha17 Gf17 (fits_nar_byte _) W18 1 (by rw [hat]; rfl) (Nat.le_of_ble_eq_true rfl)
    have Vc19 := V1_18
    obtain ⟨cl19, Ar19, qq19, sz19, nn19, Ha19, Gf19⟩ := Vc19
    have hin19 : ¬ (((p5 &&& (1 : Int32)) + (2 : Int32)) < 0 ∨ cl19.slots.size ≤ (((p5 &&& (1 : Int32)) + (2 : Int32))).toNatClampNeg) := inb_of sz19 ⟨by rw [hat]; decide, by rw [hat]; decide⟩
    obtain ⟨T20, h20, X20, e20, W20, st20⟩ := stB X18 hx hZ e18 Ar19 (j := ((p5 &&& (1 : Int32)) + (2 : Int32))) hin19 (g := (mkF m 130 #[.val (.int p1), .val (.int p2), .val (.int p3), .val (.int p4), .val (.int p5), .val (.int (p1 &&& (255 : Int32))), .val (.int (p2 &&& (255 : Int32))), .val (.int (p3 &&& (255 : Int32))), .val (.int (p4 &&& (255 : Int32))), .val (.int (p5 &&& (1 : Int32))), .val (.int (((((p5.toUInt32 >>> ((1 : Int32) &&& 31).toUInt32).toInt32) &&& (7 : Int32)) % (5 : Int32)) + (1 : Int32))), .val (.int ((p5 &&& (1 : Int32)) + (((((p5.toUInt32 >>> ((1 : Int32) &&& 31).toUInt32).toInt32) &&& (7 : Int32)) % (5 : Int32)) + (1 : Int32)))), .val (.int (((p5.toUInt32 >>> ((4 : Int32) &&& 31).toUInt32).toInt32).toInt8.toInt32)), .val (.ref b1), .unset] [(.int ((p3 &&& (255 : Int32)).toInt8.toInt32)), (.int ((p5 &&& (1 : Int32)) + (2 : Int32))), (.ref b1)])) rfl rfl (hb hby at_130)
    have N20 := Fr.snoc X20 N18 gn1
    have S1_20 := S1_18.wr W20
    have S2_20 := S2_18.wr W20
    have S3_20 := S3_18.wr W20
    have AL_20 := AL_18.other W20 ne_wl_b1
    have AO_20 := AO_18.other W20 ne_wo_b1
    have AH_20 := AH_18.other W20 ne_wh_b1
    have V1_20 := Arv.set Ar19 qq19 sz19 nn19 Ha19 Gf19 (fits_nar_byte _) W20 2 (by rw [hat]; rfl) (Nat.le_of_ble_eq_true rfl)
    have Vc21 := V1_20
    obtain ⟨cl21, Ar21, qq21, sz21, nn21, Ha21, Gf21⟩ := Vc21
    have hin21 : ¬ (((p5 &&& (1 : Int32)) + (3 : Int32)) < 0 ∨ cl21.slots.size ≤ (((p5 &&& (1 : Int32)) + (3 : Int32))).toNatClampNeg) := inb_of sz21 ⟨by rw [hat]; decide, by rw [hat]; decide⟩
    obtain ⟨T22, h22, X22, e22, W22, st22⟩ := stB X20 hx hZ e20 Ar21 (j := ((p5 &&& (1 : Int32)) + (3 : Int32))) hin21 (g := (mkF m 140 #[.val (.int p1), .val (.int p2), .val (.int p3), .val (.int p4), .val (.int p5), .val (.int (p1 &&& (255 : Int32))), .val (.int (p2 &&& (255 : Int32))), .val (.int (p3 &&& (255 : Int32))), .val (.int (p4 &&& (255 : Int32))), .val (.int (p5 &&& (1 : Int32))), .val (.int (((((p5.toUInt32 >>> ((1 : Int32) &&& 31).toUInt32).toInt32) &&& (7 : Int32)) % (5 : Int32)) + (1 : Int32))), .val (.int ((p5 &&& (1 : Int32)) + (((((p5.toUInt32 >>> ((1 : Int32) &&& 31).toUInt32).toInt32) &&& (7 : Int32)) % (5 : Int32)) + (1 : Int32)))), .val (.int (((p5.toUInt32 >>> ((4 : Int32) &&& 31).toUInt32).toInt32).toInt8.toInt32)), .val (.ref b1), .unset] [(.int ((p4 &&& (255 : Int32)).toInt8.toInt32)), (.int ((p5 &&& (1 : Int32)) + (3 : Int32))), (.ref b1)])) rfl rfl (hb hby at_140)
    have N22 := Fr.snoc X22 N20 gn1
    have S1_22 := S1_20.wr W22
    have S2_22 := S2_20.wr W22
    have S3_22 := S3_20.wr W22
    have AL_22 := AL_20.other W22 ne_wl_b1
    have AO_22 := AO_20.other W22 ne_wo_b1
    have AH_22 := AH_20.other W22 ne_wh_b1
    have V1_22 := Arv.set Ar21 qq21 sz21 nn21 Ha21 Gf21 (fits_nar_byte _) W22 3 (by rw [hat]; rfl) (Nat.le_of_ble_eq_true rfl)
    have Vc23 := V1_22
    obtain ⟨cl23, Ar23, qq23, sz23, nn23, Ha23, Gf23⟩ := Vc23
    have R0 : own_rd cl23 (p5 &&& (1 : Int32)) (nar .byte ((p1 &&& (255 : Int32)).toInt8.toInt32)) := own_rdOf sz23 Ha23 ⟨by rw [hat]; decide, by rw [hat]; decide⟩ (by rw [hat]; rfl)
    have R1 : own_rd cl23 ((p5 &&& (1 : Int32)) + (1 : Int32)) (nar .byte ((p2 &&& (255 : Int32)).toInt8.toInt32)) := own_rdOf sz23 Ha23 ⟨by rw [hat]; decide, by rw [hat]; decide⟩ (by rw [hat]; rfl)
    have R2 : own_rd cl23 ((p5 &&& (1 : Int32)) + ((1 : Int32) + (1 : Int32))) (nar .byte ((p3 &&& (255 : Int32)).toInt8.toInt32)) := own_rdOf sz23 Ha23 ⟨by rw [hat]; decide, by rw [hat]; decide⟩ (by rw [hat]; rfl)
    have R3 : own_rd cl23 ((p5 &&& (1 : Int32)) + (((1 : Int32) + (1 : Int32)) + (1 : Int32))) (nar .byte ((p4 &&& (255 : Int32)).toInt8.toInt32)) := own_rdOf sz23 Ha23 ⟨by rw [hat]; decide, by rw [hat]; decide⟩ (by rw [hat]; rfl)
    have hb0 := HB (p1 &&& (255 : Int32)) (own_rng p1).1 (own_rng p1).2
    rw [← own_by p1] at hb0
    obtain ⟨_, _, ⟨T24, L24, k24, n24⟩, -, X24, ⟨Lc24, hQ24, l24, y24, z24⟩, st24⟩ := Jvm.LawKit.callS X22 hx (y := (⟨"com/example/nearprint/nearprint/cli/Utf8Reader", "wellFormed", "([BII)I"⟩ : MethodName)) hown (mvT hZ (hw _ (List.mem_of_getElem? (i := 1) rfl))) (mvT hZ (hw _ (List.mem_of_getElem? (i := 2) rfl))) (mvT hZ (hw _ (List.mem_of_getElem? (i := 3) rfl))) (mvT hZ (hw _ (List.mem_of_getElem? (i := 4) rfl))) (by decide) (backOf (W := 0) (rm1 l Z a0 hw [] b1 wl wo wh cl23 cL cO cH (nar .byte ((p1 &&& (255 : Int32)).toInt8.toInt32)) (nar .byte ((p2 &&& (255 : Int32)).toInt8.toInt32)) (nar .byte ((p3 &&& (255 : Int32)).toInt8.toInt32)) (nar .byte ((p4 &&& (255 : Int32)).toInt8.toInt32)) (own_len ((nar .byte ((p1 &&& (255 : Int32)).toInt8.toInt32)) &&& (255 : Int32))) (own_lo ((nar .byte ((p1 &&& (255 : Int32)).toInt8.toInt32)) &&& (255 : Int32))) (own_hi ((nar .byte ((p1 &&& (255 : Int32)).toInt8.toInt32)) &&& (255 : Int32))) (p5 &&& (1 : Int32)) ((p5 &&& (1 : Int32)) + (((((p5.toUInt32 >>> ((1 : Int32) &&& 31).toUInt32).toInt32) &&& (7 : Int32)) % (5 : Int32)) + (1 : Int32))) h22 n0 (Nat.le_trans (Nat.le_trans (Nat.le_trans (Nat.le_trans (Nat.le_trans (Nat.le_trans (Nat.le_trans (Nat.le_trans (Nat.le_trans (Nat.le_trans (Nat.le_trans Z0 E1.1) (Nat.le_of_eq W3.size.symm)) (Nat.le_of_eq W5.size.symm)) (Nat.le_of_eq W7.size.symm)) (Nat.le_of_eq W9.size.symm)) (Nat.le_of_eq W11.size.symm)) (Nat.le_of_eq W13.size.symm)) (Nat.le_of_eq W16.size.symm)) (Nat.le_of_eq W18.size.symm)) (Nat.le_of_eq W20.size.symm)) (Nat.le_of_eq W22.size.symm)) S1_22 S2_22 S3_22 Ar23 AL_22 AO_22 AH_22 R0 hb0.1 hb0.2.1 hb0.2.2 R1 R2 R3 (own_len4 _)) hZ (hw _ (List.mem_of_getElem? (i := 4) rfl)) (hw _ (List.mem_of_getElem? (i := 3) rfl)) (by decide) (by decide)) (g := (mkF m 147 #[.val (.int p1), .val (.int p2), .val (.int p3), .val (.int p4), .val (.int p5), .val (.int (p1 &&& (255 : Int32))), .val (.int (p2 &&& (255 : Int32))), .val (.int (p3 &&& (255 : Int32))), .val (.int (p4 &&& (255 : Int32))), .val (.int (p5 &&& (1 : Int32))), .val (.int (((((p5.toUInt32 >>> ((1 : Int32) &&& 31).toUInt32).toInt32) &&& (7 : Int32)) % (5 : Int32)) + (1 : Int32))), .val (.int ((p5 &&& (1 : Int32)) + (((((p5.toUInt32 >>> ((1 : Int32) &&& 31).toUInt32).toInt32) &&& (7 : Int32)) % (5 : Int32)) + (1 : Int32)))), .val (.int (((p5.toUInt32 >>> ((4 : Int32) &&& 31).toUInt32).toInt32).toInt8.toInt32)), .val (.ref b1), .unset] [(.int ((p5 &&& (1 : Int32)) + (((((p5.toUInt32 >>> ((1 : Int32) &&& 31).toUInt32).toInt32) &&& (7 : Int32)) % (5 : Int32)) + (1 : Int32)))), (.int (p5 &&& (1 : Int32))), (.ref b1)])) rfl (by rw [hml]; rfl) (argsL := [(.ref b1), (.int (p5 &&& (1 : Int32))), (.int ((p5 &&& (1 : Int32)) + (((((p5.toUInt32 >>> ((1 : Int32) &&& 31).toUInt32).toInt32) &&& (7 : Int32)) % (5 : Int32)) + (1 : Int32))))]) (rest := []) (lenOf pd_1 rfl) rfl (by show 2 * 0 + _ ≤ _; exact Nat.le_of_eq rfl) (hb hby at_147) (fun _ _ => ⟨rfl, e22, (by decide : 1 + 0 ≤ _), (by decide : 6 + 0 ≤ _)⟩)
    dsimp only [Pt.U, Pt.locs, Pt.cells, Pt.slots] at X24 l24 y24 z24 st24 hQ24
    subst l24 y24 z24
    obtain ⟨rfl, N24q, q24⟩ := hQ24
    have N24 := Fr.app N22 N24q
    obtain ⟨_, _, ⟨T25, L25, k25, n25⟩, -, X25, ⟨Lc25, hQ25, l25, y25, z25⟩, st25⟩ := Jvm.LawKit.callS X24 hx (y := (⟨"com/example/nearprint/nearprint/cli/Utf8ReaderWellFormedPinLaw", "expected", "(IIIII)I"⟩ : MethodName)) hown (mvT hZ (hw _ (List.mem_of_getElem? (i := 11) rfl))) (mvT hZ (hw _ (List.mem_of_getElem? (i := 12) rfl))) (mvT hZ (hw _ (List.mem_of_getElem? (i := 13) rfl))) (mvT hZ (hw _ (List.mem_of_getElem? (i := 14) rfl))) (by decide) (backOf (W := 1) (rm2 l Z a0 hw [] (p1 &&& (255 : Int32)) (p2 &&& (255 : Int32)) (p3 &&& (255 : Int32)) (p4 &&& (255 : Int32)) (((((p5.toUInt32 >>> ((1 : Int32) &&& 31).toUInt32).toInt32) &&& (7 : Int32)) % (5 : Int32)) + (1 : Int32)) h22 n0 (Nat.le_trans (Nat.le_trans (Nat.le_trans (Nat.le_trans (Nat.le_trans (Nat.le_trans (Nat.le_trans (Nat.le_trans (Nat.le_trans (Nat.le_trans (Nat.le_trans Z0 E1.1) (Nat.le_of_eq W3.size.symm)) (Nat.le_of_eq W5.size.symm)) (Nat.le_of_eq W7.size.symm)) (Nat.le_of_eq W9.size.symm)) (Nat.le_of_eq W11.size.symm)) (Nat.le_of_eq W13.size.symm)) (Nat.le_of_eq W16.size.symm)) (Nat.le_of_eq W18.size.symm)) (Nat.le_of_eq W20.size.symm)) (Nat.le_of_eq W22.size.symm))) hZ (hw _ (List.mem_of_getElem? (i := 14) rfl)) (hw _ (List.mem_of_getElem? (i := 13) rfl)) (by decide) (by decide)) (g := (mkF m 164 #[.val (.int p1), .val (.int p2), .val (.int p3), .val (.int p4), .val (.int p5), .val (.int (p1 &&& (255 : Int32))), .val (.int (p2 &&& (255 : Int32))), .val (.int (p3 &&& (255 : Int32))), .val (.int (p4 &&& (255 : Int32))), .val (.int (p5 &&& (1 : Int32))), .val (.int (((((p5.toUInt32 >>> ((1 : Int32) &&& 31).toUInt32).toInt32) &&& (7 : Int32)) % (5 : Int32)) + (1 : Int32))), .val (.int ((p5 &&& (1 : Int32)) + (((((p5.toUInt32 >>> ((1 : Int32) &&& 31).toUInt32).toInt32) &&& (7 : Int32)) % (5 : Int32)) + (1 : Int32)))), .val (.int (((p5.toUInt32 >>> ((4 : Int32) &&& 31).toUInt32).toInt32).toInt8.toInt32)), .val (.ref b1), .val (.int (own_wf (p5 &&& (1 : Int32)) ((p5 &&& (1 : Int32)) + (((((p5.toUInt32 >>> ((1 : Int32) &&& 31).toUInt32).toInt32) &&& (7 : Int32)) % (5 : Int32)) + (1 : Int32))) (own_len ((nar .byte ((p1 &&& (255 : Int32)).toInt8.toInt32)) &&& (255 : Int32))) (own_lo ((nar .byte ((p1 &&& (255 : Int32)).toInt8.toInt32)) &&& (255 : Int32))) (own_hi ((nar .byte ((p1 &&& (255 : Int32)).toInt8.toInt32)) &&& (255 : Int32))) ((nar .byte ((p2 &&& (255 : Int32)).toInt8.toInt32)) &&& (255 : Int32)) ((nar .byte ((p3 &&& (255 : Int32)).toInt8.toInt32)) &&& (255 : Int32)) ((nar .byte ((p4 &&& (255 : Int32)).toInt8.toInt32)) &&& (255 : Int32))))] [(.int (((((p5.toUInt32 >>> ((1 : Int32) &&& 31).toUInt32).toInt32) &&& (7 : Int32)) % (5 : Int32)) + (1 : Int32))), (.int (p4 &&& (255 : Int32))), (.int (p3 &&& (255 : Int32))), (.int (p2 &&& (255 : Int32))), (.int (p1 &&& (255 : Int32))), (.int (own_wf (p5 &&& (1 : Int32)) ((p5 &&& (1 : Int32)) + (((((p5.toUInt32 >>> ((1 : Int32) &&& 31).toUInt32).toInt32) &&& (7 : Int32)) % (5 : Int32)) + (1 : Int32))) (own_len ((nar .byte ((p1 &&& (255 : Int32)).toInt8.toInt32)) &&& (255 : Int32))) (own_lo ((nar .byte ((p1 &&& (255 : Int32)).toInt8.toInt32)) &&& (255 : Int32))) (own_hi ((nar .byte ((p1 &&& (255 : Int32)).toInt8.toInt32)) &&& (255 : Int32))) ((nar .byte ((p2 &&& (255 : Int32)).toInt8.toInt32)) &&& (255 : Int32)) ((nar .byte ((p3 &&& (255 : Int32)).toInt8.toInt32)) &&& (255 : Int32)) ((nar .byte ((p4 &&& (255 : Int32)).toInt8.toInt32)) &&& (255 : Int32))))])) rfl (by rw [hml]; rfl) (argsL := [(.int (p1 &&& (255 : Int32))), (.int (p2 &&& (255 : Int32))), (.int (p3 &&& (255 : Int32))), (.int (p4 &&& (255 : Int32))), (.int (((((p5.toUInt32 >>> ((1 : Int32) &&& 31).toUInt32).toInt32) &&& (7 : Int32)) % (5 : Int32)) + (1 : Int32)))]) (rest := [(.int (own_wf (p5 &&& (1 : Int32)) ((p5 &&& (1 : Int32)) + (((((p5.toUInt32 >>> ((1 : Int32) &&& 31).toUInt32).toInt32) &&& (7 : Int32)) % (5 : Int32)) + (1 : Int32))) (own_len ((nar .byte ((p1 &&& (255 : Int32)).toInt8.toInt32)) &&& (255 : Int32))) (own_lo ((nar .byte ((p1 &&& (255 : Int32)).toInt8.toInt32)) &&& (255 : Int32))) (own_hi ((nar .byte ((p1 &&& (255 : Int32)).toInt8.toInt32)) &&& (255 : Int32))) ((nar .byte ((p2 &&& (255 : Int32)).toInt8.toInt32)) &&& (255 : Int32)) ((nar .byte ((p3 &&& (255 : Int32)).toInt8.toInt32)) &&& (255 : Int32)) ((nar .byte ((p4 &&& (255 : Int32)).toInt8.toInt32)) &&& (255 : Int32))))]) (lenOf pd_2 rfl) rfl (by show 2 * 0 + _ ≤ _; exact Nat.le_of_eq rfl) (hb hby at_164) (fun _ _ => ⟨rfl, q24, (by decide : 1 + 0 ≤ _), (by decide : 6 + 0 ≤ _)⟩)
    dsimp only [Pt.U, Pt.locs, Pt.cells, Pt.slots] at X25 l25 y25 z25 st25 hQ25
    subst l25 y25 z25
    obtain ⟨rfl, N25q, q25⟩ := hQ25
    have N25 := Fr.app N24 N25q
    have pre26 : ∀ t, Steps p.tables e below (T25.setTop (mkF m 175 #[.val (.int p1), .val (.int p2), .val (.int p3), .val (.int p4), .val (.int p5), .val (.int (p1 &&& (255 : Int32))), .val (.int (p2 &&& (255 : Int32))), .val (.int (p3 &&& (255 : Int32))), .val (.int (p4 &&& (255 : Int32))), .val (.int (p5 &&& (1 : Int32))), .val (.int (((((p5.toUInt32 >>> ((1 : Int32) &&& 31).toUInt32).toInt32) &&& (7 : Int32)) % (5 : Int32)) + (1 : Int32))), .val (.int ((p5 &&& (1 : Int32)) + (((((p5.toUInt32 >>> ((1 : Int32) &&& 31).toUInt32).toInt32) &&& (7 : Int32)) % (5 : Int32)) + (1 : Int32)))), .val (.int (((p5.toUInt32 >>> ((4 : Int32) &&& 31).toUInt32).toInt32).toInt8.toInt32)), .val (.ref b1), .val (.int (own_wf (p5 &&& (1 : Int32)) ((p5 &&& (1 : Int32)) + (((((p5.toUInt32 >>> ((1 : Int32) &&& 31).toUInt32).toInt32) &&& (7 : Int32)) % (5 : Int32)) + (1 : Int32))) (own_len ((nar .byte ((p1 &&& (255 : Int32)).toInt8.toInt32)) &&& (255 : Int32))) (own_lo ((nar .byte ((p1 &&& (255 : Int32)).toInt8.toInt32)) &&& (255 : Int32))) (own_hi ((nar .byte ((p1 &&& (255 : Int32)).toInt8.toInt32)) &&& (255 : Int32))) ((nar .byte ((p2 &&& (255 : Int32)).toInt8.toInt32)) &&& (255 : Int32)) ((nar .byte ((p3 &&& (255 : Int32)).toInt8.toInt32)) &&& (255 : Int32)) ((nar .byte ((p4 &&& (255 : Int32)).toInt8.toInt32)) &&& (255 : Int32))))] [(.int (1 : Int32))])) t → Steps p.tables e below (s₁.setTop (entryFrame m #[(.int p1), (.int p2), (.int p3), (.int p4), (.int p5)] maxLocals)) t := fun t k => pre14 t (by
      show Steps p.tables e below (T13.setTop (mkF m 110 #[.val (.int p1), .val (.int p2), .val (.int p3), .val (.int p4), .val (.int p5), .val (.int (p1 &&& (255 : Int32))), .val (.int (p2 &&& (255 : Int32))), .val (.int (p3 &&& (255 : Int32))), .val (.int (p4 &&& (255 : Int32))), .val (.int (p5 &&& (1 : Int32))), .val (.int (((((p5.toUInt32 >>> ((1 : Int32) &&& 31).toUInt32).toInt32) &&& (7 : Int32)) % (5 : Int32)) + (1 : Int32))), .val (.int ((p5 &&& (1 : Int32)) + (((((p5.toUInt32 >>> ((1 : Int32) &&& 31).toUInt32).toInt32) &&& (7 : Int32)) % (5 : Int32)) + (1 : Int32)))), .val (.int (((p5.toUInt32 >>> ((4 : Int32) &&& 31).toUInt32).toInt32).toInt8.toInt32)), .val (.ref b1), .unset] [(.int ((p1 &&& (255 : Int32)).toInt8.toInt32)), (.int (p5 &&& (1 : Int32))), (.ref b1)])) _
      refine st16 _ ?_
      show Steps p.tables e below (T16.setTop (mkF m 111 #[.val (.int p1), .val (.int p2), .val (.int p3), .val (.int p4), .val (.int p5), .val (.int (p1 &&& (255 : Int32))), .val (.int (p2 &&& (255 : Int32))), .val (.int (p3 &&& (255 : Int32))), .val (.int (p4 &&& (255 : Int32))), .val (.int (p5 &&& (1 : Int32))), .val (.int (((((p5.toUInt32 >>> ((1 : Int32) &&& 31).toUInt32).toInt32) &&& (7 : Int32)) % (5 : Int32)) + (1 : Int32))), .val (.int ((p5 &&& (1 : Int32)) + (((((p5.toUInt32 >>> ((1 : Int32) &&& 31).toUInt32).toInt32) &&& (7 : Int32)) % (5 : Int32)) + (1 : Int32)))), .val (.int (((p5.toUInt32 >>> ((4 : Int32) &&& 31).toUInt32).toInt32).toInt8.toInt32)), .val (.ref b1), .unset] [])) _
      refine XS.aload X16.here hx rfl (hb hby at_111) rfl rfl ?_
      show Steps p.tables e below (T16.setTop (mkF m 113 #[.val (.int p1), .val (.int p2), .val (.int p3), .val (.int p4), .val (.int p5), .val (.int (p1 &&& (255 : Int32))), .val (.int (p2 &&& (255 : Int32))), .val (.int (p3 &&& (255 : Int32))), .val (.int (p4 &&& (255 : Int32))), .val (.int (p5 &&& (1 : Int32))), .val (.int (((((p5.toUInt32 >>> ((1 : Int32) &&& 31).toUInt32).toInt32) &&& (7 : Int32)) % (5 : Int32)) + (1 : Int32))), .val (.int ((p5 &&& (1 : Int32)) + (((((p5.toUInt32 >>> ((1 : Int32) &&& 31).toUInt32).toInt32) &&& (7 : Int32)) % (5 : Int32)) + (1 : Int32)))), .val (.int (((p5.toUInt32 >>> ((4 : Int32) &&& 31).toUInt32).toInt32).toInt8.toInt32)), .val (.ref b1), .unset] [(.ref b1)])) _
      refine XS.iload X16.here hx rfl (hb hby at_113) rfl ?_
      show Steps p.tables e below (T16.setTop (mkF m 115 #[.val (.int p1), .val (.int p2), .val (.int p3), .val (.int p4), .val (.int p5), .val (.int (p1 &&& (255 : Int32))), .val (.int (p2 &&& (255 : Int32))), .val (.int (p3 &&& (255 : Int32))), .val (.int (p4 &&& (255 : Int32))), .val (.int (p5 &&& (1 : Int32))), .val (.int (((((p5.toUInt32 >>> ((1 : Int32) &&& 31).toUInt32).toInt32) &&& (7 : Int32)) % (5 : Int32)) + (1 : Int32))), .val (.int ((p5 &&& (1 : Int32)) + (((((p5.toUInt32 >>> ((1 : Int32) &&& 31).toUInt32).toInt32) &&& (7 : Int32)) % (5 : Int32)) + (1 : Int32)))), .val (.int (((p5.toUInt32 >>> ((4 : Int32) &&& 31).toUInt32).toInt32).toInt8.toInt32)), .val (.ref b1), .unset] [(.int (p5 &&& (1 : Int32))), (.ref b1)])) _
      refine XS.iconst X16.here hx rfl (hb hby at_115) ?_
      show Steps p.tables e below (T16.setTop (mkF m 116 #[.val (.int p1), .val (.int p2), .val (.int p3), .val (.int p4), .val (.int p5), .val (.int (p1 &&& (255 : Int32))), .val (.int (p2 &&& (255 : Int32))), .val (.int (p3 &&& (255 : Int32))), .val (.int (p4 &&& (255 : Int32))), .val (.int (p5 &&& (1 : Int32))), .val (.int (((((p5.toUInt32 >>> ((1 : Int32) &&& 31).toUInt32).toInt32) &&& (7 : Int32)) % (5 : Int32)) + (1 : Int32))), .val (.int ((p5 &&& (1 : Int32)) + (((((p5.toUInt32 >>> ((1 : Int32) &&& 31).toUInt32).toInt32) &&& (7 : Int32)) % (5 : Int32)) + (1 : Int32)))), .val (.int (((p5.toUInt32 >>> ((4 : Int32) &&& 31).toUInt32).toInt32).toInt8.toInt32)), .val (.ref b1), .unset] [(.int (1 : Int32)), (.int (p5 &&& (1 : Int32))), (.ref b1)])) _
      refine XS.iadd X16.here hx rfl (hb hby at_116) rfl ?_
      show Steps p.tables e below (T16.setTop (mkF m 117 #[.val (.int p1), .val (.int p2), .val (.int p3), .val (.int p4), .val (.int p5), .val (.int (p1 &&& (255 : Int32))), .val (.int (p2 &&& (255 : Int32))), .val (.int (p3 &&& (255 : Int32))), .val (.int (p4 &&& (255 : Int32))), .val (.int (p5 &&& (1 : Int32))), .val (.int (((((p5.toUInt32 >>> ((1 : Int32) &&& 31).toUInt32).toInt32) &&& (7 : Int32)) % (5 : Int32)) + (1 : Int32))), .val (.int ((p5 &&& (1 : Int32)) + (((((p5.toUInt32 >>> ((1 : Int32) &&& 31).toUInt32).toInt32) &&& (7 : Int32)) % (5 : Int32)) + (1 : Int32)))), .val (.int (((p5.toUInt32 >>> ((4 : Int32) &&& 31).toUInt32).toInt32).toInt8.toInt32)), .val (.ref b1), .unset] [(.int ((p5 &&& (1 : Int32)) + (1 : Int32))), (.ref b1)])) _
      refine XS.iload X16.here hx rfl (hb hby at_117) rfl ?_
      show Steps p.tables e below (T16.setTop (mkF m 119 #[.val (.int p1), .val (.int p2), .val (.int p3), .val (.int p4), .val (.int p5), .val (.int (p1 &&& (255 : Int32))), .val (.int (p2 &&& (255 : Int32))), .val (.int (p3 &&& (255 : Int32))), .val (.int (p4 &&& (255 : Int32))), .val (.int (p5 &&& (1 : Int32))), .val (.int (((((p5.toUInt32 >>> ((1 : Int32) &&& 31).toUInt32).toInt32) &&& (7 : Int32)) % (5 : Int32)) + (1 : Int32))), .val (.int ((p5 &&& (1 : Int32)) + (((((p5.toUInt32 >>> ((1 : Int32) &&& 31).toUInt32).toInt32) &&& (7 : Int32)) % (5 : Int32)) + (1 : Int32)))), .val (.int (((p5.toUInt32 >>> ((4 : Int32) &&& 31).toUInt32).toInt32).toInt8.toInt32)), .val (.ref b1), .unset] [(.int (p2 &&& (255 : Int32))), (.int ((p5 &&& (1 : Int32)) + (1 : Int32))), (.ref b1)])) _
      refine XS.i2b X16.here hx rfl (hb hby at_119) rfl ?_
      show Steps p.tables e below (T16.setTop (mkF m 120 #[.val (.int p1), .val (.int p2), .val (.int p3), .val (.int p4), .val (.int p5), .val (.int (p1 &&& (255 : Int32))), .val (.int (p2 &&& (255 : Int32))), .val (.int (p3 &&& (255 : Int32))), .val (.int (p4 &&& (255 : Int32))), .val (.int (p5 &&& (1 : Int32))), .val (.int (((((p5.toUInt32 >>> ((1 : Int32) &&& 31).toUInt32).toInt32) &&& (7 : Int32)) % (5 : Int32)) + (1 : Int32))), .val (.int ((p5 &&& (1 : Int32)) + (((((p5.toUInt32 >>> ((1 : Int32) &&& 31).toUInt32).toInt32) &&& (7 : Int32)) % (5 : Int32)) + (1 : Int32)))), .val (.int (((p5.toUInt32 >>> ((4 : Int32) &&& 31).toUInt32).toInt32).toInt8.toInt32)), .val (.ref b1), .unset] [(.int ((p2 &&& (255 : Int32)).toInt8.toInt32)), (.int ((p5 &&& (1 : Int32)) + (1 : Int32))), (.ref b1)])) _
      refine st18 _ ?_
      show Steps p.tables e below (T18.setTop (mkF m 121 #[.val (.int p1), .val (.int p2), .val (.int p3), .val (.int p4), .val (.int p5), .val (.int (p1 &&& (255 : Int32))), .val (.int (p2 &&& (255 : Int32))), .val (.int (p3 &&& (255 : Int32))), .val (.int (p4 &&& (255 : Int32))), .val (.int (p5 &&& (1 : Int32))), .val (.int (((((p5.toUInt32 >>> ((1 : Int32) &&& 31).toUInt32).toInt32) &&& (7 : Int32)) % (5 : Int32)) + (1 : Int32))), .val (.int ((p5 &&& (1 : Int32)) + (((((p5.toUInt32 >>> ((1 : Int32) &&& 31).toUInt32).toInt32) &&& (7 : Int32)) % (5 : Int32)) + (1 : Int32)))), .val (.int (((p5.toUInt32 >>> ((4 : Int32) &&& 31).toUInt32).toInt32).toInt8.toInt32)), .val (.ref b1), .unset] [])) _
      refine XS.aload X18.here hx rfl (hb hby at_121) rfl rfl ?_
      show Steps p.tables e below (T18.setTop (mkF m 123 #[.val (.int p1), .val (.int p2), .val (.int p3), .val (.int p4), .val (.int p5), .val (.int (p1 &&& (255 : Int32))), .val (.int (p2 &&& (255 : Int32))), .val (.int (p3 &&& (255 : Int32))), .val (.int (p4 &&& (255 : Int32))), .val (.int (p5 &&& (1 : Int32))), .val (.int (((((p5.toUInt32 >>> ((1 : Int32) &&& 31).toUInt32).toInt32) &&& (7 : Int32)) % (5 : Int32)) + (1 : Int32))), .val (.int ((p5 &&& (1 : Int32)) + (((((p5.toUInt32 >>> ((1 : Int32) &&& 31).toUInt32).toInt32) &&& (7 : Int32)) % (5 : Int32)) + (1 : Int32)))), .val (.int (((p5.toUInt32 >>> ((4 : Int32) &&& 31).toUInt32).toInt32).toInt8.toInt32)), .val (.ref b1), .unset] [(.ref b1)])) _
      refine XS.iload X18.here hx rfl (hb hby at_123) rfl ?_
      show Steps p.tables e below (T18.setTop (mkF m 125 #[.val (.int p1), .val (.int p2), .val (.int p3), .val (.int p4), .val (.int p5), .val (.int (p1 &&& (255 : Int32))), .val (.int (p2 &&& (255 : Int32))), .val (.int (p3 &&& (255 : Int32))), .val (.int (p4 &&& (255 : Int32))), .val (.int (p5 &&& (1 : Int32))), .val (.int (((((p5.toUInt32 >>> ((1 : Int32) &&& 31).toUInt32).toInt32) &&& (7 : Int32)) % (5 : Int32)) + (1 : Int32))), .val (.int ((p5 &&& (1 : Int32)) + (((((p5.toUInt32 >>> ((1 : Int32) &&& 31).toUInt32).toInt32) &&& (7 : Int32)) % (5 : Int32)) + (1 : Int32)))), .val (.int (((p5.toUInt32 >>> ((4 : Int32) &&& 31).toUInt32).toInt32).toInt8.toInt32)), .val (.ref b1), .unset] [(.int (p5 &&& (1 : Int32))), (.ref b1)])) _
      refine XS.iconst X18.here hx rfl (hb hby at_125) ?_
      show Steps p.tables e below (T18.setTop (mkF m 126 #[.val (.int p1), .val (.int p2), .val (.int p3), .val (.int p4), .val (.int p5), .val (.int (p1 &&& (255 : Int32))), .val (.int (p2 &&& (255 : Int32))), .val (.int (p3 &&& (255 : Int32))), .val (.int (p4 &&& (255 : Int32))), .val (.int (p5 &&& (1 : Int32))), .val (.int (((((p5.toUInt32 >>> ((1 : Int32) &&& 31).toUInt32).toInt32) &&& (7 : Int32)) % (5 : Int32)) + (1 : Int32))), .val (.int ((p5 &&& (1 : Int32)) + (((((p5.toUInt32 >>> ((1 : Int32) &&& 31).toUInt32).toInt32) &&& (7 : Int32)) % (5 : Int32)) + (1 : Int32)))), .val (.int (((p5.toUInt32 >>> ((4 : Int32) &&& 31).toUInt32).toInt32).toInt8.toInt32)), .val (.ref b1), .unset] [(.int (2 : Int32)), (.int (p5 &&& (1 : Int32))), (.ref b1)])) _
      refine XS.iadd X18.here hx rfl (hb hby at_126) rfl ?_
      show Steps p.tables e below (T18.setTop (mkF m 127 #[.val (.int p1), .val (.int p2), .val (.int p3), .val (.int p4), .val (.int p5), .val (.int (p1 &&& (255 : Int32))), .val (.int (p2 &&& (255 : Int32))), .val (.int (p3 &&& (255 : Int32))), .val (.int (p4 &&& (255 : Int32))), .val (.int (p5 &&& (1 : Int32))), .val (.int (((((p5.toUInt32 >>> ((1 : Int32) &&& 31).toUInt32).toInt32) &&& (7 : Int32)) % (5 : Int32)) + (1 : Int32))), .val (.int ((p5 &&& (1 : Int32)) + (((((p5.toUInt32 >>> ((1 : Int32) &&& 31).toUInt32).toInt32) &&& (7 : Int32)) % (5 : Int32)) + (1 : Int32)))), .val (.int (((p5.toUInt32 >>> ((4 : Int32) &&& 31).toUInt32).toInt32).toInt8.toInt32)), .val (.ref b1), .unset] [(.int ((p5 &&& (1 : Int32)) + (2 : Int32))), (.ref b1)])) _
      refine XS.iload X18.here hx rfl (hb hby at_127) rfl ?_
      show Steps p.tables e below (T18.setTop (mkF m 129 #[.val (.int p1), .val (.int p2), .val (.int p3), .val (.int p4), .val (.int p5), .val (.int (p1 &&& (255 : Int32))), .val (.int (p2 &&& (255 : Int32))), .val (.int (p3 &&& (255 : Int32))), .val (.int (p4 &&& (255 : Int32))), .val (.int (p5 &&& (1 : Int32))), .val (.int (((((p5.toUInt32 >>> ((1 : Int32) &&& 31).toUInt32).toInt32) &&& (7 : Int32)) % (5 : Int32)) + (1 : Int32))), .val (.int ((p5 &&& (1 : Int32)) + (((((p5.toUInt32 >>> ((1 : Int32) &&& 31).toUInt32).toInt32) &&& (7 : Int32)) % (5 : Int32)) + (1 : Int32)))), .val (.int (((p5.toUInt32 >>> ((4 : Int32) &&& 31).toUInt32).toInt32).toInt8.toInt32)), .val (.ref b1), .unset] [(.int (p3 &&& (255 : Int32))), (.int ((p5 &&& (1 : Int32)) + (2 : Int32))), (.ref b1)])) _
      refine XS.i2b X18.here hx rfl (hb hby at_129) rfl ?_
      show Steps p.tables e below (T18.setTop (mkF m 130 #[.val (.int p1), .val (.int p2), .val (.int p3), .val (.int p4), .val (.int p5), .val (.int (p1 &&& (255 : Int32))), .val (.int (p2 &&& (255 : Int32))), .val (.int (p3 &&& (255 : Int32))), .val (.int (p4 &&& (255 : Int32))), .val (.int (p5 &&& (1 : Int32))), .val (.int (((((p5.toUInt32 >>> ((1 : Int32) &&& 31).toUInt32).toInt32) &&& (7 : Int32)) % (5 : Int32)) + (1 : Int32))), .val (.int ((p5 &&& (1 : Int32)) + (((((p5.toUInt32 >>> ((1 : Int32) &&& 31).toUInt32).toInt32) &&& (7 : Int32)) % (5 : Int32)) + (1 : Int32)))), .val (.int (((p5.toUInt32 >>> ((4 : Int32) &&& 31).toUInt32).toInt32).toInt8.toInt32)), .val (.ref b1), .unset] [(.int ((p3 &&& (255 : Int32)).toInt8.toInt32)), (.int ((p5 &&& (1 : Int32)) + (2 : Int32))), (.ref b1)])) _
      refine st20 _ ?_
      show Steps p.tables e below (T20.setTop (mkF m 131 #[.val (.int p1), .val (.int p2), .val (.int p3), .val (.int p4), .val (.int p5), .val (.int (p1 &&& (255 : Int32))), .val (.int (p2 &&& (255 : Int32))), .val (.int (p3 &&& (255 : Int32))), .val (.int (p4 &&& (255 : Int32))), .val (.int (p5 &&& (1 : Int32))), .val (.int (((((p5.toUInt32 >>> ((1 : Int32) &&& 31).toUInt32).toInt32) &&& (7 : Int32)) % (5 : Int32)) + (1 : Int32))), .val (.int ((p5 &&& (1 : Int32)) + (((((p5.toUInt32 >>> ((1 : Int32) &&& 31).toUInt32).toInt32) &&& (7 : Int32)) % (5 : Int32)) + (1 : Int32)))), .val (.int (((p5.toUInt32 >>> ((4 : Int32) &&& 31).toUInt32).toInt32).toInt8.toInt32)), .val (.ref b1), .unset] [])) _
      refine XS.aload X20.here hx rfl (hb hby at_131) rfl rfl ?_
      show Steps p.tables e below (T20.setTop (mkF m 133 #[.val (.int p1), .val (.int p2), .val (.int p3), .val (.int p4), .val (.int p5), .val (.int (p1 &&& (255 : Int32))), .val (.int (p2 &&& (255 : Int32))), .val (.int (p3 &&& (255 : Int32))), .val (.int (p4 &&& (255 : Int32))), .val (.int (p5 &&& (1 : Int32))), .val (.int (((((p5.toUInt32 >>> ((1 : Int32) &&& 31).toUInt32).toInt32) &&& (7 : Int32)) % (5 : Int32)) + (1 : Int32))), .val (.int ((p5 &&& (1 : Int32)) + (((((p5.toUInt32 >>> ((1 : Int32) &&& 31).toUInt32).toInt32) &&& (7 : Int32)) % (5 : Int32)) + (1 : Int32)))), .val (.int (((p5.toUInt32 >>> ((4 : Int32) &&& 31).toUInt32).toInt32).toInt8.toInt32)), .val (.ref b1), .unset] [(.ref b1)])) _
      refine XS.iload X20.here hx rfl (hb hby at_133) rfl ?_
      show Steps p.tables e below (T20.setTop (mkF m 135 #[.val (.int p1), .val (.int p2), .val (.int p3), .val (.int p4), .val (.int p5), .val (.int (p1 &&& (255 : Int32))), .val (.int (p2 &&& (255 : Int32))), .val (.int (p3 &&& (255 : Int32))), .val (.int (p4 &&& (255 : Int32))), .val (.int (p5 &&& (1 : Int32))), .val (.int (((((p5.toUInt32 >>> ((1 : Int32) &&& 31).toUInt32).toInt32) &&& (7 : Int32)) % (5 : Int32)) + (1 : Int32))), .val (.int ((p5 &&& (1 : Int32)) + (((((p5.toUInt32 >>> ((1 : Int32) &&& 31).toUInt32).toInt32) &&& (7 : Int32)) % (5 : Int32)) + (1 : Int32)))), .val (.int (((p5.toUInt32 >>> ((4 : Int32) &&& 31).toUInt32).toInt32).toInt8.toInt32)), .val (.ref b1), .unset] [(.int (p5 &&& (1 : Int32))), (.ref b1)])) _
      refine XS.iconst X20.here hx rfl (hb hby at_135) ?_
      show Steps p.tables e below (T20.setTop (mkF m 136 #[.val (.int p1), .val (.int p2), .val (.int p3), .val (.int p4), .val (.int p5), .val (.int (p1 &&& (255 : Int32))), .val (.int (p2 &&& (255 : Int32))), .val (.int (p3 &&& (255 : Int32))), .val (.int (p4 &&& (255 : Int32))), .val (.int (p5 &&& (1 : Int32))), .val (.int (((((p5.toUInt32 >>> ((1 : Int32) &&& 31).toUInt32).toInt32) &&& (7 : Int32)) % (5 : Int32)) + (1 : Int32))), .val (.int ((p5 &&& (1 : Int32)) + (((((p5.toUInt32 >>> ((1 : Int32) &&& 31).toUInt32).toInt32) &&& (7 : Int32)) % (5 : Int32)) + (1 : Int32)))), .val (.int (((p5.toUInt32 >>> ((4 : Int32) &&& 31).toUInt32).toInt32).toInt8.toInt32)), .val (.ref b1), .unset] [(.int (3 : Int32)), (.int (p5 &&& (1 : Int32))), (.ref b1)])) _
      refine XS.iadd X20.here hx rfl (hb hby at_136) rfl ?_
      show Steps p.tables e below (T20.setTop (mkF m 137 #[.val (.int p1), .val (.int p2), .val (.int p3), .val (.int p4), .val (.int p5), .val (.int (p1 &&& (255 : Int32))), .val (.int (p2 &&& (255 : Int32))), .val (.int (p3 &&& (255 : Int32))), .val (.int (p4 &&& (255 : Int32))), .val (.int (p5 &&& (1 : Int32))), .val (.int (((((p5.toUInt32 >>> ((1 : Int32) &&& 31).toUInt32).toInt32) &&& (7 : Int32)) % (5 : Int32)) + (1 : Int32))), .val (.int ((p5 &&& (1 : Int32)) + (((((p5.toUInt32 >>> ((1 : Int32) &&& 31).toUInt32).toInt32) &&& (7 : Int32)) % (5 : Int32)) + (1 : Int32)))), .val (.int (((p5.toUInt32 >>> ((4 : Int32) &&& 31).toUInt32).toInt32).toInt8.toInt32)), .val (.ref b1), .unset] [(.int ((p5 &&& (1 : Int32)) + (3 : Int32))), (.ref b1)])) _
      refine XS.iload X20.here hx rfl (hb hby at_137) rfl ?_
      show Steps p.tables e below (T20.setTop (mkF m 139 #[.val (.int p1), .val (.int p2), .val (.int p3), .val (.int p4), .val (.int p5), .val (.int (p1 &&& (255 : Int32))), .val (.int (p2 &&& (255 : Int32))), .val (.int (p3 &&& (255 : Int32))), .val (.int (p4 &&& (255 : Int32))), .val (.int (p5 &&& (1 : Int32))), .val (.int (((((p5.toUInt32 >>> ((1 : Int32) &&& 31).toUInt32).toInt32) &&& (7 : Int32)) % (5 : Int32)) + (1 : Int32))), .val (.int ((p5 &&& (1 : Int32)) + (((((p5.toUInt32 >>> ((1 : Int32) &&& 31).toUInt32).toInt32) &&& (7 : Int32)) % (5 : Int32)) + (1 : Int32)))), .val (.int (((p5.toUInt32 >>> ((4 : Int32) &&& 31).toUInt32).toInt32).toInt8.toInt32)), .val (.ref b1), .unset] [(.int (p4 &&& (255 : Int32))), (.int ((p5 &&& (1 : Int32)) + (3 : Int32))), (.ref b1)])) _
      refine XS.i2b X20.here hx rfl (hb hby at_139) rfl ?_
      show Steps p.tables e below (T20.setTop (mkF m 140 #[.val (.int p1), .val (.int p2), .val (.int p3), .val (.int p4), .val (.int p5), .val (.int (p1 &&& (255 : Int32))), .val (.int (p2 &&& (255 : Int32))), .val (.int (p3 &&& (255 : Int32))), .val (.int (p4 &&& (255 : Int32))), .val (.int (p5 &&& (1 : Int32))), .val (.int (((((p5.toUInt32 >>> ((1 : Int32) &&& 31).toUInt32).toInt32) &&& (7 : Int32)) % (5 : Int32)) + (1 : Int32))), .val (.int ((p5 &&& (1 : Int32)) + (((((p5.toUInt32 >>> ((1 : Int32) &&& 31).toUInt32).toInt32) &&& (7 : Int32)) % (5 : Int32)) + (1 : Int32)))), .val (.int (((p5.toUInt32 >>> ((4 : Int32) &&& 31).toUInt32).toInt32).toInt8.toInt32)), .val (.ref b1), .unset] [(.int ((p4 &&& (255 : Int32)).toInt8.toInt32)), (.int ((p5 &&& (1 : Int32)) + (3 : Int32))), (.ref b1)])) _
      refine st22 _ ?_
      show Steps p.tables e below (T22.setTop (mkF m 141 #[.val (.int p1), .val (.int p2), .val (.int p3), .val (.int p4), .val (.int p5), .val (.int (p1 &&& (255 : Int32))), .val (.int (p2 &&& (255 : Int32))), .val (.int (p3 &&& (255 : Int32))), .val (.int (p4 &&& (255 : Int32))), .val (.int (p5 &&& (1 : Int32))), .val (.int (((((p5.toUInt32 >>> ((1 : Int32) &&& 31).toUInt32).toInt32) &&& (7 : Int32)) % (5 : Int32)) + (1 : Int32))), .val (.int ((p5 &&& (1 : Int32)) + (((((p5.toUInt32 >>> ((1 : Int32) &&& 31).toUInt32).toInt32) &&& (7 : Int32)) % (5 : Int32)) + (1 : Int32)))), .val (.int (((p5.toUInt32 >>> ((4 : Int32) &&& 31).toUInt32).toInt32).toInt8.toInt32)), .val (.ref b1), .unset] [])) _
      refine XS.aload X22.here hx rfl (hb hby at_141) rfl rfl ?_
      show Steps p.tables e below (T22.setTop (mkF m 143 #[.val (.int p1), .val (.int p2), .val (.int p3), .val (.int p4), .val (.int p5), .val (.int (p1 &&& (255 : Int32))), .val (.int (p2 &&& (255 : Int32))), .val (.int (p3 &&& (255 : Int32))), .val (.int (p4 &&& (255 : Int32))), .val (.int (p5 &&& (1 : Int32))), .val (.int (((((p5.toUInt32 >>> ((1 : Int32) &&& 31).toUInt32).toInt32) &&& (7 : Int32)) % (5 : Int32)) + (1 : Int32))), .val (.int ((p5 &&& (1 : Int32)) + (((((p5.toUInt32 >>> ((1 : Int32) &&& 31).toUInt32).toInt32) &&& (7 : Int32)) % (5 : Int32)) + (1 : Int32)))), .val (.int (((p5.toUInt32 >>> ((4 : Int32) &&& 31).toUInt32).toInt32).toInt8.toInt32)), .val (.ref b1), .unset] [(.ref b1)])) _
      refine XS.iload X22.here hx rfl (hb hby at_143) rfl ?_
      show Steps p.tables e below (T22.setTop (mkF m 145 #[.val (.int p1), .val (.int p2), .val (.int p3), .val (.int p4), .val (.int p5), .val (.int (p1 &&& (255 : Int32))), .val (.int (p2 &&& (255 : Int32))), .val (.int (p3 &&& (255 : Int32))), .val (.int (p4 &&& (255 : Int32))), .val (.int (p5 &&& (1 : Int32))), .val (.int (((((p5.toUInt32 >>> ((1 : Int32) &&& 31).toUInt32).toInt32) &&& (7 : Int32)) % (5 : Int32)) + (1 : Int32))), .val (.int ((p5 &&& (1 : Int32)) + (((((p5.toUInt32 >>> ((1 : Int32) &&& 31).toUInt32).toInt32) &&& (7 : Int32)) % (5 : Int32)) + (1 : Int32)))), .val (.int (((p5.toUInt32 >>> ((4 : Int32) &&& 31).toUInt32).toInt32).toInt8.toInt32)), .val (.ref b1), .unset] [(.int (p5 &&& (1 : Int32))), (.ref b1)])) _
      refine XS.iload X22.here hx rfl (hb hby at_145) rfl ?_
      show Steps p.tables e below (T22.setTop (mkF m 147 #[.val (.int p1), .val (.int p2), .val (.int p3), .val (.int p4), .val (.int p5), .val (.int (p1 &&& (255 : Int32))), .val (.int (p2 &&& (255 : Int32))), .val (.int (p3 &&& (255 : Int32))), .val (.int (p4 &&& (255 : Int32))), .val (.int (p5 &&& (1 : Int32))), .val (.int (((((p5.toUInt32 >>> ((1 : Int32) &&& 31).toUInt32).toInt32) &&& (7 : Int32)) % (5 : Int32)) + (1 : Int32))), .val (.int ((p5 &&& (1 : Int32)) + (((((p5.toUInt32 >>> ((1 : Int32) &&& 31).toUInt32).toInt32) &&& (7 : Int32)) % (5 : Int32)) + (1 : Int32)))), .val (.int (((p5.toUInt32 >>> ((4 : Int32) &&& 31).toUInt32).toInt32).toInt8.toInt32)), .val (.ref b1), .unset] [(.int ((p5 &&& (1 : Int32)) + (((((p5.toUInt32 >>> ((1 : Int32) &&& 31).toUInt32).toInt32) &&& (7 : Int32)) % (5 : Int32)) + (1 : Int32)))), (.int (p5 &&& (1 : Int32))), (.ref b1)])) _
      refine st24 _ ?_
      show Steps p.tables e below (T24.setTop (mkF m 150 #[.val (.int p1), .val (.int p2), .val (.int p3), .val (.int p4), .val (.int p5), .val (.int (p1 &&& (255 : Int32))), .val (.int (p2 &&& (255 : Int32))), .val (.int (p3 &&& (255 : Int32))), .val (.int (p4 &&& (255 : Int32))), .val (.int (p5 &&& (1 : Int32))), .val (.int (((((p5.toUInt32 >>> ((1 : Int32) &&& 31).toUInt32).toInt32) &&& (7 : Int32)) % (5 : Int32)) + (1 : Int32))), .val (.int ((p5 &&& (1 : Int32)) + (((((p5.toUInt32 >>> ((1 : Int32) &&& 31).toUInt32).toInt32) &&& (7 : Int32)) % (5 : Int32)) + (1 : Int32)))), .val (.int (((p5.toUInt32 >>> ((4 : Int32) &&& 31).toUInt32).toInt32).toInt8.toInt32)), .val (.ref b1), .unset] [(.int (own_wf (p5 &&& (1 : Int32)) ((p5 &&& (1 : Int32)) + (((((p5.toUInt32 >>> ((1 : Int32) &&& 31).toUInt32).toInt32) &&& (7 : Int32)) % (5 : Int32)) + (1 : Int32))) (own_len ((nar .byte ((p1 &&& (255 : Int32)).toInt8.toInt32)) &&& (255 : Int32))) (own_lo ((nar .byte ((p1 &&& (255 : Int32)).toInt8.toInt32)) &&& (255 : Int32))) (own_hi ((nar .byte ((p1 &&& (255 : Int32)).toInt8.toInt32)) &&& (255 : Int32))) ((nar .byte ((p2 &&& (255 : Int32)).toInt8.toInt32)) &&& (255 : Int32)) ((nar .byte ((p3 &&& (255 : Int32)).toInt8.toInt32)) &&& (255 : Int32)) ((nar .byte ((p4 &&& (255 : Int32)).toInt8.toInt32)) &&& (255 : Int32))))])) _
      refine XS.istore X24.here hx rfl (hb hby at_150) rfl (l' := #[.val (.int p1), .val (.int p2), .val (.int p3), .val (.int p4), .val (.int p5), .val (.int (p1 &&& (255 : Int32))), .val (.int (p2 &&& (255 : Int32))), .val (.int (p3 &&& (255 : Int32))), .val (.int (p4 &&& (255 : Int32))), .val (.int (p5 &&& (1 : Int32))), .val (.int (((((p5.toUInt32 >>> ((1 : Int32) &&& 31).toUInt32).toInt32) &&& (7 : Int32)) % (5 : Int32)) + (1 : Int32))), .val (.int ((p5 &&& (1 : Int32)) + (((((p5.toUInt32 >>> ((1 : Int32) &&& 31).toUInt32).toInt32) &&& (7 : Int32)) % (5 : Int32)) + (1 : Int32)))), .val (.int (((p5.toUInt32 >>> ((4 : Int32) &&& 31).toUInt32).toInt32).toInt8.toInt32)), .val (.ref b1), .val (.int (own_wf (p5 &&& (1 : Int32)) ((p5 &&& (1 : Int32)) + (((((p5.toUInt32 >>> ((1 : Int32) &&& 31).toUInt32).toInt32) &&& (7 : Int32)) % (5 : Int32)) + (1 : Int32))) (own_len ((nar .byte ((p1 &&& (255 : Int32)).toInt8.toInt32)) &&& (255 : Int32))) (own_lo ((nar .byte ((p1 &&& (255 : Int32)).toInt8.toInt32)) &&& (255 : Int32))) (own_hi ((nar .byte ((p1 &&& (255 : Int32)).toInt8.toInt32)) &&& (255 : Int32))) ((nar .byte ((p2 &&& (255 : Int32)).toInt8.toInt32)) &&& (255 : Int32)) ((nar .byte ((p3 &&& (255 : Int32)).toInt8.toInt32)) &&& (255 : Int32)) ((nar .byte ((p4 &&& (255 : Int32)).toInt8.toInt32)) &&& (255 : Int32))))]) rfl ?_
      show Steps p.tables e below (T24.setTop (mkF m 152 #[.val (.int p1), .val (.int p2), .val (.int p3), .val (.int p4), .val (.int p5), .val (.int (p1 &&& (255 : Int32))), .val (.int (p2 &&& (255 : Int32))), .val (.int (p3 &&& (255 : Int32))), .val (.int (p4 &&& (255 : Int32))), .val (.int (p5 &&& (1 : Int32))), .val (.int (((((p5.toUInt32 >>> ((1 : Int32) &&& 31).toUInt32).toInt32) &&& (7 : Int32)) % (5 : Int32)) + (1 : Int32))), .val (.int ((p5 &&& (1 : Int32)) + (((((p5.toUInt32 >>> ((1 : Int32) &&& 31).toUInt32).toInt32) &&& (7 : Int32)) % (5 : Int32)) + (1 : Int32)))), .val (.int (((p5.toUInt32 >>> ((4 : Int32) &&& 31).toUInt32).toInt32).toInt8.toInt32)), .val (.ref b1), .val (.int (own_wf (p5 &&& (1 : Int32)) ((p5 &&& (1 : Int32)) + (((((p5.toUInt32 >>> ((1 : Int32) &&& 31).toUInt32).toInt32) &&& (7 : Int32)) % (5 : Int32)) + (1 : Int32))) (own_len ((nar .byte ((p1 &&& (255 : Int32)).toInt8.toInt32)) &&& (255 : Int32))) (own_lo ((nar .byte ((p1 &&& (255 : Int32)).toInt8.toInt32)) &&& (255 : Int32))) (own_hi ((nar .byte ((p1 &&& (255 : Int32)).toInt8.toInt32)) &&& (255 : Int32))) ((nar .byte ((p2 &&& (255 : Int32)).toInt8.toInt32)) &&& (255 : Int32)) ((nar .byte ((p3 &&& (255 : Int32)).toInt8.toInt32)) &&& (255 : Int32)) ((nar .byte ((p4 &&& (255 : Int32)).toInt8.toInt32)) &&& (255 : Int32))))] [])) _
      refine XS.iload X24.here hx rfl (hb hby at_152) rfl ?_
      show Steps p.tables e below (T24.setTop (mkF m 154 #[.val (.int p1), .val (.int p2), .val (.int p3), .val (.int p4), .val (.int p5), .val (.int (p1 &&& (255 : Int32))), .val (.int (p2 &&& (255 : Int32))), .val (.int (p3 &&& (255 : Int32))), .val (.int (p4 &&& (255 : Int32))), .val (.int (p5 &&& (1 : Int32))), .val (.int (((((p5.toUInt32 >>> ((1 : Int32) &&& 31).toUInt32).toInt32) &&& (7 : Int32)) % (5 : Int32)) + (1 : Int32))), .val (.int ((p5 &&& (1 : Int32)) + (((((p5.toUInt32 >>> ((1 : Int32) &&& 31).toUInt32).toInt32) &&& (7 : Int32)) % (5 : Int32)) + (1 : Int32)))), .val (.int (((p5.toUInt32 >>> ((4 : Int32) &&& 31).toUInt32).toInt32).toInt8.toInt32)), .val (.ref b1), .val (.int (own_wf (p5 &&& (1 : Int32)) ((p5 &&& (1 : Int32)) + (((((p5.toUInt32 >>> ((1 : Int32) &&& 31).toUInt32).toInt32) &&& (7 : Int32)) % (5 : Int32)) + (1 : Int32))) (own_len ((nar .byte ((p1 &&& (255 : Int32)).toInt8.toInt32)) &&& (255 : Int32))) (own_lo ((nar .byte ((p1 &&& (255 : Int32)).toInt8.toInt32)) &&& (255 : Int32))) (own_hi ((nar .byte ((p1 &&& (255 : Int32)).toInt8.toInt32)) &&& (255 : Int32))) ((nar .byte ((p2 &&& (255 : Int32)).toInt8.toInt32)) &&& (255 : Int32)) ((nar .byte ((p3 &&& (255 : Int32)).toInt8.toInt32)) &&& (255 : Int32)) ((nar .byte ((p4 &&& (255 : Int32)).toInt8.toInt32)) &&& (255 : Int32))))] [(.int (own_wf (p5 &&& (1 : Int32)) ((p5 &&& (1 : Int32)) + (((((p5.toUInt32 >>> ((1 : Int32) &&& 31).toUInt32).toInt32) &&& (7 : Int32)) % (5 : Int32)) + (1 : Int32))) (own_len ((nar .byte ((p1 &&& (255 : Int32)).toInt8.toInt32)) &&& (255 : Int32))) (own_lo ((nar .byte ((p1 &&& (255 : Int32)).toInt8.toInt32)) &&& (255 : Int32))) (own_hi ((nar .byte ((p1 &&& (255 : Int32)).toInt8.toInt32)) &&& (255 : Int32))) ((nar .byte ((p2 &&& (255 : Int32)).toInt8.toInt32)) &&& (255 : Int32)) ((nar .byte ((p3 &&& (255 : Int32)).toInt8.toInt32)) &&& (255 : Int32)) ((nar .byte ((p4 &&& (255 : Int32)).toInt8.toInt32)) &&& (255 : Int32))))])) _
      refine XS.iload X24.here hx rfl (hb hby at_154) rfl ?_
      show Steps p.tables e below (T24.setTop (mkF m 156 #[.val (.int p1), .val (.int p2), .val (.int p3), .val (.int p4), .val (.int p5), .val (.int (p1 &&& (255 : Int32))), .val (.int (p2 &&& (255 : Int32))), .val (.int (p3 &&& (255 : Int32))), .val (.int (p4 &&& (255 : Int32))), .val (.int (p5 &&& (1 : Int32))), .val (.int (((((p5.toUInt32 >>> ((1 : Int32) &&& 31).toUInt32).toInt32) &&& (7 : Int32)) % (5 : Int32)) + (1 : Int32))), .val (.int ((p5 &&& (1 : Int32)) + (((((p5.toUInt32 >>> ((1 : Int32) &&& 31).toUInt32).toInt32) &&& (7 : Int32)) % (5 : Int32)) + (1 : Int32)))), .val (.int (((p5.toUInt32 >>> ((4 : Int32) &&& 31).toUInt32).toInt32).toInt8.toInt32)), .val (.ref b1), .val (.int (own_wf (p5 &&& (1 : Int32)) ((p5 &&& (1 : Int32)) + (((((p5.toUInt32 >>> ((1 : Int32) &&& 31).toUInt32).toInt32) &&& (7 : Int32)) % (5 : Int32)) + (1 : Int32))) (own_len ((nar .byte ((p1 &&& (255 : Int32)).toInt8.toInt32)) &&& (255 : Int32))) (own_lo ((nar .byte ((p1 &&& (255 : Int32)).toInt8.toInt32)) &&& (255 : Int32))) (own_hi ((nar .byte ((p1 &&& (255 : Int32)).toInt8.toInt32)) &&& (255 : Int32))) ((nar .byte ((p2 &&& (255 : Int32)).toInt8.toInt32)) &&& (255 : Int32)) ((nar .byte ((p3 &&& (255 : Int32)).toInt8.toInt32)) &&& (255 : Int32)) ((nar .byte ((p4 &&& (255 : Int32)).toInt8.toInt32)) &&& (255 : Int32))))] [(.int (p1 &&& (255 : Int32))), (.int (own_wf (p5 &&& (1 : Int32)) ((p5 &&& (1 : Int32)) + (((((p5.toUInt32 >>> ((1 : Int32) &&& 31).toUInt32).toInt32) &&& (7 : Int32)) % (5 : Int32)) + (1 : Int32))) (own_len ((nar .byte ((p1 &&& (255 : Int32)).toInt8.toInt32)) &&& (255 : Int32))) (own_lo ((nar .byte ((p1 &&& (255 : Int32)).toInt8.toInt32)) &&& (255 : Int32))) (own_hi ((nar .byte ((p1 &&& (255 : Int32)).toInt8.toInt32)) &&& (255 : Int32))) ((nar .byte ((p2 &&& (255 : Int32)).toInt8.toInt32)) &&& (255 : Int32)) ((nar .byte ((p3 &&& (255 : Int32)).toInt8.toInt32)) &&& (255 : Int32)) ((nar .byte ((p4 &&& (255 : Int32)).toInt8.toInt32)) &&& (255 : Int32))))])) _
      refine XS.iload X24.here hx rfl (hb hby at_156) rfl ?_
      show Steps p.tables e below (T24.setTop (mkF m 158 #[.val (.int p1), .val (.int p2), .val (.int p3), .val (.int p4), .val (.int p5), .val (.int (p1 &&& (255 : Int32))), .val (.int (p2 &&& (255 : Int32))), .val (.int (p3 &&& (255 : Int32))), .val (.int (p4 &&& (255 : Int32))), .val (.int (p5 &&& (1 : Int32))), .val (.int (((((p5.toUInt32 >>> ((1 : Int32) &&& 31).toUInt32).toInt32) &&& (7 : Int32)) % (5 : Int32)) + (1 : Int32))), .val (.int ((p5 &&& (1 : Int32)) + (((((p5.toUInt32 >>> ((1 : Int32) &&& 31).toUInt32).toInt32) &&& (7 : Int32)) % (5 : Int32)) + (1 : Int32)))), .val (.int (((p5.toUInt32 >>> ((4 : Int32) &&& 31).toUInt32).toInt32).toInt8.toInt32)), .val (.ref b1), .val (.int (own_wf (p5 &&& (1 : Int32)) ((p5 &&& (1 : Int32)) + (((((p5.toUInt32 >>> ((1 : Int32) &&& 31).toUInt32).toInt32) &&& (7 : Int32)) % (5 : Int32)) + (1 : Int32))) (own_len ((nar .byte ((p1 &&& (255 : Int32)).toInt8.toInt32)) &&& (255 : Int32))) (own_lo ((nar .byte ((p1 &&& (255 : Int32)).toInt8.toInt32)) &&& (255 : Int32))) (own_hi ((nar .byte ((p1 &&& (255 : Int32)).toInt8.toInt32)) &&& (255 : Int32))) ((nar .byte ((p2 &&& (255 : Int32)).toInt8.toInt32)) &&& (255 : Int32)) ((nar .byte ((p3 &&& (255 : Int32)).toInt8.toInt32)) &&& (255 : Int32)) ((nar .byte ((p4 &&& (255 : Int32)).toInt8.toInt32)) &&& (255 : Int32))))] [(.int (p2 &&& (255 : Int32))), (.int (p1 &&& (255 : Int32))), (.int (own_wf (p5 &&& (1 : Int32)) ((p5 &&& (1 : Int32)) + (((((p5.toUInt32 >>> ((1 : Int32) &&& 31).toUInt32).toInt32) &&& (7 : Int32)) % (5 : Int32)) + (1 : Int32))) (own_len ((nar .byte ((p1 &&& (255 : Int32)).toInt8.toInt32)) &&& (255 : Int32))) (own_lo ((nar .byte ((p1 &&& (255 : Int32)).toInt8.toInt32)) &&& (255 : Int32))) (own_hi ((nar .byte ((p1 &&& (255 : Int32)).toInt8.toInt32)) &&& (255 : Int32))) ((nar .byte ((p2 &&& (255 : Int32)).toInt8.toInt32)) &&& (255 : Int32)) ((nar .byte ((p3 &&& (255 : Int32)).toInt8.toInt32)) &&& (255 : Int32)) ((nar .byte ((p4 &&& (255 : Int32)).toInt8.toInt32)) &&& (255 : Int32))))])) _
      refine XS.iload X24.here hx rfl (hb hby at_158) rfl ?_
      show Steps p.tables e below (T24.setTop (mkF m 160 #[.val (.int p1), .val (.int p2), .val (.int p3), .val (.int p4), .val (.int p5), .val (.int (p1 &&& (255 : Int32))), .val (.int (p2 &&& (255 : Int32))), .val (.int (p3 &&& (255 : Int32))), .val (.int (p4 &&& (255 : Int32))), .val (.int (p5 &&& (1 : Int32))), .val (.int (((((p5.toUInt32 >>> ((1 : Int32) &&& 31).toUInt32).toInt32) &&& (7 : Int32)) % (5 : Int32)) + (1 : Int32))), .val (.int ((p5 &&& (1 : Int32)) + (((((p5.toUInt32 >>> ((1 : Int32) &&& 31).toUInt32).toInt32) &&& (7 : Int32)) % (5 : Int32)) + (1 : Int32)))), .val (.int (((p5.toUInt32 >>> ((4 : Int32) &&& 31).toUInt32).toInt32).toInt8.toInt32)), .val (.ref b1), .val (.int (own_wf (p5 &&& (1 : Int32)) ((p5 &&& (1 : Int32)) + (((((p5.toUInt32 >>> ((1 : Int32) &&& 31).toUInt32).toInt32) &&& (7 : Int32)) % (5 : Int32)) + (1 : Int32))) (own_len ((nar .byte ((p1 &&& (255 : Int32)).toInt8.toInt32)) &&& (255 : Int32))) (own_lo ((nar .byte ((p1 &&& (255 : Int32)).toInt8.toInt32)) &&& (255 : Int32))) (own_hi ((nar .byte ((p1 &&& (255 : Int32)).toInt8.toInt32)) &&& (255 : Int32))) ((nar .byte ((p2 &&& (255 : Int32)).toInt8.toInt32)) &&& (255 : Int32)) ((nar .byte ((p3 &&& (255 : Int32)).toInt8.toInt32)) &&& (255 : Int32)) ((nar .byte ((p4 &&& (255 : Int32)).toInt8.toInt32)) &&& (255 : Int32))))] [(.int (p3 &&& (255 : Int32))), (.int (p2 &&& (255 : Int32))), (.int (p1 &&& (255 : Int32))), (.int (own_wf (p5 &&& (1 : Int32)) ((p5 &&& (1 : Int32)) + (((((p5.toUInt32 >>> ((1 : Int32) &&& 31).toUInt32).toInt32) &&& (7 : Int32)) % (5 : Int32)) + (1 : Int32))) (own_len ((nar .byte ((p1 &&& (255 : Int32)).toInt8.toInt32)) &&& (255 : Int32))) (own_lo ((nar .byte ((p1 &&& (255 : Int32)).toInt8.toInt32)) &&& (255 : Int32))) (own_hi ((nar .byte ((p1 &&& (255 : Int32)).toInt8.toInt32)) &&& (255 : Int32))) ((nar .byte ((p2 &&& (255 : Int32)).toInt8.toInt32)) &&& (255 : Int32)) ((nar .byte ((p3 &&& (255 : Int32)).toInt8.toInt32)) &&& (255 : Int32)) ((nar .byte ((p4 &&& (255 : Int32)).toInt8.toInt32)) &&& (255 : Int32))))])) _
      refine XS.iload X24.here hx rfl (hb hby at_160) rfl ?_
      show Steps p.tables e below (T24.setTop (mkF m 162 #[.val (.int p1), .val (.int p2), .val (.int p3), .val (.int p4), .val (.int p5), .val (.int (p1 &&& (255 : Int32))), .val (.int (p2 &&& (255 : Int32))), .val (.int (p3 &&& (255 : Int32))), .val (.int (p4 &&& (255 : Int32))), .val (.int (p5 &&& (1 : Int32))), .val (.int (((((p5.toUInt32 >>> ((1 : Int32) &&& 31).toUInt32).toInt32) &&& (7 : Int32)) % (5 : Int32)) + (1 : Int32))), .val (.int ((p5 &&& (1 : Int32)) + (((((p5.toUInt32 >>> ((1 : Int32) &&& 31).toUInt32).toInt32) &&& (7 : Int32)) % (5 : Int32)) + (1 : Int32)))), .val (.int (((p5.toUInt32 >>> ((4 : Int32) &&& 31).toUInt32).toInt32).toInt8.toInt32)), .val (.ref b1), .val (.int (own_wf (p5 &&& (1 : Int32)) ((p5 &&& (1 : Int32)) + (((((p5.toUInt32 >>> ((1 : Int32) &&& 31).toUInt32).toInt32) &&& (7 : Int32)) % (5 : Int32)) + (1 : Int32))) (own_len ((nar .byte ((p1 &&& (255 : Int32)).toInt8.toInt32)) &&& (255 : Int32))) (own_lo ((nar .byte ((p1 &&& (255 : Int32)).toInt8.toInt32)) &&& (255 : Int32))) (own_hi ((nar .byte ((p1 &&& (255 : Int32)).toInt8.toInt32)) &&& (255 : Int32))) ((nar .byte ((p2 &&& (255 : Int32)).toInt8.toInt32)) &&& (255 : Int32)) ((nar .byte ((p3 &&& (255 : Int32)).toInt8.toInt32)) &&& (255 : Int32)) ((nar .byte ((p4 &&& (255 : Int32)).toInt8.toInt32)) &&& (255 : Int32))))] [(.int (p4 &&& (255 : Int32))), (.int (p3 &&& (255 : Int32))), (.int (p2 &&& (255 : Int32))), (.int (p1 &&& (255 : Int32))), (.int (own_wf (p5 &&& (1 : Int32)) ((p5 &&& (1 : Int32)) + (((((p5.toUInt32 >>> ((1 : Int32) &&& 31).toUInt32).toInt32) &&& (7 : Int32)) % (5 : Int32)) + (1 : Int32))) (own_len ((nar .byte ((p1 &&& (255 : Int32)).toInt8.toInt32)) &&& (255 : Int32))) (own_lo ((nar .byte ((p1 &&& (255 : Int32)).toInt8.toInt32)) &&& (255 : Int32))) (own_hi ((nar .byte ((p1 &&& (255 : Int32)).toInt8.toInt32)) &&& (255 : Int32))) ((nar .byte ((p2 &&& (255 : Int32)).toInt8.toInt32)) &&& (255 : Int32)) ((nar .byte ((p3 &&& (255 : Int32)).toInt8.toInt32)) &&& (255 : Int32)) ((nar .byte ((p4 &&& (255 : Int32)).toInt8.toInt32)) &&& (255 : Int32))))])) _
      refine XS.iload X24.here hx rfl (hb hby at_162) rfl ?_
      show Steps p.tables e below (T24.setTop (mkF m 164 #[.val (.int p1), .val (.int p2), .val (.int p3), .val (.int p4), .val (.int p5), .val (.int (p1 &&& (255 : Int32))), .val (.int (p2 &&& (255 : Int32))), .val (.int (p3 &&& (255 : Int32))), .val (.int (p4 &&& (255 : Int32))), .val (.int (p5 &&& (1 : Int32))), .val (.int (((((p5.toUInt32 >>> ((1 : Int32) &&& 31).toUInt32).toInt32) &&& (7 : Int32)) % (5 : Int32)) + (1 : Int32))), .val (.int ((p5 &&& (1 : Int32)) + (((((p5.toUInt32 >>> ((1 : Int32) &&& 31).toUInt32).toInt32) &&& (7 : Int32)) % (5 : Int32)) + (1 : Int32)))), .val (.int (((p5.toUInt32 >>> ((4 : Int32) &&& 31).toUInt32).toInt32).toInt8.toInt32)), .val (.ref b1), .val (.int (own_wf (p5 &&& (1 : Int32)) ((p5 &&& (1 : Int32)) + (((((p5.toUInt32 >>> ((1 : Int32) &&& 31).toUInt32).toInt32) &&& (7 : Int32)) % (5 : Int32)) + (1 : Int32))) (own_len ((nar .byte ((p1 &&& (255 : Int32)).toInt8.toInt32)) &&& (255 : Int32))) (own_lo ((nar .byte ((p1 &&& (255 : Int32)).toInt8.toInt32)) &&& (255 : Int32))) (own_hi ((nar .byte ((p1 &&& (255 : Int32)).toInt8.toInt32)) &&& (255 : Int32))) ((nar .byte ((p2 &&& (255 : Int32)).toInt8.toInt32)) &&& (255 : Int32)) ((nar .byte ((p3 &&& (255 : Int32)).toInt8.toInt32)) &&& (255 : Int32)) ((nar .byte ((p4 &&& (255 : Int32)).toInt8.toInt32)) &&& (255 : Int32))))] [(.int (((((p5.toUInt32 >>> ((1 : Int32) &&& 31).toUInt32).toInt32) &&& (7 : Int32)) % (5 : Int32)) + (1 : Int32))), (.int (p4 &&& (255 : Int32))), (.int (p3 &&& (255 : Int32))), (.int (p2 &&& (255 : Int32))), (.int (p1 &&& (255 : Int32))), (.int (own_wf (p5 &&& (1 : Int32)) ((p5 &&& (1 : Int32)) + (((((p5.toUInt32 >>> ((1 : Int32) &&& 31).toUInt32).toInt32) &&& (7 : Int32)) % (5 : Int32)) + (1 : Int32))) (own_len ((nar .byte ((p1 &&& (255 : Int32)).toInt8.toInt32)) &&& (255 : Int32))) (own_lo ((nar .byte ((p1 &&& (255 : Int32)).toInt8.toInt32)) &&& (255 : Int32))) (own_hi ((nar .byte ((p1 &&& (255 : Int32)).toInt8.toInt32)) &&& (255 : Int32))) ((nar .byte ((p2 &&& (255 : Int32)).toInt8.toInt32)) &&& (255 : Int32)) ((nar .byte ((p3 &&& (255 : Int32)).toInt8.toInt32)) &&& (255 : Int32)) ((nar .byte ((p4 &&& (255 : Int32)).toInt8.toInt32)) &&& (255 : Int32))))])) _
      refine st25 _ ?_
      show Steps p.tables e below (T25.setTop (mkF m 167 #[.val (.int p1), .val (.int p2), .val (.int p3), .val (.int p4), .val (.int p5), .val (.int (p1 &&& (255 : Int32))), .val (.int (p2 &&& (255 : Int32))), .val (.int (p3 &&& (255 : Int32))), .val (.int (p4 &&& (255 : Int32))), .val (.int (p5 &&& (1 : Int32))), .val (.int (((((p5.toUInt32 >>> ((1 : Int32) &&& 31).toUInt32).toInt32) &&& (7 : Int32)) % (5 : Int32)) + (1 : Int32))), .val (.int ((p5 &&& (1 : Int32)) + (((((p5.toUInt32 >>> ((1 : Int32) &&& 31).toUInt32).toInt32) &&& (7 : Int32)) % (5 : Int32)) + (1 : Int32)))), .val (.int (((p5.toUInt32 >>> ((4 : Int32) &&& 31).toUInt32).toInt32).toInt8.toInt32)), .val (.ref b1), .val (.int (own_wf (p5 &&& (1 : Int32)) ((p5 &&& (1 : Int32)) + (((((p5.toUInt32 >>> ((1 : Int32) &&& 31).toUInt32).toInt32) &&& (7 : Int32)) % (5 : Int32)) + (1 : Int32))) (own_len ((nar .byte ((p1 &&& (255 : Int32)).toInt8.toInt32)) &&& (255 : Int32))) (own_lo ((nar .byte ((p1 &&& (255 : Int32)).toInt8.toInt32)) &&& (255 : Int32))) (own_hi ((nar .byte ((p1 &&& (255 : Int32)).toInt8.toInt32)) &&& (255 : Int32))) ((nar .byte ((p2 &&& (255 : Int32)).toInt8.toInt32)) &&& (255 : Int32)) ((nar .byte ((p3 &&& (255 : Int32)).toInt8.toInt32)) &&& (255 : Int32)) ((nar .byte ((p4 &&& (255 : Int32)).toInt8.toInt32)) &&& (255 : Int32))))] [(.int (own_exp (p1 &&& (255 : Int32)) (p2 &&& (255 : Int32)) (p3 &&& (255 : Int32)) (p4 &&& (255 : Int32)) (((((p5.toUInt32 >>> ((1 : Int32) &&& 31).toUInt32).toInt32) &&& (7 : Int32)) % (5 : Int32)) + (1 : Int32)))), (.int (own_wf (p5 &&& (1 : Int32)) ((p5 &&& (1 : Int32)) + (((((p5.toUInt32 >>> ((1 : Int32) &&& 31).toUInt32).toInt32) &&& (7 : Int32)) % (5 : Int32)) + (1 : Int32))) (own_len ((nar .byte ((p1 &&& (255 : Int32)).toInt8.toInt32)) &&& (255 : Int32))) (own_lo ((nar .byte ((p1 &&& (255 : Int32)).toInt8.toInt32)) &&& (255 : Int32))) (own_hi ((nar .byte ((p1 &&& (255 : Int32)).toInt8.toInt32)) &&& (255 : Int32))) ((nar .byte ((p2 &&& (255 : Int32)).toInt8.toInt32)) &&& (255 : Int32)) ((nar .byte ((p3 &&& (255 : Int32)).toInt8.toInt32)) &&& (255 : Int32)) ((nar .byte ((p4 &&& (255 : Int32)).toInt8.toInt32)) &&& (255 : Int32))))])) _
      refine XS.icmpNo X25.here hx rfl (hb hby at_167) rfl (teq (by rw [own_by, own_by, own_by, own_by]; exact own_main (p5 &&& (1 : Int32)) (own_av p5) _ _ _ _ (own_bit p5) (own_avr p5).1 (own_avr p5).2)).2 ?_
      show Steps p.tables e below (T25.setTop (mkF m 170 #[.val (.int p1), .val (.int p2), .val (.int p3), .val (.int p4), .val (.int p5), .val (.int (p1 &&& (255 : Int32))), .val (.int (p2 &&& (255 : Int32))), .val (.int (p3 &&& (255 : Int32))), .val (.int (p4 &&& (255 : Int32))), .val (.int (p5 &&& (1 : Int32))), .val (.int (((((p5.toUInt32 >>> ((1 : Int32) &&& 31).toUInt32).toInt32) &&& (7 : Int32)) % (5 : Int32)) + (1 : Int32))), .val (.int ((p5 &&& (1 : Int32)) + (((((p5.toUInt32 >>> ((1 : Int32) &&& 31).toUInt32).toInt32) &&& (7 : Int32)) % (5 : Int32)) + (1 : Int32)))), .val (.int (((p5.toUInt32 >>> ((4 : Int32) &&& 31).toUInt32).toInt32).toInt8.toInt32)), .val (.ref b1), .val (.int (own_wf (p5 &&& (1 : Int32)) ((p5 &&& (1 : Int32)) + (((((p5.toUInt32 >>> ((1 : Int32) &&& 31).toUInt32).toInt32) &&& (7 : Int32)) % (5 : Int32)) + (1 : Int32))) (own_len ((nar .byte ((p1 &&& (255 : Int32)).toInt8.toInt32)) &&& (255 : Int32))) (own_lo ((nar .byte ((p1 &&& (255 : Int32)).toInt8.toInt32)) &&& (255 : Int32))) (own_hi ((nar .byte ((p1 &&& (255 : Int32)).toInt8.toInt32)) &&& (255 : Int32))) ((nar .byte ((p2 &&& (255 : Int32)).toInt8.toInt32)) &&& (255 : Int32)) ((nar .byte ((p3 &&& (255 : Int32)).toInt8.toInt32)) &&& (255 : Int32)) ((nar .byte ((p4 &&& (255 : Int32)).toInt8.toInt32)) &&& (255 : Int32))))] [])) _
      refine XS.iconst X25.here hx rfl (hb hby at_170) ?_
      show Steps p.tables e below (T25.setTop (mkF m 171 #[.val (.int p1), .val (.int p2), .val (.int p3), .val (.int p4), .val (.int p5), .val (.int (p1 &&& (255 : Int32))), .val (.int (p2 &&& (255 : Int32))), .val (.int (p3 &&& (255 : Int32))), .val (.int (p4 &&& (255 : Int32))), .val (.int (p5 &&& (1 : Int32))), .val (.int (((((p5.toUInt32 >>> ((1 : Int32) &&& 31).toUInt32).toInt32) &&& (7 : Int32)) % (5 : Int32)) + (1 : Int32))), .val (.int ((p5 &&& (1 : Int32)) + (((((p5.toUInt32 >>> ((1 : Int32) &&& 31).toUInt32).toInt32) &&& (7 : Int32)) % (5 : Int32)) + (1 : Int32)))), .val (.int (((p5.toUInt32 >>> ((4 : Int32) &&& 31).toUInt32).toInt32).toInt8.toInt32)), .val (.ref b1), .val (.int (own_wf (p5 &&& (1 : Int32)) ((p5 &&& (1 : Int32)) + (((((p5.toUInt32 >>> ((1 : Int32) &&& 31).toUInt32).toInt32) &&& (7 : Int32)) % (5 : Int32)) + (1 : Int32))) (own_len ((nar .byte ((p1 &&& (255 : Int32)).toInt8.toInt32)) &&& (255 : Int32))) (own_lo ((nar .byte ((p1 &&& (255 : Int32)).toInt8.toInt32)) &&& (255 : Int32))) (own_hi ((nar .byte ((p1 &&& (255 : Int32)).toInt8.toInt32)) &&& (255 : Int32))) ((nar .byte ((p2 &&& (255 : Int32)).toInt8.toInt32)) &&& (255 : Int32)) ((nar .byte ((p3 &&& (255 : Int32)).toInt8.toInt32)) &&& (255 : Int32)) ((nar .byte ((p4 &&& (255 : Int32)).toInt8.toInt32)) &&& (255 : Int32))))] [(.int (1 : Int32))])) _
      refine XS.goto X25.here hx rfl (pc0 := 171) (pc' := 175) rfl (hb hby at_171) (by decide) (by decide) ?_
      exact k)
    obtain ⟨fs27, hr27, hrun27, hended27, hW27, hsame27⟩ := X25.leave (v := some (.int (1 : Int32))) (fun h => by rw [Bd.returns] at h; cases h)
    refine ⟨_, _, pre26 _ ?_, hrun27, hended27, _, _, rfl, ?_, ⟨_, rfl⟩, hW27, hsame27.mono (by decide) (by decide)⟩
    · show Steps p.tables e below (T25.setTop (mkF m 175 #[.val (.int p1), .val (.int p2), .val (.int p3), .val (.int p4), .val (.int p5), .val (.int (p1 &&& (255 : Int32))), .val (.int (p2 &&& (255 : Int32))), .val (.int (p3 &&& (255 : Int32))), .val (.int (p4 &&& (255 : Int32))), .val (.int (p5 &&& (1 : Int32))), .val (.int (((((p5.toUInt32 >>> ((1 : Int32) &&& 31).toUInt32).toInt32) &&& (7 : Int32)) % (5 : Int32)) + (1 : Int32))), .val (.int ((p5 &&& (1 : Int32)) + (((((p5.toUInt32 >>> ((1 : Int32) &&& 31).toUInt32).toInt32) &&& (7 : Int32)) % (5 : Int32)) + (1 : Int32)))), .val (.int (((p5.toUInt32 >>> ((4 : Int32) &&& 31).toUInt32).toInt32).toInt8.toInt32)), .val (.ref b1), .val (.int (own_wf (p5 &&& (1 : Int32)) ((p5 &&& (1 : Int32)) + (((((p5.toUInt32 >>> ((1 : Int32) &&& 31).toUInt32).toInt32) &&& (7 : Int32)) % (5 : Int32)) + (1 : Int32))) (own_len ((nar .byte ((p1 &&& (255 : Int32)).toInt8.toInt32)) &&& (255 : Int32))) (own_lo ((nar .byte ((p1 &&& (255 : Int32)).toInt8.toInt32)) &&& (255 : Int32))) (own_hi ((nar .byte ((p1 &&& (255 : Int32)).toInt8.toInt32)) &&& (255 : Int32))) ((nar .byte ((p2 &&& (255 : Int32)).toInt8.toInt32)) &&& (255 : Int32)) ((nar .byte ((p3 &&& (255 : Int32)).toInt8.toInt32)) &&& (255 : Int32)) ((nar .byte ((p4 &&& (255 : Int32)).toInt8.toInt32)) &&& (255 : Int32))))] [(.int (1 : Int32))])) _
      exact retN X25 hx (t := .boolean) Bd.returns (by simp) (hb hby at_175) hr27
    · show Q0 Z wl wo wh cL cO cH p1 p2 p3 p4 p5 h0 n0 _ T25.heap _
      rw [q25]
      exact ⟨rfl, N25⟩
  · have Vc28 := V1_13
    obtain ⟨cl28, Ar28, qq28, sz28, nn28, Ha28, Gf28⟩ := Vc28
    have hin28 : ¬ ((p5 &&& (1 : Int32)) < 0 ∨ cl28.slots.size ≤ ((p5 &&& (1 : Int32))).toNatClampNeg) := inb_of sz28 ⟨by rw [hat]; decide, by rw [hat]; decide⟩
    obtain ⟨T29, h29, X29, e29, W29, st29⟩ := stB X13 hx hZ e13 Ar28 (j := (p5 &&& (1 : Int32))) hin28 (g := (mkF m 110 #[.val (.int p1), .val (.int p2), .val (.int p3), .val (.int p4), .val (.int p5), .val (.int (p1 &&& (255 : Int32))), .val (.int (p2 &&& (255 : Int32))), .val (.int (p3 &&& (255 : Int32))), .val (.int (p4 &&& (255 : Int32))), .val (.int (p5 &&& (1 : Int32))), .val (.int (((((p5.toUInt32 >>> ((1 : Int32) &&& 31).toUInt32).toInt32) &&& (7 : Int32)) % (5 : Int32)) + (1 : Int32))), .val (.int ((p5 &&& (1 : Int32)) + (((((p5.toUInt32 >>> ((1 : Int32) &&& 31).toUInt32).toInt32) &&& (7 : Int32)) % (5 : Int32)) + (1 : Int32)))), .val (.int (((p5.toUInt32 >>> ((4 : Int32) &&& 31).toUInt32).toInt32).toInt8.toInt32)), .val (.ref b1), .unset] [(.int ((p1 &&& (255 : Int32)).toInt8.toInt32)), (.int (p5 &&& (1 : Int32))), (.ref b1)])) rfl rfl (hb hby at_110)
    have N29 := Fr.snoc X29 N13 gn1
    have S1_29 := S1_13.wr W29
    have S2_29 := S2_13.wr W29
    have S3_29 := S3_13.wr W29
    have AL_29 := AL_13.other W29 ne_wl_b1
    have AO_29 := AO_13.other W29 ne_wo_b1
    have AH_29 := AH_13.other W29 ne_wh_b1
    have V1_29 := Arv.set Ar28 qq28 sz28 nn28 Ha28 Gf28 (fits_nar_byte _) W29 1 (by rw [hat]; rfl) (Nat.le_of_ble_eq_true rfl)
    have Vc30 := V1_29
    obtain ⟨cl30, Ar30, qq30, sz30, nn30, Ha30, Gf30⟩ := Vc30
    have hin30 : ¬ (((p5 &&& (1 : Int32)) + (1 : Int32)) < 0 ∨ cl30.slots.size ≤ (((p5 &&& (1 : Int32)) + (1 : Int32))).toNatClampNeg) := inb_of sz30 ⟨by rw [hat]; decide, by rw [hat]; decide⟩
    obtain ⟨T31, h31, X31, e31, W31, st31⟩ := stB X29 hx hZ e29 Ar30 (j := ((p5 &&& (1 : Int32)) + (1 : Int32))) hin30 (g := (mkF m 120 #[.val (.int p1), .val (.int p2), .val (.int p3), .val (.int p4), .val (.int p5), .val (.int (p1 &&& (255 : Int32))), .val (.int (p2 &&& (255 : Int32))), .val (.int (p3 &&& (255 : Int32))), .val (.int (p4 &&& (255 : Int32))), .val (.int (p5 &&& (1 : Int32))), .val (.int (((((p5.toUInt32 >>> ((1 : Int32) &&& 31).toUInt32).toInt32) &&& (7 : Int32)) % (5 : Int32)) + (1 : Int32))), .val (.int ((p5 &&& (1 : Int32)) + (((((p5.toUInt32 >>> ((1 : Int32) &&& 31).toUInt32).toInt32) &&& (7 : Int32)) % (5 : Int32)) + (1 : Int32)))), .val (.int (((p5.toUInt32 >>> ((4 : Int32) &&& 31).toUInt32).toInt32).toInt8.toInt32)), .val (.ref b1), .unset] [(.int ((p2 &&& (255 : Int32)).toInt8.toInt32)), (.int ((p5 &&& (1 : Int32)) + (1 : Int32))), (.ref b1)])) rfl rfl (hb hby at_120)
    have N31 := Fr.snoc X31 N29 gn1
    have S1_31 := S1_29.wr W31
    have S2_31 := S2_29.wr W31
    have S3_31 := S3_29.wr W31
    have AL_31 := AL_29.other W31 ne_wl_b1
    have AO_31 := AO_29.other W31 ne_wo_b1
    have AH_31 := AH_29.other W31 ne_wh_b1
    have V1_31 := Arv.set Ar30 qq30 sz30 nn30 Ha30 Gf30 (fits_nar_byte _) W31 2 (by rw [hat]; rfl) (Nat.le_of_ble_eq_true rfl)
    have Vc32 := V1_31
    obtain ⟨cl32, Ar32, qq32, sz32, nn32, Ha32, Gf32⟩ := Vc32
    have hin32 : ¬ (((p5 &&& (1 : Int32)) + (2 : Int32)) < 0 ∨ cl32.slots.size ≤ (((p5 &&& (1 : Int32)) + (2 : Int32))).toNatClampNeg) := inb_of sz32 ⟨by rw [hat]; decide, by rw [hat]; decide⟩
    obtain ⟨T33, h33, X33, e33, W33, st33⟩ := stB X31 hx hZ e31 Ar32 (j := ((p5 &&& (1 : Int32)) + (2 : Int32))) hin32 (g := (mkF m 130 #[.val (.int p1), .val (.int p2), .val (.int p3), .val (.int p4), .val (.int p5), .val (.int (p1 &&& (255 : Int32))), .val (.int (p2 &&& (255 : Int32))), .val (.int (p3 &&& (255 : Int32))), .val (.int (p4 &&& (255 : Int32))), .val (.int (p5 &&& (1 : Int32))), .val (.int (((((p5.toUInt32 >>> ((1 : Int32) &&& 31).toUInt32).toInt32) &&& (7 : Int32)) % (5 : Int32)) + (1 : Int32))), .val (.int ((p5 &&& (1 : Int32)) + (((((p5.toUInt32 >>> ((1 : Int32) &&& 31).toUInt32).toInt32) &&& (7 : Int32)) % (5 : Int32)) + (1 : Int32)))), .val (.int (((p5.toUInt32 >>> ((4 : Int32) &&& 31).toUInt32).toInt32).toInt8.toInt32)), .val (.ref b1), .unset] [(.int ((p3 &&& (255 : Int32)).toInt8.toInt32)), (.int ((p5 &&& (1 : Int32)) + (2 : Int32))), (.ref b1)])) rfl rfl (hb hby at_130)
    have N33 := Fr.snoc X33 N31 gn1
    have S1_33 := S1_31.wr W33
    have S2_33 := S2_31.wr W33
    have S3_33 := S3_31.wr W33
    have AL_33 := AL_31.other W33 ne_wl_b1
    have AO_33 := AO_31.other W33 ne_wo_b1
    have AH_33 := AH_31.other W33 ne_wh_b1
    have V1_33 := Arv.set Ar32 qq32 sz32 nn32 Ha32 Gf32 (fits_nar_byte _) W33 3 (by rw [hat]; rfl) (Nat.le_of_ble_eq_true rfl)
    have Vc34 := V1_33
    obtain ⟨cl34, Ar34, qq34, sz34, nn34, Ha34, Gf34⟩ := Vc34
    have hin34 : ¬ (((p5 &&& (1 : Int32)) + (3 : Int32)) < 0 ∨ cl34.slots.size ≤ (((p5 &&& (1 : Int32)) + (3 : Int32))).toNatClampNeg) := inb_of sz34 ⟨by rw [hat]; decide, by rw [hat]; decide⟩
    obtain ⟨T35, h35, X35, e35, W35, st35⟩ := stB X33 hx hZ e33 Ar34 (j := ((p5 &&& (1 : Int32)) + (3 : Int32))) hin34 (g := (mkF m 140 #[.val (.int p1), .val (.int p2), .val (.int p3), .val (.int p4), .val (.int p5), .val (.int (p1 &&& (255 : Int32))), .val (.int (p2 &&& (255 : Int32))), .val (.int (p3 &&& (255 : Int32))), .val (.int (p4 &&& (255 : Int32))), .val (.int (p5 &&& (1 : Int32))), .val (.int (((((p5.toUInt32 >>> ((1 : Int32) &&& 31).toUInt32).toInt32) &&& (7 : Int32)) % (5 : Int32)) + (1 : Int32))), .val (.int ((p5 &&& (1 : Int32)) + (((((p5.toUInt32 >>> ((1 : Int32) &&& 31).toUInt32).toInt32) &&& (7 : Int32)) % (5 : Int32)) + (1 : Int32)))), .val (.int (((p5.toUInt32 >>> ((4 : Int32) &&& 31).toUInt32).toInt32).toInt8.toInt32)), .val (.ref b1), .unset] [(.int ((p4 &&& (255 : Int32)).toInt8.toInt32)), (.int ((p5 &&& (1 : Int32)) + (3 : Int32))), (.ref b1)])) rfl rfl (hb hby at_140)
    have N35 := Fr.snoc X35 N33 gn1
    have S1_35 := S1_33.wr W35
    have S2_35 := S2_33.wr W35
    have S3_35 := S3_33.wr W35
    have AL_35 := AL_33.other W35 ne_wl_b1
    have AO_35 := AO_33.other W35 ne_wo_b1
    have AH_35 := AH_33.other W35 ne_wh_b1
    have V1_35 := Arv.set Ar34 qq34 sz34 nn34 Ha34 Gf34 (fits_nar_byte _) W35 4 (by rw [hat]; rfl) (Nat.le_of_ble_eq_true rfl)
    have Vc36 := V1_35
    obtain ⟨cl36, Ar36, qq36, sz36, nn36, Ha36, Gf36⟩ := Vc36
    have R0 : own_rd cl36 (p5 &&& (1 : Int32)) (nar .byte ((p1 &&& (255 : Int32)).toInt8.toInt32)) := own_rdOf sz36 Ha36 ⟨by rw [hat]; decide, by rw [hat]; decide⟩ (by rw [hat]; rfl)
    have R1 : own_rd cl36 ((p5 &&& (1 : Int32)) + (1 : Int32)) (nar .byte ((p2 &&& (255 : Int32)).toInt8.toInt32)) := own_rdOf sz36 Ha36 ⟨by rw [hat]; decide, by rw [hat]; decide⟩ (by rw [hat]; rfl)
    have R2 : own_rd cl36 ((p5 &&& (1 : Int32)) + ((1 : Int32) + (1 : Int32))) (nar .byte ((p3 &&& (255 : Int32)).toInt8.toInt32)) := own_rdOf sz36 Ha36 ⟨by rw [hat]; decide, by rw [hat]; decide⟩ (by rw [hat]; rfl)
    have R3 : own_rd cl36 ((p5 &&& (1 : Int32)) + (((1 : Int32) + (1 : Int32)) + (1 : Int32))) (nar .byte ((p4 &&& (255 : Int32)).toInt8.toInt32)) := own_rdOf sz36 Ha36 ⟨by rw [hat]; decide, by rw [hat]; decide⟩ (by rw [hat]; rfl)
    have hb0 := HB (p1 &&& (255 : Int32)) (own_rng p1).1 (own_rng p1).2
    rw [← own_by p1] at hb0
    obtain ⟨_, _, ⟨T37, L37, k37, n37⟩, -, X37, ⟨Lc37, hQ37, l37, y37, z37⟩, st37⟩ := Jvm.LawKit.callS X35 hx (y := (⟨"com/example/nearprint/nearprint/cli/Utf8Reader", "wellFormed", "([BII)I"⟩ : MethodName)) hown (mvT hZ (hw _ (List.mem_of_getElem? (i := 1) rfl))) (mvT hZ (hw _ (List.mem_of_getElem? (i := 2) rfl))) (mvT hZ (hw _ (List.mem_of_getElem? (i := 3) rfl))) (mvT hZ (hw _ (List.mem_of_getElem? (i := 4) rfl))) (by decide) (backOf (W := 0) (rm1 l Z a0 hw [] b1 wl wo wh cl36 cL cO cH (nar .byte ((p1 &&& (255 : Int32)).toInt8.toInt32)) (nar .byte ((p2 &&& (255 : Int32)).toInt8.toInt32)) (nar .byte ((p3 &&& (255 : Int32)).toInt8.toInt32)) (nar .byte ((p4 &&& (255 : Int32)).toInt8.toInt32)) (own_len ((nar .byte ((p1 &&& (255 : Int32)).toInt8.toInt32)) &&& (255 : Int32))) (own_lo ((nar .byte ((p1 &&& (255 : Int32)).toInt8.toInt32)) &&& (255 : Int32))) (own_hi ((nar .byte ((p1 &&& (255 : Int32)).toInt8.toInt32)) &&& (255 : Int32))) (p5 &&& (1 : Int32)) ((p5 &&& (1 : Int32)) + (((((p5.toUInt32 >>> ((1 : Int32) &&& 31).toUInt32).toInt32) &&& (7 : Int32)) % (5 : Int32)) + (1 : Int32))) h35 n0 (Nat.le_trans (Nat.le_trans (Nat.le_trans (Nat.le_trans (Nat.le_trans (Nat.le_trans (Nat.le_trans (Nat.le_trans (Nat.le_trans (Nat.le_trans (Nat.le_trans Z0 E1.1) (Nat.le_of_eq W3.size.symm)) (Nat.le_of_eq W5.size.symm)) (Nat.le_of_eq W7.size.symm)) (Nat.le_of_eq W9.size.symm)) (Nat.le_of_eq W11.size.symm)) (Nat.le_of_eq W13.size.symm)) (Nat.le_of_eq W29.size.symm)) (Nat.le_of_eq W31.size.symm)) (Nat.le_of_eq W33.size.symm)) (Nat.le_of_eq W35.size.symm)) S1_35 S2_35 S3_35 Ar36 AL_35 AO_35 AH_35 R0 hb0.1 hb0.2.1 hb0.2.2 R1 R2 R3 (own_len4 _)) hZ (hw _ (List.mem_of_getElem? (i := 4) rfl)) (hw _ (List.mem_of_getElem? (i := 3) rfl)) (by decide) (by decide)) (g := (mkF m 147 #[.val (.int p1), .val (.int p2), .val (.int p3), .val (.int p4), .val (.int p5), .val (.int (p1 &&& (255 : Int32))), .val (.int (p2 &&& (255 : Int32))), .val (.int (p3 &&& (255 : Int32))), .val (.int (p4 &&& (255 : Int32))), .val (.int (p5 &&& (1 : Int32))), .val (.int (((((p5.toUInt32 >>> ((1 : Int32) &&& 31).toUInt32).toInt32) &&& (7 : Int32)) % (5 : Int32)) + (1 : Int32))), .val (.int ((p5 &&& (1 : Int32)) + (((((p5.toUInt32 >>> ((1 : Int32) &&& 31).toUInt32).toInt32) &&& (7 : Int32)) % (5 : Int32)) + (1 : Int32)))), .val (.int (((p5.toUInt32 >>> ((4 : Int32) &&& 31).toUInt32).toInt32).toInt8.toInt32)), .val (.ref b1), .unset] [(.int ((p5 &&& (1 : Int32)) + (((((p5.toUInt32 >>> ((1 : Int32) &&& 31).toUInt32).toInt32) &&& (7 : Int32)) % (5 : Int32)) + (1 : Int32)))), (.int (p5 &&& (1 : Int32))), (.ref b1)])) rfl (by rw [hml]; rfl) (argsL := [(.ref b1), (.int (p5 &&& (1 : Int32))), (.int ((p5 &&& (1 : Int32)) + (((((p5.toUInt32 >>> ((1 : Int32) &&& 31).toUInt32).toInt32) &&& (7 : Int32)) % (5 : Int32)) + (1 : Int32))))]) (rest := []) (lenOf pd_1 rfl) rfl (by show 2 * 0 + _ ≤ _; exact Nat.le_of_eq rfl) (hb hby at_147) (fun _ _ => ⟨rfl, e35, (by decide : 1 + 0 ≤ _), (by decide : 6 + 0 ≤ _)⟩)
    dsimp only [Pt.U, Pt.locs, Pt.cells, Pt.slots] at X37 l37 y37 z37 st37 hQ37
    subst l37 y37 z37
    obtain ⟨rfl, N37q, q37⟩ := hQ37
    have N37 := Fr.app N35 N37q
    obtain ⟨_, _, ⟨T38, L38, k38, n38⟩, -, X38, ⟨Lc38, hQ38, l38, y38, z38⟩, st38⟩ := Jvm.LawKit.callS X37 hx (y := (⟨"com/example/nearprint/nearprint/cli/Utf8ReaderWellFormedPinLaw", "expected", "(IIIII)I"⟩ : MethodName)) hown (mvT hZ (hw _ (List.mem_of_getElem? (i := 11) rfl))) (mvT hZ (hw _ (List.mem_of_getElem? (i := 12) rfl))) (mvT hZ (hw _ (List.mem_of_getElem? (i := 13) rfl))) (mvT hZ (hw _ (List.mem_of_getElem? (i := 14) rfl))) (by decide) (backOf (W := 1) (rm2 l Z a0 hw [] (p1 &&& (255 : Int32)) (p2 &&& (255 : Int32)) (p3 &&& (255 : Int32)) (p4 &&& (255 : Int32)) (((((p5.toUInt32 >>> ((1 : Int32) &&& 31).toUInt32).toInt32) &&& (7 : Int32)) % (5 : Int32)) + (1 : Int32)) h35 n0 (Nat.le_trans (Nat.le_trans (Nat.le_trans (Nat.le_trans (Nat.le_trans (Nat.le_trans (Nat.le_trans (Nat.le_trans (Nat.le_trans (Nat.le_trans (Nat.le_trans Z0 E1.1) (Nat.le_of_eq W3.size.symm)) (Nat.le_of_eq W5.size.symm)) (Nat.le_of_eq W7.size.symm)) (Nat.le_of_eq W9.size.symm)) (Nat.le_of_eq W11.size.symm)) (Nat.le_of_eq W13.size.symm)) (Nat.le_of_eq W29.size.symm)) (Nat.le_of_eq W31.size.symm)) (Nat.le_of_eq W33.size.symm)) (Nat.le_of_eq W35.size.symm))) hZ (hw _ (List.mem_of_getElem? (i := 14) rfl)) (hw _ (List.mem_of_getElem? (i := 13) rfl)) (by decide) (by decide)) (g := (mkF m 164 #[.val (.int p1), .val (.int p2), .val (.int p3), .val (.int p4), .val (.int p5), .val (.int (p1 &&& (255 : Int32))), .val (.int (p2 &&& (255 : Int32))), .val (.int (p3 &&& (255 : Int32))), .val (.int (p4 &&& (255 : Int32))), .val (.int (p5 &&& (1 : Int32))), .val (.int (((((p5.toUInt32 >>> ((1 : Int32) &&& 31).toUInt32).toInt32) &&& (7 : Int32)) % (5 : Int32)) + (1 : Int32))), .val (.int ((p5 &&& (1 : Int32)) + (((((p5.toUInt32 >>> ((1 : Int32) &&& 31).toUInt32).toInt32) &&& (7 : Int32)) % (5 : Int32)) + (1 : Int32)))), .val (.int (((p5.toUInt32 >>> ((4 : Int32) &&& 31).toUInt32).toInt32).toInt8.toInt32)), .val (.ref b1), .val (.int (own_wf (p5 &&& (1 : Int32)) ((p5 &&& (1 : Int32)) + (((((p5.toUInt32 >>> ((1 : Int32) &&& 31).toUInt32).toInt32) &&& (7 : Int32)) % (5 : Int32)) + (1 : Int32))) (own_len ((nar .byte ((p1 &&& (255 : Int32)).toInt8.toInt32)) &&& (255 : Int32))) (own_lo ((nar .byte ((p1 &&& (255 : Int32)).toInt8.toInt32)) &&& (255 : Int32))) (own_hi ((nar .byte ((p1 &&& (255 : Int32)).toInt8.toInt32)) &&& (255 : Int32))) ((nar .byte ((p2 &&& (255 : Int32)).toInt8.toInt32)) &&& (255 : Int32)) ((nar .byte ((p3 &&& (255 : Int32)).toInt8.toInt32)) &&& (255 : Int32)) ((nar .byte ((p4 &&& (255 : Int32)).toInt8.toInt32)) &&& (255 : Int32))))] [(.int (((((p5.toUInt32 >>> ((1 : Int32) &&& 31).toUInt32).toInt32) &&& (7 : Int32)) % (5 : Int32)) + (1 : Int32))), (.int (p4 &&& (255 : Int32))), (.int (p3 &&& (255 : Int32))), (.int (p2 &&& (255 : Int32))), (.int (p1 &&& (255 : Int32))), (.int (own_wf (p5 &&& (1 : Int32)) ((p5 &&& (1 : Int32)) + (((((p5.toUInt32 >>> ((1 : Int32) &&& 31).toUInt32).toInt32) &&& (7 : Int32)) % (5 : Int32)) + (1 : Int32))) (own_len ((nar .byte ((p1 &&& (255 : Int32)).toInt8.toInt32)) &&& (255 : Int32))) (own_lo ((nar .byte ((p1 &&& (255 : Int32)).toInt8.toInt32)) &&& (255 : Int32))) (own_hi ((nar .byte ((p1 &&& (255 : Int32)).toInt8.toInt32)) &&& (255 : Int32))) ((nar .byte ((p2 &&& (255 : Int32)).toInt8.toInt32)) &&& (255 : Int32)) ((nar .byte ((p3 &&& (255 : Int32)).toInt8.toInt32)) &&& (255 : Int32)) ((nar .byte ((p4 &&& (255 : Int32)).toInt8.toInt32)) &&& (255 : Int32))))])) rfl (by rw [hml]; rfl) (argsL := [(.int (p1 &&& (255 : Int32))), (.int (p2 &&& (255 : Int32))), (.int (p3 &&& (255 : Int32))), (.int (p4 &&& (255 : Int32))), (.int (((((p5.toUInt32 >>> ((1 : Int32) &&& 31).toUInt32).toInt32) &&& (7 : Int32)) % (5 : Int32)) + (1 : Int32)))]) (rest := [(.int (own_wf (p5 &&& (1 : Int32)) ((p5 &&& (1 : Int32)) + (((((p5.toUInt32 >>> ((1 : Int32) &&& 31).toUInt32).toInt32) &&& (7 : Int32)) % (5 : Int32)) + (1 : Int32))) (own_len ((nar .byte ((p1 &&& (255 : Int32)).toInt8.toInt32)) &&& (255 : Int32))) (own_lo ((nar .byte ((p1 &&& (255 : Int32)).toInt8.toInt32)) &&& (255 : Int32))) (own_hi ((nar .byte ((p1 &&& (255 : Int32)).toInt8.toInt32)) &&& (255 : Int32))) ((nar .byte ((p2 &&& (255 : Int32)).toInt8.toInt32)) &&& (255 : Int32)) ((nar .byte ((p3 &&& (255 : Int32)).toInt8.toInt32)) &&& (255 : Int32)) ((nar .byte ((p4 &&& (255 : Int32)).toInt8.toInt32)) &&& (255 : Int32))))]) (lenOf pd_2 rfl) rfl (by show 2 * 0 + _ ≤ _; exact Nat.le_of_eq rfl) (hb hby at_164) (fun _ _ => ⟨rfl, q37, (by decide : 1 + 0 ≤ _), (by decide : 6 + 0 ≤ _)⟩)
    dsimp only [Pt.U, Pt.locs, Pt.cells, Pt.slots] at X38 l38 y38 z38 st38 hQ38
    subst l38 y38 z38
    obtain ⟨rfl, N38q, q38⟩ := hQ38
    have N38 := Fr.app N37 N38q
    have pre39 : ∀ t, Steps p.tables e below (T38.setTop (mkF m 175 #[.val (.int p1), .val (.int p2), .val (.int p3), .val (.int p4), .val (.int p5), .val (.int (p1 &&& (255 : Int32))), .val (.int (p2 &&& (255 : Int32))), .val (.int (p3 &&& (255 : Int32))), .val (.int (p4 &&& (255 : Int32))), .val (.int (p5 &&& (1 : Int32))), .val (.int (((((p5.toUInt32 >>> ((1 : Int32) &&& 31).toUInt32).toInt32) &&& (7 : Int32)) % (5 : Int32)) + (1 : Int32))), .val (.int ((p5 &&& (1 : Int32)) + (((((p5.toUInt32 >>> ((1 : Int32) &&& 31).toUInt32).toInt32) &&& (7 : Int32)) % (5 : Int32)) + (1 : Int32)))), .val (.int (((p5.toUInt32 >>> ((4 : Int32) &&& 31).toUInt32).toInt32).toInt8.toInt32)), .val (.ref b1), .val (.int (own_wf (p5 &&& (1 : Int32)) ((p5 &&& (1 : Int32)) + (((((p5.toUInt32 >>> ((1 : Int32) &&& 31).toUInt32).toInt32) &&& (7 : Int32)) % (5 : Int32)) + (1 : Int32))) (own_len ((nar .byte ((p1 &&& (255 : Int32)).toInt8.toInt32)) &&& (255 : Int32))) (own_lo ((nar .byte ((p1 &&& (255 : Int32)).toInt8.toInt32)) &&& (255 : Int32))) (own_hi ((nar .byte ((p1 &&& (255 : Int32)).toInt8.toInt32)) &&& (255 : Int32))) ((nar .byte ((p2 &&& (255 : Int32)).toInt8.toInt32)) &&& (255 : Int32)) ((nar .byte ((p3 &&& (255 : Int32)).toInt8.toInt32)) &&& (255 : Int32)) ((nar .byte ((p4 &&& (255 : Int32)).toInt8.toInt32)) &&& (255 : Int32))))] [(.int (1 : Int32))])) t → Steps p.tables e below (s₁.setTop (entryFrame m #[(.int p1), (.int p2), (.int p3), (.int p4), (.int p5)] maxLocals)) t := fun t k => pre14 t (by
      show Steps p.tables e below (T13.setTop (mkF m 110 #[.val (.int p1), .val (.int p2), .val (.int p3), .val (.int p4), .val (.int p5), .val (.int (p1 &&& (255 : Int32))), .val (.int (p2 &&& (255 : Int32))), .val (.int (p3 &&& (255 : Int32))), .val (.int (p4 &&& (255 : Int32))), .val (.int (p5 &&& (1 : Int32))), .val (.int (((((p5.toUInt32 >>> ((1 : Int32) &&& 31).toUInt32).toInt32) &&& (7 : Int32)) % (5 : Int32)) + (1 : Int32))), .val (.int ((p5 &&& (1 : Int32)) + (((((p5.toUInt32 >>> ((1 : Int32) &&& 31).toUInt32).toInt32) &&& (7 : Int32)) % (5 : Int32)) + (1 : Int32)))), .val (.int (((p5.toUInt32 >>> ((4 : Int32) &&& 31).toUInt32).toInt32).toInt8.toInt32)), .val (.ref b1), .unset] [(.int ((p1 &&& (255 : Int32)).toInt8.toInt32)), (.int (p5 &&& (1 : Int32))), (.ref b1)])) _
      refine st29 _ ?_
      show Steps p.tables e below (T29.setTop (mkF m 111 #[.val (.int p1), .val (.int p2), .val (.int p3), .val (.int p4), .val (.int p5), .val (.int (p1 &&& (255 : Int32))), .val (.int (p2 &&& (255 : Int32))), .val (.int (p3 &&& (255 : Int32))), .val (.int (p4 &&& (255 : Int32))), .val (.int (p5 &&& (1 : Int32))), .val (.int (((((p5.toUInt32 >>> ((1 : Int32) &&& 31).toUInt32).toInt32) &&& (7 : Int32)) % (5 : Int32)) + (1 : Int32))), .val (.int ((p5 &&& (1 : Int32)) + (((((p5.toUInt32 >>> ((1 : Int32) &&& 31).toUInt32).toInt32) &&& (7 : Int32)) % (5 : Int32)) + (1 : Int32)))), .val (.int (((p5.toUInt32 >>> ((4 : Int32) &&& 31).toUInt32).toInt32).toInt8.toInt32)), .val (.ref b1), .unset] [])) _
      refine XS.aload X29.here hx rfl (hb hby at_111) rfl rfl ?_
      show Steps p.tables e below (T29.setTop (mkF m 113 #[.val (.int p1), .val (.int p2), .val (.int p3), .val (.int p4), .val (.int p5), .val (.int (p1 &&& (255 : Int32))), .val (.int (p2 &&& (255 : Int32))), .val (.int (p3 &&& (255 : Int32))), .val (.int (p4 &&& (255 : Int32))), .val (.int (p5 &&& (1 : Int32))), .val (.int (((((p5.toUInt32 >>> ((1 : Int32) &&& 31).toUInt32).toInt32) &&& (7 : Int32)) % (5 : Int32)) + (1 : Int32))), .val (.int ((p5 &&& (1 : Int32)) + (((((p5.toUInt32 >>> ((1 : Int32) &&& 31).toUInt32).toInt32) &&& (7 : Int32)) % (5 : Int32)) + (1 : Int32)))), .val (.int (((p5.toUInt32 >>> ((4 : Int32) &&& 31).toUInt32).toInt32).toInt8.toInt32)), .val (.ref b1), .unset] [(.ref b1)])) _
      refine XS.iload X29.here hx rfl (hb hby at_113) rfl ?_
      show Steps p.tables e below (T29.setTop (mkF m 115 #[.val (.int p1), .val (.int p2), .val (.int p3), .val (.int p4), .val (.int p5), .val (.int (p1 &&& (255 : Int32))), .val (.int (p2 &&& (255 : Int32))), .val (.int (p3 &&& (255 : Int32))), .val (.int (p4 &&& (255 : Int32))), .val (.int (p5 &&& (1 : Int32))), .val (.int (((((p5.toUInt32 >>> ((1 : Int32) &&& 31).toUInt32).toInt32) &&& (7 : Int32)) % (5 : Int32)) + (1 : Int32))), .val (.int ((p5 &&& (1 : Int32)) + (((((p5.toUInt32 >>> ((1 : Int32) &&& 31).toUInt32).toInt32) &&& (7 : Int32)) % (5 : Int32)) + (1 : Int32)))), .val (.int (((p5.toUInt32 >>> ((4 : Int32) &&& 31).toUInt32).toInt32).toInt8.toInt32)), .val (.ref b1), .unset] [(.int (p5 &&& (1 : Int32))), (.ref b1)])) _
      refine XS.iconst X29.here hx rfl (hb hby at_115) ?_
      show Steps p.tables e below (T29.setTop (mkF m 116 #[.val (.int p1), .val (.int p2), .val (.int p3), .val (.int p4), .val (.int p5), .val (.int (p1 &&& (255 : Int32))), .val (.int (p2 &&& (255 : Int32))), .val (.int (p3 &&& (255 : Int32))), .val (.int (p4 &&& (255 : Int32))), .val (.int (p5 &&& (1 : Int32))), .val (.int (((((p5.toUInt32 >>> ((1 : Int32) &&& 31).toUInt32).toInt32) &&& (7 : Int32)) % (5 : Int32)) + (1 : Int32))), .val (.int ((p5 &&& (1 : Int32)) + (((((p5.toUInt32 >>> ((1 : Int32) &&& 31).toUInt32).toInt32) &&& (7 : Int32)) % (5 : Int32)) + (1 : Int32)))), .val (.int (((p5.toUInt32 >>> ((4 : Int32) &&& 31).toUInt32).toInt32).toInt8.toInt32)), .val (.ref b1), .unset] [(.int (1 : Int32)), (.int (p5 &&& (1 : Int32))), (.ref b1)])) _
      refine XS.iadd X29.here hx rfl (hb hby at_116) rfl ?_
      show Steps p.tables e below (T29.setTop (mkF m 117 #[.val (.int p1), .val (.int p2), .val (.int p3), .val (.int p4), .val (.int p5), .val (.int (p1 &&& (255 : Int32))), .val (.int (p2 &&& (255 : Int32))), .val (.int (p3 &&& (255 : Int32))), .val (.int (p4 &&& (255 : Int32))), .val (.int (p5 &&& (1 : Int32))), .val (.int (((((p5.toUInt32 >>> ((1 : Int32) &&& 31).toUInt32).toInt32) &&& (7 : Int32)) % (5 : Int32)) + (1 : Int32))), .val (.int ((p5 &&& (1 : Int32)) + (((((p5.toUInt32 >>> ((1 : Int32) &&& 31).toUInt32).toInt32) &&& (7 : Int32)) % (5 : Int32)) + (1 : Int32)))), .val (.int (((p5.toUInt32 >>> ((4 : Int32) &&& 31).toUInt32).toInt32).toInt8.toInt32)), .val (.ref b1), .unset] [(.int ((p5 &&& (1 : Int32)) + (1 : Int32))), (.ref b1)])) _
      refine XS.iload X29.here hx rfl (hb hby at_117) rfl ?_
      show Steps p.tables e below (T29.setTop (mkF m 119 #[.val (.int p1), .val (.int p2), .val (.int p3), .val (.int p4), .val (.int p5), .val (.int (p1 &&& (255 : Int32))), .val (.int (p2 &&& (255 : Int32))), .val (.int (p3 &&& (255 : Int32))), .val (.int (p4 &&& (255 : Int32))), .val (.int (p5 &&& (1 : Int32))), .val (.int (((((p5.toUInt32 >>> ((1 : Int32) &&& 31).toUInt32).toInt32) &&& (7 : Int32)) % (5 : Int32)) + (1 : Int32))), .val (.int ((p5 &&& (1 : Int32)) + (((((p5.toUInt32 >>> ((1 : Int32) &&& 31).toUInt32).toInt32) &&& (7 : Int32)) % (5 : Int32)) + (1 : Int32)))), .val (.int (((p5.toUInt32 >>> ((4 : Int32) &&& 31).toUInt32).toInt32).toInt8.toInt32)), .val (.ref b1), .unset] [(.int (p2 &&& (255 : Int32))), (.int ((p5 &&& (1 : Int32)) + (1 : Int32))), (.ref b1)])) _
      refine XS.i2b X29.here hx rfl (hb hby at_119) rfl ?_
      show Steps p.tables e below (T29.setTop (mkF m 120 #[.val (.int p1), .val (.int p2), .val (.int p3), .val (.int p4), .val (.int p5), .val (.int (p1 &&& (255 : Int32))), .val (.int (p2 &&& (255 : Int32))), .val (.int (p3 &&& (255 : Int32))), .val (.int (p4 &&& (255 : Int32))), .val (.int (p5 &&& (1 : Int32))), .val (.int (((((p5.toUInt32 >>> ((1 : Int32) &&& 31).toUInt32).toInt32) &&& (7 : Int32)) % (5 : Int32)) + (1 : Int32))), .val (.int ((p5 &&& (1 : Int32)) + (((((p5.toUInt32 >>> ((1 : Int32) &&& 31).toUInt32).toInt32) &&& (7 : Int32)) % (5 : Int32)) + (1 : Int32)))), .val (.int (((p5.toUInt32 >>> ((4 : Int32) &&& 31).toUInt32).toInt32).toInt8.toInt32)), .val (.ref b1), .unset] [(.int ((p2 &&& (255 : Int32)).toInt8.toInt32)), (.int ((p5 &&& (1 : Int32)) + (1 : Int32))), (.ref b1)])) _
      refine st31 _ ?_
      show Steps p.tables e below (T31.setTop (mkF m 121 #[.val (.int p1), .val (.int p2), .val (.int p3), .val (.int p4), .val (.int p5), .val (.int (p1 &&& (255 : Int32))), .val (.int (p2 &&& (255 : Int32))), .val (.int (p3 &&& (255 : Int32))), .val (.int (p4 &&& (255 : Int32))), .val (.int (p5 &&& (1 : Int32))), .val (.int (((((p5.toUInt32 >>> ((1 : Int32) &&& 31).toUInt32).toInt32) &&& (7 : Int32)) % (5 : Int32)) + (1 : Int32))), .val (.int ((p5 &&& (1 : Int32)) + (((((p5.toUInt32 >>> ((1 : Int32) &&& 31).toUInt32).toInt32) &&& (7 : Int32)) % (5 : Int32)) + (1 : Int32)))), .val (.int (((p5.toUInt32 >>> ((4 : Int32) &&& 31).toUInt32).toInt32).toInt8.toInt32)), .val (.ref b1), .unset] [])) _
      refine XS.aload X31.here hx rfl (hb hby at_121) rfl rfl ?_
      show Steps p.tables e below (T31.setTop (mkF m 123 #[.val (.int p1), .val (.int p2), .val (.int p3), .val (.int p4), .val (.int p5), .val (.int (p1 &&& (255 : Int32))), .val (.int (p2 &&& (255 : Int32))), .val (.int (p3 &&& (255 : Int32))), .val (.int (p4 &&& (255 : Int32))), .val (.int (p5 &&& (1 : Int32))), .val (.int (((((p5.toUInt32 >>> ((1 : Int32) &&& 31).toUInt32).toInt32) &&& (7 : Int32)) % (5 : Int32)) + (1 : Int32))), .val (.int ((p5 &&& (1 : Int32)) + (((((p5.toUInt32 >>> ((1 : Int32) &&& 31).toUInt32).toInt32) &&& (7 : Int32)) % (5 : Int32)) + (1 : Int32)))), .val (.int (((p5.toUInt32 >>> ((4 : Int32) &&& 31).toUInt32).toInt32).toInt8.toInt32)), .val (.ref b1), .unset] [(.ref b1)])) _
      refine XS.iload X31.here hx rfl (hb hby at_123) rfl ?_
      show Steps p.tables e below (T31.setTop (mkF m 125 #[.val (.int p1), .val (.int p2), .val (.int p3), .val (.int p4), .val (.int p5), .val (.int (p1 &&& (255 : Int32))), .val (.int (p2 &&& (255 : Int32))), .val (.int (p3 &&& (255 : Int32))), .val (.int (p4 &&& (255 : Int32))), .val (.int (p5 &&& (1 : Int32))), .val (.int (((((p5.toUInt32 >>> ((1 : Int32) &&& 31).toUInt32).toInt32) &&& (7 : Int32)) % (5 : Int32)) + (1 : Int32))), .val (.int ((p5 &&& (1 : Int32)) + (((((p5.toUInt32 >>> ((1 : Int32) &&& 31).toUInt32).toInt32) &&& (7 : Int32)) % (5 : Int32)) + (1 : Int32)))), .val (.int (((p5.toUInt32 >>> ((4 : Int32) &&& 31).toUInt32).toInt32).toInt8.toInt32)), .val (.ref b1), .unset] [(.int (p5 &&& (1 : Int32))), (.ref b1)])) _
      refine XS.iconst X31.here hx rfl (hb hby at_125) ?_
      show Steps p.tables e below (T31.setTop (mkF m 126 #[.val (.int p1), .val (.int p2), .val (.int p3), .val (.int p4), .val (.int p5), .val (.int (p1 &&& (255 : Int32))), .val (.int (p2 &&& (255 : Int32))), .val (.int (p3 &&& (255 : Int32))), .val (.int (p4 &&& (255 : Int32))), .val (.int (p5 &&& (1 : Int32))), .val (.int (((((p5.toUInt32 >>> ((1 : Int32) &&& 31).toUInt32).toInt32) &&& (7 : Int32)) % (5 : Int32)) + (1 : Int32))), .val (.int ((p5 &&& (1 : Int32)) + (((((p5.toUInt32 >>> ((1 : Int32) &&& 31).toUInt32).toInt32) &&& (7 : Int32)) % (5 : Int32)) + (1 : Int32)))), .val (.int (((p5.toUInt32 >>> ((4 : Int32) &&& 31).toUInt32).toInt32).toInt8.toInt32)), .val (.ref b1), .unset] [(.int (2 : Int32)), (.int (p5 &&& (1 : Int32))), (.ref b1)])) _
      refine XS.iadd X31.here hx rfl (hb hby at_126) rfl ?_
      show Steps p.tables e below (T31.setTop (mkF m 127 #[.val (.int p1), .val (.int p2), .val (.int p3), .val (.int p4), .val (.int p5), .val (.int (p1 &&& (255 : Int32))), .val (.int (p2 &&& (255 : Int32))), .val (.int (p3 &&& (255 : Int32))), .val (.int (p4 &&& (255 : Int32))), .val (.int (p5 &&& (1 : Int32))), .val (.int (((((p5.toUInt32 >>> ((1 : Int32) &&& 31).toUInt32).toInt32) &&& (7 : Int32)) % (5 : Int32)) + (1 : Int32))), .val (.int ((p5 &&& (1 : Int32)) + (((((p5.toUInt32 >>> ((1 : Int32) &&& 31).toUInt32).toInt32) &&& (7 : Int32)) % (5 : Int32)) + (1 : Int32)))), .val (.int (((p5.toUInt32 >>> ((4 : Int32) &&& 31).toUInt32).toInt32).toInt8.toInt32)), .val (.ref b1), .unset] [(.int ((p5 &&& (1 : Int32)) + (2 : Int32))), (.ref b1)])) _
      refine XS.iload X31.here hx rfl (hb hby at_127) rfl ?_
      show Steps p.tables e below (T31.setTop (mkF m 129 #[.val (.int p1), .val (.int p2), .val (.int p3), .val (.int p4), .val (.int p5), .val (.int (p1 &&& (255 : Int32))), .val (.int (p2 &&& (255 : Int32))), .val (.int (p3 &&& (255 : Int32))), .val (.int (p4 &&& (255 : Int32))), .val (.int (p5 &&& (1 : Int32))), .val (.int (((((p5.toUInt32 >>> ((1 : Int32) &&& 31).toUInt32).toInt32) &&& (7 : Int32)) % (5 : Int32)) + (1 : Int32))), .val (.int ((p5 &&& (1 : Int32)) + (((((p5.toUInt32 >>> ((1 : Int32) &&& 31).toUInt32).toInt32) &&& (7 : Int32)) % (5 : Int32)) + (1 : Int32)))), .val (.int (((p5.toUInt32 >>> ((4 : Int32) &&& 31).toUInt32).toInt32).toInt8.toInt32)), .val (.ref b1), .unset] [(.int (p3 &&& (255 : Int32))), (.int ((p5 &&& (1 : Int32)) + (2 : Int32))), (.ref b1)])) _
      refine XS.i2b X31.here hx rfl (hb hby at_129) rfl ?_
      show Steps p.tables e below (T31.setTop (mkF m 130 #[.val (.int p1), .val (.int p2), .val (.int p3), .val (.int p4), .val (.int p5), .val (.int (p1 &&& (255 : Int32))), .val (.int (p2 &&& (255 : Int32))), .val (.int (p3 &&& (255 : Int32))), .val (.int (p4 &&& (255 : Int32))), .val (.int (p5 &&& (1 : Int32))), .val (.int (((((p5.toUInt32 >>> ((1 : Int32) &&& 31).toUInt32).toInt32) &&& (7 : Int32)) % (5 : Int32)) + (1 : Int32))), .val (.int ((p5 &&& (1 : Int32)) + (((((p5.toUInt32 >>> ((1 : Int32) &&& 31).toUInt32).toInt32) &&& (7 : Int32)) % (5 : Int32)) + (1 : Int32)))), .val (.int (((p5.toUInt32 >>> ((4 : Int32) &&& 31).toUInt32).toInt32).toInt8.toInt32)), .val (.ref b1), .unset] [(.int ((p3 &&& (255 : Int32)).toInt8.toInt32)), (.int ((p5 &&& (1 : Int32)) + (2 : Int32))), (.ref b1)])) _
      refine st33 _ ?_
      show Steps p.tables e below (T33.setTop (mkF m 131 #[.val (.int p1), .val (.int p2), .val (.int p3), .val (.int p4), .val (.int p5), .val (.int (p1 &&& (255 : Int32))), .val (.int (p2 &&& (255 : Int32))), .val (.int (p3 &&& (255 : Int32))), .val (.int (p4 &&& (255 : Int32))), .val (.int (p5 &&& (1 : Int32))), .val (.int (((((p5.toUInt32 >>> ((1 : Int32) &&& 31).toUInt32).toInt32) &&& (7 : Int32)) % (5 : Int32)) + (1 : Int32))), .val (.int ((p5 &&& (1 : Int32)) + (((((p5.toUInt32 >>> ((1 : Int32) &&& 31).toUInt32).toInt32) &&& (7 : Int32)) % (5 : Int32)) + (1 : Int32)))), .val (.int (((p5.toUInt32 >>> ((4 : Int32) &&& 31).toUInt32).toInt32).toInt8.toInt32)), .val (.ref b1), .unset] [])) _
      refine XS.aload X33.here hx rfl (hb hby at_131) rfl rfl ?_
      show Steps p.tables e below (T33.setTop (mkF m 133 #[.val (.int p1), .val (.int p2), .val (.int p3), .val (.int p4), .val (.int p5), .val (.int (p1 &&& (255 : Int32))), .val (.int (p2 &&& (255 : Int32))), .val (.int (p3 &&& (255 : Int32))), .val (.int (p4 &&& (255 : Int32))), .val (.int (p5 &&& (1 : Int32))), .val (.int (((((p5.toUInt32 >>> ((1 : Int32) &&& 31).toUInt32).toInt32) &&& (7 : Int32)) % (5 : Int32)) + (1 : Int32))), .val (.int ((p5 &&& (1 : Int32)) + (((((p5.toUInt32 >>> ((1 : Int32) &&& 31).toUInt32).toInt32) &&& (7 : Int32)) % (5 : Int32)) + (1 : Int32)))), .val (.int (((p5.toUInt32 >>> ((4 : Int32) &&& 31).toUInt32).toInt32).toInt8.toInt32)), .val (.ref b1), .unset] [(.ref b1)])) _
      refine XS.iload X33.here hx rfl (hb hby at_133) rfl ?_
      show Steps p.tables e below (T33.setTop (mkF m 135 #[.val (.int p1), .val (.int p2), .val (.int p3), .val (.int p4), .val (.int p5), .val (.int (p1 &&& (255 : Int32))), .val (.int (p2 &&& (255 : Int32))), .val (.int (p3 &&& (255 : Int32))), .val (.int (p4 &&& (255 : Int32))), .val (.int (p5 &&& (1 : Int32))), .val (.int (((((p5.toUInt32 >>> ((1 : Int32) &&& 31).toUInt32).toInt32) &&& (7 : Int32)) % (5 : Int32)) + (1 : Int32))), .val (.int ((p5 &&& (1 : Int32)) + (((((p5.toUInt32 >>> ((1 : Int32) &&& 31).toUInt32).toInt32) &&& (7 : Int32)) % (5 : Int32)) + (1 : Int32)))), .val (.int (((p5.toUInt32 >>> ((4 : Int32) &&& 31).toUInt32).toInt32).toInt8.toInt32)), .val (.ref b1), .unset] [(.int (p5 &&& (1 : Int32))), (.ref b1)])) _
      refine XS.iconst X33.here hx rfl (hb hby at_135) ?_
      show Steps p.tables e below (T33.setTop (mkF m 136 #[.val (.int p1), .val (.int p2), .val (.int p3), .val (.int p4), .val (.int p5), .val (.int (p1 &&& (255 : Int32))), .val (.int (p2 &&& (255 : Int32))), .val (.int (p3 &&& (255 : Int32))), .val (.int (p4 &&& (255 : Int32))), .val (.int (p5 &&& (1 : Int32))), .val (.int (((((p5.toUInt32 >>> ((1 : Int32) &&& 31).toUInt32).toInt32) &&& (7 : Int32)) % (5 : Int32)) + (1 : Int32))), .val (.int ((p5 &&& (1 : Int32)) + (((((p5.toUInt32 >>> ((1 : Int32) &&& 31).toUInt32).toInt32) &&& (7 : Int32)) % (5 : Int32)) + (1 : Int32)))), .val (.int (((p5.toUInt32 >>> ((4 : Int32) &&& 31).toUInt32).toInt32).toInt8.toInt32)), .val (.ref b1), .unset] [(.int (3 : Int32)), (.int (p5 &&& (1 : Int32))), (.ref b1)])) _
      refine XS.iadd X33.here hx rfl (hb hby at_136) rfl ?_
      show Steps p.tables e below (T33.setTop (mkF m 137 #[.val (.int p1), .val (.int p2), .val (.int p3), .val (.int p4), .val (.int p5), .val (.int (p1 &&& (255 : Int32))), .val (.int (p2 &&& (255 : Int32))), .val (.int (p3 &&& (255 : Int32))), .val (.int (p4 &&& (255 : Int32))), .val (.int (p5 &&& (1 : Int32))), .val (.int (((((p5.toUInt32 >>> ((1 : Int32) &&& 31).toUInt32).toInt32) &&& (7 : Int32)) % (5 : Int32)) + (1 : Int32))), .val (.int ((p5 &&& (1 : Int32)) + (((((p5.toUInt32 >>> ((1 : Int32) &&& 31).toUInt32).toInt32) &&& (7 : Int32)) % (5 : Int32)) + (1 : Int32)))), .val (.int (((p5.toUInt32 >>> ((4 : Int32) &&& 31).toUInt32).toInt32).toInt8.toInt32)), .val (.ref b1), .unset] [(.int ((p5 &&& (1 : Int32)) + (3 : Int32))), (.ref b1)])) _
      refine XS.iload X33.here hx rfl (hb hby at_137) rfl ?_
      show Steps p.tables e below (T33.setTop (mkF m 139 #[.val (.int p1), .val (.int p2), .val (.int p3), .val (.int p4), .val (.int p5), .val (.int (p1 &&& (255 : Int32))), .val (.int (p2 &&& (255 : Int32))), .val (.int (p3 &&& (255 : Int32))), .val (.int (p4 &&& (255 : Int32))), .val (.int (p5 &&& (1 : Int32))), .val (.int (((((p5.toUInt32 >>> ((1 : Int32) &&& 31).toUInt32).toInt32) &&& (7 : Int32)) % (5 : Int32)) + (1 : Int32))), .val (.int ((p5 &&& (1 : Int32)) + (((((p5.toUInt32 >>> ((1 : Int32) &&& 31).toUInt32).toInt32) &&& (7 : Int32)) % (5 : Int32)) + (1 : Int32)))), .val (.int (((p5.toUInt32 >>> ((4 : Int32) &&& 31).toUInt32).toInt32).toInt8.toInt32)), .val (.ref b1), .unset] [(.int (p4 &&& (255 : Int32))), (.int ((p5 &&& (1 : Int32)) + (3 : Int32))), (.ref b1)])) _
      refine XS.i2b X33.here hx rfl (hb hby at_139) rfl ?_
      show Steps p.tables e below (T33.setTop (mkF m 140 #[.val (.int p1), .val (.int p2), .val (.int p3), .val (.int p4), .val (.int p5), .val (.int (p1 &&& (255 : Int32))), .val (.int (p2 &&& (255 : Int32))), .val (.int (p3 &&& (255 : Int32))), .val (.int (p4 &&& (255 : Int32))), .val (.int (p5 &&& (1 : Int32))), .val (.int (((((p5.toUInt32 >>> ((1 : Int32) &&& 31).toUInt32).toInt32) &&& (7 : Int32)) % (5 : Int32)) + (1 : Int32))), .val (.int ((p5 &&& (1 : Int32)) + (((((p5.toUInt32 >>> ((1 : Int32) &&& 31).toUInt32).toInt32) &&& (7 : Int32)) % (5 : Int32)) + (1 : Int32)))), .val (.int (((p5.toUInt32 >>> ((4 : Int32) &&& 31).toUInt32).toInt32).toInt8.toInt32)), .val (.ref b1), .unset] [(.int ((p4 &&& (255 : Int32)).toInt8.toInt32)), (.int ((p5 &&& (1 : Int32)) + (3 : Int32))), (.ref b1)])) _
      refine st35 _ ?_
      show Steps p.tables e below (T35.setTop (mkF m 141 #[.val (.int p1), .val (.int p2), .val (.int p3), .val (.int p4), .val (.int p5), .val (.int (p1 &&& (255 : Int32))), .val (.int (p2 &&& (255 : Int32))), .val (.int (p3 &&& (255 : Int32))), .val (.int (p4 &&& (255 : Int32))), .val (.int (p5 &&& (1 : Int32))), .val (.int (((((p5.toUInt32 >>> ((1 : Int32) &&& 31).toUInt32).toInt32) &&& (7 : Int32)) % (5 : Int32)) + (1 : Int32))), .val (.int ((p5 &&& (1 : Int32)) + (((((p5.toUInt32 >>> ((1 : Int32) &&& 31).toUInt32).toInt32) &&& (7 : Int32)) % (5 : Int32)) + (1 : Int32)))), .val (.int (((p5.toUInt32 >>> ((4 : Int32) &&& 31).toUInt32).toInt32).toInt8.toInt32)), .val (.ref b1), .unset] [])) _
      refine XS.aload X35.here hx rfl (hb hby at_141) rfl rfl ?_
      show Steps p.tables e below (T35.setTop (mkF m 143 #[.val (.int p1), .val (.int p2), .val (.int p3), .val (.int p4), .val (.int p5), .val (.int (p1 &&& (255 : Int32))), .val (.int (p2 &&& (255 : Int32))), .val (.int (p3 &&& (255 : Int32))), .val (.int (p4 &&& (255 : Int32))), .val (.int (p5 &&& (1 : Int32))), .val (.int (((((p5.toUInt32 >>> ((1 : Int32) &&& 31).toUInt32).toInt32) &&& (7 : Int32)) % (5 : Int32)) + (1 : Int32))), .val (.int ((p5 &&& (1 : Int32)) + (((((p5.toUInt32 >>> ((1 : Int32) &&& 31).toUInt32).toInt32) &&& (7 : Int32)) % (5 : Int32)) + (1 : Int32)))), .val (.int (((p5.toUInt32 >>> ((4 : Int32) &&& 31).toUInt32).toInt32).toInt8.toInt32)), .val (.ref b1), .unset] [(.ref b1)])) _
      refine XS.iload X35.here hx rfl (hb hby at_143) rfl ?_
      show Steps p.tables e below (T35.setTop (mkF m 145 #[.val (.int p1), .val (.int p2), .val (.int p3), .val (.int p4), .val (.int p5), .val (.int (p1 &&& (255 : Int32))), .val (.int (p2 &&& (255 : Int32))), .val (.int (p3 &&& (255 : Int32))), .val (.int (p4 &&& (255 : Int32))), .val (.int (p5 &&& (1 : Int32))), .val (.int (((((p5.toUInt32 >>> ((1 : Int32) &&& 31).toUInt32).toInt32) &&& (7 : Int32)) % (5 : Int32)) + (1 : Int32))), .val (.int ((p5 &&& (1 : Int32)) + (((((p5.toUInt32 >>> ((1 : Int32) &&& 31).toUInt32).toInt32) &&& (7 : Int32)) % (5 : Int32)) + (1 : Int32)))), .val (.int (((p5.toUInt32 >>> ((4 : Int32) &&& 31).toUInt32).toInt32).toInt8.toInt32)), .val (.ref b1), .unset] [(.int (p5 &&& (1 : Int32))), (.ref b1)])) _
      refine XS.iload X35.here hx rfl (hb hby at_145) rfl ?_
      show Steps p.tables e below (T35.setTop (mkF m 147 #[.val (.int p1), .val (.int p2), .val (.int p3), .val (.int p4), .val (.int p5), .val (.int (p1 &&& (255 : Int32))), .val (.int (p2 &&& (255 : Int32))), .val (.int (p3 &&& (255 : Int32))), .val (.int (p4 &&& (255 : Int32))), .val (.int (p5 &&& (1 : Int32))), .val (.int (((((p5.toUInt32 >>> ((1 : Int32) &&& 31).toUInt32).toInt32) &&& (7 : Int32)) % (5 : Int32)) + (1 : Int32))), .val (.int ((p5 &&& (1 : Int32)) + (((((p5.toUInt32 >>> ((1 : Int32) &&& 31).toUInt32).toInt32) &&& (7 : Int32)) % (5 : Int32)) + (1 : Int32)))), .val (.int (((p5.toUInt32 >>> ((4 : Int32) &&& 31).toUInt32).toInt32).toInt8.toInt32)), .val (.ref b1), .unset] [(.int ((p5 &&& (1 : Int32)) + (((((p5.toUInt32 >>> ((1 : Int32) &&& 31).toUInt32).toInt32) &&& (7 : Int32)) % (5 : Int32)) + (1 : Int32)))), (.int (p5 &&& (1 : Int32))), (.ref b1)])) _
      refine st37 _ ?_
      show Steps p.tables e below (T37.setTop (mkF m 150 #[.val (.int p1), .val (.int p2), .val (.int p3), .val (.int p4), .val (.int p5), .val (.int (p1 &&& (255 : Int32))), .val (.int (p2 &&& (255 : Int32))), .val (.int (p3 &&& (255 : Int32))), .val (.int (p4 &&& (255 : Int32))), .val (.int (p5 &&& (1 : Int32))), .val (.int (((((p5.toUInt32 >>> ((1 : Int32) &&& 31).toUInt32).toInt32) &&& (7 : Int32)) % (5 : Int32)) + (1 : Int32))), .val (.int ((p5 &&& (1 : Int32)) + (((((p5.toUInt32 >>> ((1 : Int32) &&& 31).toUInt32).toInt32) &&& (7 : Int32)) % (5 : Int32)) + (1 : Int32)))), .val (.int (((p5.toUInt32 >>> ((4 : Int32) &&& 31).toUInt32).toInt32).toInt8.toInt32)), .val (.ref b1), .unset] [(.int (own_wf (p5 &&& (1 : Int32)) ((p5 &&& (1 : Int32)) + (((((p5.toUInt32 >>> ((1 : Int32) &&& 31).toUInt32).toInt32) &&& (7 : Int32)) % (5 : Int32)) + (1 : Int32))) (own_len ((nar .byte ((p1 &&& (255 : Int32)).toInt8.toInt32)) &&& (255 : Int32))) (own_lo ((nar .byte ((p1 &&& (255 : Int32)).toInt8.toInt32)) &&& (255 : Int32))) (own_hi ((nar .byte ((p1 &&& (255 : Int32)).toInt8.toInt32)) &&& (255 : Int32))) ((nar .byte ((p2 &&& (255 : Int32)).toInt8.toInt32)) &&& (255 : Int32)) ((nar .byte ((p3 &&& (255 : Int32)).toInt8.toInt32)) &&& (255 : Int32)) ((nar .byte ((p4 &&& (255 : Int32)).toInt8.toInt32)) &&& (255 : Int32))))])) _
      refine XS.istore X37.here hx rfl (hb hby at_150) rfl (l' := #[.val (.int p1), .val (.int p2), .val (.int p3), .val (.int p4), .val (.int p5), .val (.int (p1 &&& (255 : Int32))), .val (.int (p2 &&& (255 : Int32))), .val (.int (p3 &&& (255 : Int32))), .val (.int (p4 &&& (255 : Int32))), .val (.int (p5 &&& (1 : Int32))), .val (.int (((((p5.toUInt32 >>> ((1 : Int32) &&& 31).toUInt32).toInt32) &&& (7 : Int32)) % (5 : Int32)) + (1 : Int32))), .val (.int ((p5 &&& (1 : Int32)) + (((((p5.toUInt32 >>> ((1 : Int32) &&& 31).toUInt32).toInt32) &&& (7 : Int32)) % (5 : Int32)) + (1 : Int32)))), .val (.int (((p5.toUInt32 >>> ((4 : Int32) &&& 31).toUInt32).toInt32).toInt8.toInt32)), .val (.ref b1), .val (.int (own_wf (p5 &&& (1 : Int32)) ((p5 &&& (1 : Int32)) + (((((p5.toUInt32 >>> ((1 : Int32) &&& 31).toUInt32).toInt32) &&& (7 : Int32)) % (5 : Int32)) + (1 : Int32))) (own_len ((nar .byte ((p1 &&& (255 : Int32)).toInt8.toInt32)) &&& (255 : Int32))) (own_lo ((nar .byte ((p1 &&& (255 : Int32)).toInt8.toInt32)) &&& (255 : Int32))) (own_hi ((nar .byte ((p1 &&& (255 : Int32)).toInt8.toInt32)) &&& (255 : Int32))) ((nar .byte ((p2 &&& (255 : Int32)).toInt8.toInt32)) &&& (255 : Int32)) ((nar .byte ((p3 &&& (255 : Int32)).toInt8.toInt32)) &&& (255 : Int32)) ((nar .byte ((p4 &&& (255 : Int32)).toInt8.toInt32)) &&& (255 : Int32))))]) rfl ?_
      show Steps p.tables e below (T37.setTop (mkF m 152 #[.val (.int p1), .val (.int p2), .val (.int p3), .val (.int p4), .val (.int p5), .val (.int (p1 &&& (255 : Int32))), .val (.int (p2 &&& (255 : Int32))), .val (.int (p3 &&& (255 : Int32))), .val (.int (p4 &&& (255 : Int32))), .val (.int (p5 &&& (1 : Int32))), .val (.int (((((p5.toUInt32 >>> ((1 : Int32) &&& 31).toUInt32).toInt32) &&& (7 : Int32)) % (5 : Int32)) + (1 : Int32))), .val (.int ((p5 &&& (1 : Int32)) + (((((p5.toUInt32 >>> ((1 : Int32) &&& 31).toUInt32).toInt32) &&& (7 : Int32)) % (5 : Int32)) + (1 : Int32)))), .val (.int (((p5.toUInt32 >>> ((4 : Int32) &&& 31).toUInt32).toInt32).toInt8.toInt32)), .val (.ref b1), .val (.int (own_wf (p5 &&& (1 : Int32)) ((p5 &&& (1 : Int32)) + (((((p5.toUInt32 >>> ((1 : Int32) &&& 31).toUInt32).toInt32) &&& (7 : Int32)) % (5 : Int32)) + (1 : Int32))) (own_len ((nar .byte ((p1 &&& (255 : Int32)).toInt8.toInt32)) &&& (255 : Int32))) (own_lo ((nar .byte ((p1 &&& (255 : Int32)).toInt8.toInt32)) &&& (255 : Int32))) (own_hi ((nar .byte ((p1 &&& (255 : Int32)).toInt8.toInt32)) &&& (255 : Int32))) ((nar .byte ((p2 &&& (255 : Int32)).toInt8.toInt32)) &&& (255 : Int32)) ((nar .byte ((p3 &&& (255 : Int32)).toInt8.toInt32)) &&& (255 : Int32)) ((nar .byte ((p4 &&& (255 : Int32)).toInt8.toInt32)) &&& (255 : Int32))))] [])) _
      refine XS.iload X37.here hx rfl (hb hby at_152) rfl ?_
      show Steps p.tables e below (T37.setTop (mkF m 154 #[.val (.int p1), .val (.int p2), .val (.int p3), .val (.int p4), .val (.int p5), .val (.int (p1 &&& (255 : Int32))), .val (.int (p2 &&& (255 : Int32))), .val (.int (p3 &&& (255 : Int32))), .val (.int (p4 &&& (255 : Int32))), .val (.int (p5 &&& (1 : Int32))), .val (.int (((((p5.toUInt32 >>> ((1 : Int32) &&& 31).toUInt32).toInt32) &&& (7 : Int32)) % (5 : Int32)) + (1 : Int32))), .val (.int ((p5 &&& (1 : Int32)) + (((((p5.toUInt32 >>> ((1 : Int32) &&& 31).toUInt32).toInt32) &&& (7 : Int32)) % (5 : Int32)) + (1 : Int32)))), .val (.int (((p5.toUInt32 >>> ((4 : Int32) &&& 31).toUInt32).toInt32).toInt8.toInt32)), .val (.ref b1), .val (.int (own_wf (p5 &&& (1 : Int32)) ((p5 &&& (1 : Int32)) + (((((p5.toUInt32 >>> ((1 : Int32) &&& 31).toUInt32).toInt32) &&& (7 : Int32)) % (5 : Int32)) + (1 : Int32))) (own_len ((nar .byte ((p1 &&& (255 : Int32)).toInt8.toInt32)) &&& (255 : Int32))) (own_lo ((nar .byte ((p1 &&& (255 : Int32)).toInt8.toInt32)) &&& (255 : Int32))) (own_hi ((nar .byte ((p1 &&& (255 : Int32)).toInt8.toInt32)) &&& (255 : Int32))) ((nar .byte ((p2 &&& (255 : Int32)).toInt8.toInt32)) &&& (255 : Int32)) ((nar .byte ((p3 &&& (255 : Int32)).toInt8.toInt32)) &&& (255 : Int32)) ((nar .byte ((p4 &&& (255 : Int32)).toInt8.toInt32)) &&& (255 : Int32))))] [(.int (own_wf (p5 &&& (1 : Int32)) ((p5 &&& (1 : Int32)) + (((((p5.toUInt32 >>> ((1 : Int32) &&& 31).toUInt32).toInt32) &&& (7 : Int32)) % (5 : Int32)) + (1 : Int32))) (own_len ((nar .byte ((p1 &&& (255 : Int32)).toInt8.toInt32)) &&& (255 : Int32))) (own_lo ((nar .byte ((p1 &&& (255 : Int32)).toInt8.toInt32)) &&& (255 : Int32))) (own_hi ((nar .byte ((p1 &&& (255 : Int32)).toInt8.toInt32)) &&& (255 : Int32))) ((nar .byte ((p2 &&& (255 : Int32)).toInt8.toInt32)) &&& (255 : Int32)) ((nar .byte ((p3 &&& (255 : Int32)).toInt8.toInt32)) &&& (255 : Int32)) ((nar .byte ((p4 &&& (255 : Int32)).toInt8.toInt32)) &&& (255 : Int32))))])) _
      refine XS.iload X37.here hx rfl (hb hby at_154) rfl ?_
      show Steps p.tables e below (T37.setTop (mkF m 156 #[.val (.int p1), .val (.int p2), .val (.int p3), .val (.int p4), .val (.int p5), .val (.int (p1 &&& (255 : Int32))), .val (.int (p2 &&& (255 : Int32))), .val (.int (p3 &&& (255 : Int32))), .val (.int (p4 &&& (255 : Int32))), .val (.int (p5 &&& (1 : Int32))), .val (.int (((((p5.toUInt32 >>> ((1 : Int32) &&& 31).toUInt32).toInt32) &&& (7 : Int32)) % (5 : Int32)) + (1 : Int32))), .val (.int ((p5 &&& (1 : Int32)) + (((((p5.toUInt32 >>> ((1 : Int32) &&& 31).toUInt32).toInt32) &&& (7 : Int32)) % (5 : Int32)) + (1 : Int32)))), .val (.int (((p5.toUInt32 >>> ((4 : Int32) &&& 31).toUInt32).toInt32).toInt8.toInt32)), .val (.ref b1), .val (.int (own_wf (p5 &&& (1 : Int32)) ((p5 &&& (1 : Int32)) + (((((p5.toUInt32 >>> ((1 : Int32) &&& 31).toUInt32).toInt32) &&& (7 : Int32)) % (5 : Int32)) + (1 : Int32))) (own_len ((nar .byte ((p1 &&& (255 : Int32)).toInt8.toInt32)) &&& (255 : Int32))) (own_lo ((nar .byte ((p1 &&& (255 : Int32)).toInt8.toInt32)) &&& (255 : Int32))) (own_hi ((nar .byte ((p1 &&& (255 : Int32)).toInt8.toInt32)) &&& (255 : Int32))) ((nar .byte ((p2 &&& (255 : Int32)).toInt8.toInt32)) &&& (255 : Int32)) ((nar .byte ((p3 &&& (255 : Int32)).toInt8.toInt32)) &&& (255 : Int32)) ((nar .byte ((p4 &&& (255 : Int32)).toInt8.toInt32)) &&& (255 : Int32))))] [(.int (p1 &&& (255 : Int32))), (.int (own_wf (p5 &&& (1 : Int32)) ((p5 &&& (1 : Int32)) + (((((p5.toUInt32 >>> ((1 : Int32) &&& 31).toUInt32).toInt32) &&& (7 : Int32)) % (5 : Int32)) + (1 : Int32))) (own_len ((nar .byte ((p1 &&& (255 : Int32)).toInt8.toInt32)) &&& (255 : Int32))) (own_lo ((nar .byte ((p1 &&& (255 : Int32)).toInt8.toInt32)) &&& (255 : Int32))) (own_hi ((nar .byte ((p1 &&& (255 : Int32)).toInt8.toInt32)) &&& (255 : Int32))) ((nar .byte ((p2 &&& (255 : Int32)).toInt8.toInt32)) &&& (255 : Int32)) ((nar .byte ((p3 &&& (255 : Int32)).toInt8.toInt32)) &&& (255 : Int32)) ((nar .byte ((p4 &&& (255 : Int32)).toInt8.toInt32)) &&& (255 : Int32))))])) _
      refine XS.iload X37.here hx rfl (hb hby at_156) rfl ?_
      show Steps p.tables e below (T37.setTop (mkF m 158 #[.val (.int p1), .val (.int p2), .val (.int p3), .val (.int p4), .val (.int p5), .val (.int (p1 &&& (255 : Int32))), .val (.int (p2 &&& (255 : Int32))), .val (.int (p3 &&& (255 : Int32))), .val (.int (p4 &&& (255 : Int32))), .val (.int (p5 &&& (1 : Int32))), .val (.int (((((p5.toUInt32 >>> ((1 : Int32) &&& 31).toUInt32).toInt32) &&& (7 : Int32)) % (5 : Int32)) + (1 : Int32))), .val (.int ((p5 &&& (1 : Int32)) + (((((p5.toUInt32 >>> ((1 : Int32) &&& 31).toUInt32).toInt32) &&& (7 : Int32)) % (5 : Int32)) + (1 : Int32)))), .val (.int (((p5.toUInt32 >>> ((4 : Int32) &&& 31).toUInt32).toInt32).toInt8.toInt32)), .val (.ref b1), .val (.int (own_wf (p5 &&& (1 : Int32)) ((p5 &&& (1 : Int32)) + (((((p5.toUInt32 >>> ((1 : Int32) &&& 31).toUInt32).toInt32) &&& (7 : Int32)) % (5 : Int32)) + (1 : Int32))) (own_len ((nar .byte ((p1 &&& (255 : Int32)).toInt8.toInt32)) &&& (255 : Int32))) (own_lo ((nar .byte ((p1 &&& (255 : Int32)).toInt8.toInt32)) &&& (255 : Int32))) (own_hi ((nar .byte ((p1 &&& (255 : Int32)).toInt8.toInt32)) &&& (255 : Int32))) ((nar .byte ((p2 &&& (255 : Int32)).toInt8.toInt32)) &&& (255 : Int32)) ((nar .byte ((p3 &&& (255 : Int32)).toInt8.toInt32)) &&& (255 : Int32)) ((nar .byte ((p4 &&& (255 : Int32)).toInt8.toInt32)) &&& (255 : Int32))))] [(.int (p2 &&& (255 : Int32))), (.int (p1 &&& (255 : Int32))), (.int (own_wf (p5 &&& (1 : Int32)) ((p5 &&& (1 : Int32)) + (((((p5.toUInt32 >>> ((1 : Int32) &&& 31).toUInt32).toInt32) &&& (7 : Int32)) % (5 : Int32)) + (1 : Int32))) (own_len ((nar .byte ((p1 &&& (255 : Int32)).toInt8.toInt32)) &&& (255 : Int32))) (own_lo ((nar .byte ((p1 &&& (255 : Int32)).toInt8.toInt32)) &&& (255 : Int32))) (own_hi ((nar .byte ((p1 &&& (255 : Int32)).toInt8.toInt32)) &&& (255 : Int32))) ((nar .byte ((p2 &&& (255 : Int32)).toInt8.toInt32)) &&& (255 : Int32)) ((nar .byte ((p3 &&& (255 : Int32)).toInt8.toInt32)) &&& (255 : Int32)) ((nar .byte ((p4 &&& (255 : Int32)).toInt8.toInt32)) &&& (255 : Int32))))])) _
      refine XS.iload X37.here hx rfl (hb hby at_158) rfl ?_
      show Steps p.tables e below (T37.setTop (mkF m 160 #[.val (.int p1), .val (.int p2), .val (.int p3), .val (.int p4), .val (.int p5), .val (.int (p1 &&& (255 : Int32))), .val (.int (p2 &&& (255 : Int32))), .val (.int (p3 &&& (255 : Int32))), .val (.int (p4 &&& (255 : Int32))), .val (.int (p5 &&& (1 : Int32))), .val (.int (((((p5.toUInt32 >>> ((1 : Int32) &&& 31).toUInt32).toInt32) &&& (7 : Int32)) % (5 : Int32)) + (1 : Int32))), .val (.int ((p5 &&& (1 : Int32)) + (((((p5.toUInt32 >>> ((1 : Int32) &&& 31).toUInt32).toInt32) &&& (7 : Int32)) % (5 : Int32)) + (1 : Int32)))), .val (.int (((p5.toUInt32 >>> ((4 : Int32) &&& 31).toUInt32).toInt32).toInt8.toInt32)), .val (.ref b1), .val (.int (own_wf (p5 &&& (1 : Int32)) ((p5 &&& (1 : Int32)) + (((((p5.toUInt32 >>> ((1 : Int32) &&& 31).toUInt32).toInt32) &&& (7 : Int32)) % (5 : Int32)) + (1 : Int32))) (own_len ((nar .byte ((p1 &&& (255 : Int32)).toInt8.toInt32)) &&& (255 : Int32))) (own_lo ((nar .byte ((p1 &&& (255 : Int32)).toInt8.toInt32)) &&& (255 : Int32))) (own_hi ((nar .byte ((p1 &&& (255 : Int32)).toInt8.toInt32)) &&& (255 : Int32))) ((nar .byte ((p2 &&& (255 : Int32)).toInt8.toInt32)) &&& (255 : Int32)) ((nar .byte ((p3 &&& (255 : Int32)).toInt8.toInt32)) &&& (255 : Int32)) ((nar .byte ((p4 &&& (255 : Int32)).toInt8.toInt32)) &&& (255 : Int32))))] [(.int (p3 &&& (255 : Int32))), (.int (p2 &&& (255 : Int32))), (.int (p1 &&& (255 : Int32))), (.int (own_wf (p5 &&& (1 : Int32)) ((p5 &&& (1 : Int32)) + (((((p5.toUInt32 >>> ((1 : Int32) &&& 31).toUInt32).toInt32) &&& (7 : Int32)) % (5 : Int32)) + (1 : Int32))) (own_len ((nar .byte ((p1 &&& (255 : Int32)).toInt8.toInt32)) &&& (255 : Int32))) (own_lo ((nar .byte ((p1 &&& (255 : Int32)).toInt8.toInt32)) &&& (255 : Int32))) (own_hi ((nar .byte ((p1 &&& (255 : Int32)).toInt8.toInt32)) &&& (255 : Int32))) ((nar .byte ((p2 &&& (255 : Int32)).toInt8.toInt32)) &&& (255 : Int32)) ((nar .byte ((p3 &&& (255 : Int32)).toInt8.toInt32)) &&& (255 : Int32)) ((nar .byte ((p4 &&& (255 : Int32)).toInt8.toInt32)) &&& (255 : Int32))))])) _
      refine XS.iload X37.here hx rfl (hb hby at_160) rfl ?_
      show Steps p.tables e below (T37.setTop (mkF m 162 #[.val (.int p1), .val (.int p2), .val (.int p3), .val (.int p4), .val (.int p5), .val (.int (p1 &&& (255 : Int32))), .val (.int (p2 &&& (255 : Int32))), .val (.int (p3 &&& (255 : Int32))), .val (.int (p4 &&& (255 : Int32))), .val (.int (p5 &&& (1 : Int32))), .val (.int (((((p5.toUInt32 >>> ((1 : Int32) &&& 31).toUInt32).toInt32) &&& (7 : Int32)) % (5 : Int32)) + (1 : Int32))), .val (.int ((p5 &&& (1 : Int32)) + (((((p5.toUInt32 >>> ((1 : Int32) &&& 31).toUInt32).toInt32) &&& (7 : Int32)) % (5 : Int32)) + (1 : Int32)))), .val (.int (((p5.toUInt32 >>> ((4 : Int32) &&& 31).toUInt32).toInt32).toInt8.toInt32)), .val (.ref b1), .val (.int (own_wf (p5 &&& (1 : Int32)) ((p5 &&& (1 : Int32)) + (((((p5.toUInt32 >>> ((1 : Int32) &&& 31).toUInt32).toInt32) &&& (7 : Int32)) % (5 : Int32)) + (1 : Int32))) (own_len ((nar .byte ((p1 &&& (255 : Int32)).toInt8.toInt32)) &&& (255 : Int32))) (own_lo ((nar .byte ((p1 &&& (255 : Int32)).toInt8.toInt32)) &&& (255 : Int32))) (own_hi ((nar .byte ((p1 &&& (255 : Int32)).toInt8.toInt32)) &&& (255 : Int32))) ((nar .byte ((p2 &&& (255 : Int32)).toInt8.toInt32)) &&& (255 : Int32)) ((nar .byte ((p3 &&& (255 : Int32)).toInt8.toInt32)) &&& (255 : Int32)) ((nar .byte ((p4 &&& (255 : Int32)).toInt8.toInt32)) &&& (255 : Int32))))] [(.int (p4 &&& (255 : Int32))), (.int (p3 &&& (255 : Int32))), (.int (p2 &&& (255 : Int32))), (.int (p1 &&& (255 : Int32))), (.int (own_wf (p5 &&& (1 : Int32)) ((p5 &&& (1 : Int32)) + (((((p5.toUInt32 >>> ((1 : Int32) &&& 31).toUInt32).toInt32) &&& (7 : Int32)) % (5 : Int32)) + (1 : Int32))) (own_len ((nar .byte ((p1 &&& (255 : Int32)).toInt8.toInt32)) &&& (255 : Int32))) (own_lo ((nar .byte ((p1 &&& (255 : Int32)).toInt8.toInt32)) &&& (255 : Int32))) (own_hi ((nar .byte ((p1 &&& (255 : Int32)).toInt8.toInt32)) &&& (255 : Int32))) ((nar .byte ((p2 &&& (255 : Int32)).toInt8.toInt32)) &&& (255 : Int32)) ((nar .byte ((p3 &&& (255 : Int32)).toInt8.toInt32)) &&& (255 : Int32)) ((nar .byte ((p4 &&& (255 : Int32)).toInt8.toInt32)) &&& (255 : Int32))))])) _
      refine XS.iload X37.here hx rfl (hb hby at_162) rfl ?_
      show Steps p.tables e below (T37.setTop (mkF m 164 #[.val (.int p1), .val (.int p2), .val (.int p3), .val (.int p4), .val (.int p5), .val (.int (p1 &&& (255 : Int32))), .val (.int (p2 &&& (255 : Int32))), .val (.int (p3 &&& (255 : Int32))), .val (.int (p4 &&& (255 : Int32))), .val (.int (p5 &&& (1 : Int32))), .val (.int (((((p5.toUInt32 >>> ((1 : Int32) &&& 31).toUInt32).toInt32) &&& (7 : Int32)) % (5 : Int32)) + (1 : Int32))), .val (.int ((p5 &&& (1 : Int32)) + (((((p5.toUInt32 >>> ((1 : Int32) &&& 31).toUInt32).toInt32) &&& (7 : Int32)) % (5 : Int32)) + (1 : Int32)))), .val (.int (((p5.toUInt32 >>> ((4 : Int32) &&& 31).toUInt32).toInt32).toInt8.toInt32)), .val (.ref b1), .val (.int (own_wf (p5 &&& (1 : Int32)) ((p5 &&& (1 : Int32)) + (((((p5.toUInt32 >>> ((1 : Int32) &&& 31).toUInt32).toInt32) &&& (7 : Int32)) % (5 : Int32)) + (1 : Int32))) (own_len ((nar .byte ((p1 &&& (255 : Int32)).toInt8.toInt32)) &&& (255 : Int32))) (own_lo ((nar .byte ((p1 &&& (255 : Int32)).toInt8.toInt32)) &&& (255 : Int32))) (own_hi ((nar .byte ((p1 &&& (255 : Int32)).toInt8.toInt32)) &&& (255 : Int32))) ((nar .byte ((p2 &&& (255 : Int32)).toInt8.toInt32)) &&& (255 : Int32)) ((nar .byte ((p3 &&& (255 : Int32)).toInt8.toInt32)) &&& (255 : Int32)) ((nar .byte ((p4 &&& (255 : Int32)).toInt8.toInt32)) &&& (255 : Int32))))] [(.int (((((p5.toUInt32 >>> ((1 : Int32) &&& 31).toUInt32).toInt32) &&& (7 : Int32)) % (5 : Int32)) + (1 : Int32))), (.int (p4 &&& (255 : Int32))), (.int (p3 &&& (255 : Int32))), (.int (p2 &&& (255 : Int32))), (.int (p1 &&& (255 : Int32))), (.int (own_wf (p5 &&& (1 : Int32)) ((p5 &&& (1 : Int32)) + (((((p5.toUInt32 >>> ((1 : Int32) &&& 31).toUInt32).toInt32) &&& (7 : Int32)) % (5 : Int32)) + (1 : Int32))) (own_len ((nar .byte ((p1 &&& (255 : Int32)).toInt8.toInt32)) &&& (255 : Int32))) (own_lo ((nar .byte ((p1 &&& (255 : Int32)).toInt8.toInt32)) &&& (255 : Int32))) (own_hi ((nar .byte ((p1 &&& (255 : Int32)).toInt8.toInt32)) &&& (255 : Int32))) ((nar .byte ((p2 &&& (255 : Int32)).toInt8.toInt32)) &&& (255 : Int32)) ((nar .byte ((p3 &&& (255 : Int32)).toInt8.toInt32)) &&& (255 : Int32)) ((nar .byte ((p4 &&& (255 : Int32)).toInt8.toInt32)) &&& (255 : Int32))))])) _
      refine st38 _ ?_
      show Steps p.tables e below (T38.setTop (mkF m 167 #[.val (.int p1), .val (.int p2), .val (.int p3), .val (.int p4), .val (.int p5), .val (.int (p1 &&& (255 : Int32))), .val (.int (p2 &&& (255 : Int32))), .val (.int (p3 &&& (255 : Int32))), .val (.int (p4 &&& (255 : Int32))), .val (.int (p5 &&& (1 : Int32))), .val (.int (((((p5.toUInt32 >>> ((1 : Int32) &&& 31).toUInt32).toInt32) &&& (7 : Int32)) % (5 : Int32)) + (1 : Int32))), .val (.int ((p5 &&& (1 : Int32)) + (((((p5.toUInt32 >>> ((1 : Int32) &&& 31).toUInt32).toInt32) &&& (7 : Int32)) % (5 : Int32)) + (1 : Int32)))), .val (.int (((p5.toUInt32 >>> ((4 : Int32) &&& 31).toUInt32).toInt32).toInt8.toInt32)), .val (.ref b1), .val (.int (own_wf (p5 &&& (1 : Int32)) ((p5 &&& (1 : Int32)) + (((((p5.toUInt32 >>> ((1 : Int32) &&& 31).toUInt32).toInt32) &&& (7 : Int32)) % (5 : Int32)) + (1 : Int32))) (own_len ((nar .byte ((p1 &&& (255 : Int32)).toInt8.toInt32)) &&& (255 : Int32))) (own_lo ((nar .byte ((p1 &&& (255 : Int32)).toInt8.toInt32)) &&& (255 : Int32))) (own_hi ((nar .byte ((p1 &&& (255 : Int32)).toInt8.toInt32)) &&& (255 : Int32))) ((nar .byte ((p2 &&& (255 : Int32)).toInt8.toInt32)) &&& (255 : Int32)) ((nar .byte ((p3 &&& (255 : Int32)).toInt8.toInt32)) &&& (255 : Int32)) ((nar .byte ((p4 &&& (255 : Int32)).toInt8.toInt32)) &&& (255 : Int32))))] [(.int (own_exp (p1 &&& (255 : Int32)) (p2 &&& (255 : Int32)) (p3 &&& (255 : Int32)) (p4 &&& (255 : Int32)) (((((p5.toUInt32 >>> ((1 : Int32) &&& 31).toUInt32).toInt32) &&& (7 : Int32)) % (5 : Int32)) + (1 : Int32)))), (.int (own_wf (p5 &&& (1 : Int32)) ((p5 &&& (1 : Int32)) + (((((p5.toUInt32 >>> ((1 : Int32) &&& 31).toUInt32).toInt32) &&& (7 : Int32)) % (5 : Int32)) + (1 : Int32))) (own_len ((nar .byte ((p1 &&& (255 : Int32)).toInt8.toInt32)) &&& (255 : Int32))) (own_lo ((nar .byte ((p1 &&& (255 : Int32)).toInt8.toInt32)) &&& (255 : Int32))) (own_hi ((nar .byte ((p1 &&& (255 : Int32)).toInt8.toInt32)) &&& (255 : Int32))) ((nar .byte ((p2 &&& (255 : Int32)).toInt8.toInt32)) &&& (255 : Int32)) ((nar .byte ((p3 &&& (255 : Int32)).toInt8.toInt32)) &&& (255 : Int32)) ((nar .byte ((p4 &&& (255 : Int32)).toInt8.toInt32)) &&& (255 : Int32))))])) _
      refine XS.icmpNo X38.here hx rfl (hb hby at_167) rfl (teq (by rw [own_by, own_by, own_by, own_by]; exact own_main (p5 &&& (1 : Int32)) (own_av p5) _ _ _ _ (own_bit p5) (own_avr p5).1 (own_avr p5).2)).2 ?_
      show Steps p.tables e below (T38.setTop (mkF m 170 #[.val (.int p1), .val (.int p2), .val (.int p3), .val (.int p4), .val (.int p5), .val (.int (p1 &&& (255 : Int32))), .val (.int (p2 &&& (255 : Int32))), .val (.int (p3 &&& (255 : Int32))), .val (.int (p4 &&& (255 : Int32))), .val (.int (p5 &&& (1 : Int32))), .val (.int (((((p5.toUInt32 >>> ((1 : Int32) &&& 31).toUInt32).toInt32) &&& (7 : Int32)) % (5 : Int32)) + (1 : Int32))), .val (.int ((p5 &&& (1 : Int32)) + (((((p5.toUInt32 >>> ((1 : Int32) &&& 31).toUInt32).toInt32) &&& (7 : Int32)) % (5 : Int32)) + (1 : Int32)))), .val (.int (((p5.toUInt32 >>> ((4 : Int32) &&& 31).toUInt32).toInt32).toInt8.toInt32)), .val (.ref b1), .val (.int (own_wf (p5 &&& (1 : Int32)) ((p5 &&& (1 : Int32)) + (((((p5.toUInt32 >>> ((1 : Int32) &&& 31).toUInt32).toInt32) &&& (7 : Int32)) % (5 : Int32)) + (1 : Int32))) (own_len ((nar .byte ((p1 &&& (255 : Int32)).toInt8.toInt32)) &&& (255 : Int32))) (own_lo ((nar .byte ((p1 &&& (255 : Int32)).toInt8.toInt32)) &&& (255 : Int32))) (own_hi ((nar .byte ((p1 &&& (255 : Int32)).toInt8.toInt32)) &&& (255 : Int32))) ((nar .byte ((p2 &&& (255 : Int32)).toInt8.toInt32)) &&& (255 : Int32)) ((nar .byte ((p3 &&& (255 : Int32)).toInt8.toInt32)) &&& (255 : Int32)) ((nar .byte ((p4 &&& (255 : Int32)).toInt8.toInt32)) &&& (255 : Int32))))] [])) _
      refine XS.iconst X38.here hx rfl (hb hby at_170) ?_
      show Steps p.tables e below (T38.setTop (mkF m 171 #[.val (.int p1), .val (.int p2), .val (.int p3), .val (.int p4), .val (.int p5), .val (.int (p1 &&& (255 : Int32))), .val (.int (p2 &&& (255 : Int32))), .val (.int (p3 &&& (255 : Int32))), .val (.int (p4 &&& (255 : Int32))), .val (.int (p5 &&& (1 : Int32))), .val (.int (((((p5.toUInt32 >>> ((1 : Int32) &&& 31).toUInt32).toInt32) &&& (7 : Int32)) % (5 : Int32)) + (1 : Int32))), .val (.int ((p5 &&& (1 : Int32)) + (((((p5.toUInt32 >>> ((1 : Int32) &&& 31).toUInt32).toInt32) &&& (7 : Int32)) % (5 : Int32)) + (1 : Int32)))), .val (.int (((p5.toUInt32 >>> ((4 : Int32) &&& 31).toUInt32).toInt32).toInt8.toInt32)), .val (.ref b1), .val (.int (own_wf (p5 &&& (1 : Int32)) ((p5 &&& (1 : Int32)) + (((((p5.toUInt32 >>> ((1 : Int32) &&& 31).toUInt32).toInt32) &&& (7 : Int32)) % (5 : Int32)) + (1 : Int32))) (own_len ((nar .byte ((p1 &&& (255 : Int32)).toInt8.toInt32)) &&& (255 : Int32))) (own_lo ((nar .byte ((p1 &&& (255 : Int32)).toInt8.toInt32)) &&& (255 : Int32))) (own_hi ((nar .byte ((p1 &&& (255 : Int32)).toInt8.toInt32)) &&& (255 : Int32))) ((nar .byte ((p2 &&& (255 : Int32)).toInt8.toInt32)) &&& (255 : Int32)) ((nar .byte ((p3 &&& (255 : Int32)).toInt8.toInt32)) &&& (255 : Int32)) ((nar .byte ((p4 &&& (255 : Int32)).toInt8.toInt32)) &&& (255 : Int32))))] [(.int (1 : Int32))])) _
      refine XS.goto X38.here hx rfl (pc0 := 171) (pc' := 175) rfl (hb hby at_171) (by decide) (by decide) ?_
      exact k)
    obtain ⟨fs40, hr40, hrun40, hended40, hW40, hsame40⟩ := X38.leave (v := some (.int (1 : Int32))) (fun h => by rw [Bd.returns] at h; cases h)
    refine ⟨_, _, pre39 _ ?_, hrun40, hended40, _, _, rfl, ?_, ⟨_, rfl⟩, hW40, hsame40.mono (by decide) (by decide)⟩
    · show Steps p.tables e below (T38.setTop (mkF m 175 #[.val (.int p1), .val (.int p2), .val (.int p3), .val (.int p4), .val (.int p5), .val (.int (p1 &&& (255 : Int32))), .val (.int (p2 &&& (255 : Int32))), .val (.int (p3 &&& (255 : Int32))), .val (.int (p4 &&& (255 : Int32))), .val (.int (p5 &&& (1 : Int32))), .val (.int (((((p5.toUInt32 >>> ((1 : Int32) &&& 31).toUInt32).toInt32) &&& (7 : Int32)) % (5 : Int32)) + (1 : Int32))), .val (.int ((p5 &&& (1 : Int32)) + (((((p5.toUInt32 >>> ((1 : Int32) &&& 31).toUInt32).toInt32) &&& (7 : Int32)) % (5 : Int32)) + (1 : Int32)))), .val (.int (((p5.toUInt32 >>> ((4 : Int32) &&& 31).toUInt32).toInt32).toInt8.toInt32)), .val (.ref b1), .val (.int (own_wf (p5 &&& (1 : Int32)) ((p5 &&& (1 : Int32)) + (((((p5.toUInt32 >>> ((1 : Int32) &&& 31).toUInt32).toInt32) &&& (7 : Int32)) % (5 : Int32)) + (1 : Int32))) (own_len ((nar .byte ((p1 &&& (255 : Int32)).toInt8.toInt32)) &&& (255 : Int32))) (own_lo ((nar .byte ((p1 &&& (255 : Int32)).toInt8.toInt32)) &&& (255 : Int32))) (own_hi ((nar .byte ((p1 &&& (255 : Int32)).toInt8.toInt32)) &&& (255 : Int32))) ((nar .byte ((p2 &&& (255 : Int32)).toInt8.toInt32)) &&& (255 : Int32)) ((nar .byte ((p3 &&& (255 : Int32)).toInt8.toInt32)) &&& (255 : Int32)) ((nar .byte ((p4 &&& (255 : Int32)).toInt8.toInt32)) &&& (255 : Int32))))] [(.int (1 : Int32))])) _
      exact retN X38 hx (t := .boolean) Bd.returns (by simp) (hb hby at_175) hr40
    · show Q0 Z wl wo wh cL cO cH p1 p2 p3 p4 p5 h0 n0 _ T38.heap _
      rw [q38]
      exact ⟨rfl, N38⟩

theorem own_clamp {n : Nat} (h : n < 2 ^ 31) : n.toInt32.toNatClampNeg = n := by
  have e : n.toInt32.toNatClampNeg = n.toInt32.toInt.toNat := rfl
  rw [e, len_toInt h]; rfl
theorem own_alen {args : Array Value} {s : State} {t : Term} {a : Addr} {cl : Cell} {k : Int32} (h : (Jvm.Cond.eq (Jvm.Term.length t) (Jvm.Term.int k)).value args s none s [] = some true) (ev : t.eval args s none [] s = some (.ref a)) (hc : s.heap[a]? = some cl) : cl.slots.size < 2 ^ 31 ∧ cl.slots.size.toInt32 = k := by
  obtain ⟨x, y, e1, e2, -, -⟩ := cmp_v (Or.inl h)
  obtain ⟨a', c', e3, e4, rfl⟩ := Term.length_spec e1
  cases ev.symm.trans e3
  have e5 := (State.arrayAt?_spec e4).1
  cases hc.symm.trans e5
  refine ⟨?_, gotT (Cond.eq_ints e1 (Term.int_eval k)) h⟩
  by_cases hn : cl.slots.size < 2147483648
  · exact hn
  · simp [Term.eval, ev, e4, hn] at e1
theorem own_or {args : Array Value} {s : State} {idx : List Nat} {G X : Jvm.Cond} (h : (Jvm.Cond.or G X).value args s none s idx = some true) : G.value args s none s idx = some true ∨ X.value args s none s idx = some true := by
  simp only [Jvm.Cond.value] at h
  cases hg : G.value args s none s idx with
  | none => simp [hg] at h
  | some b => cases b <;> simp [hg] at h ⊢; exact h
theorem own_sint {args : Array Value} {s : State} {idx : List Nat} {t : Term} {k : Int32} (h : (Jvm.Cond.eq t (Jvm.Term.int k)).value args s none s idx = some true) : t.eval args s none idx s = some (.int k) := by
  obtain ⟨x, y, e1, e2, -, k1⟩ := cmp_v (Or.inl h)
  have e3 : Value.int k = y := Option.some.inj ((Term.int_eval k).symm.trans e2)
  subst e3
  obtain ⟨z, rfl⟩ : ∃ z, x = .int z := k1
  have q := gotT (Cond.eq_ints e1 (Term.int_eval k)) h
  subst q
  exact e1
theorem own_pick {args : Array Value} {s : State} {C n d : String} {a : Addr} {cl : Cell} {b k : Int32} (ev : (Term.static C n d).eval args s none [] s = some (.ref a)) (hc : s.heap[a]? = some cl) (h : (Jvm.Cond.eq (Term.elem (Term.static C n d) (.index 0)) (.int k)).value args s none s [b.toNatClampNeg] = some true) (hb : ¬ b < 0) : own_rd cl b k := by
  have ev' : (Term.static C n d).eval args s none [b.toNatClampNeg] s = some (.ref a) := ev
  exact elem_in (own_sint h) ev' (idx_at hb) hc
theorem own_pick0 {args : Array Value} {s : State} {C n d : String} {a : Addr} {cl : Cell} {b k : Int32} (ev : (Term.static C n d).eval args s none [] s = some (.ref a)) (hc : s.heap[a]? = some cl) (h : (Jvm.Cond.eq (Term.elem (Term.static C n d) (.int b)) (.int k)).value args s none s [] = some true) (hb : ¬ b < 0) : own_rd cl b k := elem_in (own_sint h) ev (Term.int_eval b) hc
set_option maxRecDepth 65536 in
set_option maxHeartbeats 40000000 in
theorem comes_1 {Post : Tables → Env → Array Value → State → Outcome → State → Prop} (hpost : ∀ tb e args s v u, (limb_1_1.after args s (.returned v) u = true ∧ limb_1_2.after args s (.returned v) u = true ∧ True) → FrameEnd s (.returned v) u (Jvm.fieldLocs frame_1_writes args s ++ Jvm.arrayLocs frame_1_arrays args s ++ Jvm.staticLocs frame_1_statics s) 16 128 → Post tb e args s (.returned v) u) :
    ArmFor flags0 classFile x code maxLocals ret World_1 tables_1 room_1 Calls_1 rest_1 Pre_1 Post := by
  intro l hfl _ _ p e ha hc hk s m args below hf hA hF happ hP
  obtain ⟨hcalls, hrest, hpre⟩ := hP
  obtain ⟨-, -, -, hnamed, -, -, -, hat⟩ := (Spec.applies_iff hf).mp happ
  obtain ⟨hg, hn⟩ := and_e (Cond.before_iff.mp (show (Jvm.Cond.and given_1 narrow_1).before args s = true from hpre))
  obtain ⟨gg0, gr0⟩ := and_e hg
  obtain ⟨gg1, gr1⟩ := and_e gr0
  obtain ⟨gg2, gr2⟩ := and_e gr1
  obtain ⟨gg3, gr3⟩ := and_e gr2
  obtain ⟨gg4, gr4⟩ := and_e gr3
  obtain ⟨w0, w1, w2, w3, w4, rfl⟩ : ∃ w0 w1 w2 w3 w4 : Value, args = #[w0, w1, w2, w3, w4] := by
    have hs : args.size = 5 := by simpa [Cond.value, given_1] using gg0
    obtain ⟨L⟩ := args
    match L, hs with
    | [w0, w1, w2, w3, w4], _ => exact ⟨w0, w1, w2, w3, w4, rfl⟩
  have hw := fun d (hd : d ∈ tables_1) => atoms_spec (ws := Jvm.Cond.code x code maxLocals ret :: tables_1) hat d (List.mem_cons_of_mem _ hd)
  have hfit : Fit s := fun {y c} hc i hi => by
    obtain ⟨ha, rfl⟩ := Array.getElem?_eq_some_iff.mp hc
    have q := List.all_eq_true.mp ((Array.all_eq_true_iff_forall_mem.mp hF) _ (Array.getElem_mem ha)) i (List.mem_range.mpr hi)
    simpa [Array.getElem?_eq_getElem hi] using q
  obtain ⟨i0, ei0⟩ := is_v gg1
  obtain rfl : w0 = (.int i0) := Option.some.inj ei0
  obtain ⟨i1, ei1⟩ := is_v gg2
  obtain rfl : w1 = (.int i1) := Option.some.inj ei1
  obtain ⟨i2, ei2⟩ := is_v gg3
  obtain rfl : w2 = (.int i2) := Option.some.inj ei2
  obtain ⟨i3, ei3⟩ := is_v gg4
  obtain rfl : w3 = (.int i3) := Option.some.inj ei3
  obtain ⟨i4, ei4⟩ := is_v gr4
  obtain rfl : w4 = (.int i4) := Option.some.inj ei4
  obtain ⟨c0, rc0⟩ := and_e hn
  obtain ⟨c1, rc1⟩ := and_e rc0
  obtain ⟨c2, rc2⟩ := and_e rc1
  obtain ⟨c3, rc3⟩ := and_e rc2
  obtain ⟨c4, rc4⟩ := and_e rc3
  obtain ⟨c5, rc5⟩ := and_e rc4
  obtain ⟨c6, rc6⟩ := and_e rc5
  obtain ⟨c7, rc7⟩ := and_e rc6
  obtain ⟨c8, rc8⟩ := and_e rc7
  obtain ⟨c9, rc9⟩ := and_e rc8
  obtain ⟨c10, rc10⟩ := and_e rc9
  obtain ⟨c11, rc11⟩ := and_e rc10
  obtain ⟨c12, rc12⟩ := and_e rc11
  obtain ⟨c13, rc13⟩ := and_e rc12
  obtain ⟨c14, rc14⟩ := and_e rc13
  obtain ⟨c15, rc15⟩ := and_e rc14
  obtain ⟨c16, rc16⟩ := and_e rc15
  obtain ⟨c17, rc17⟩ := and_e rc16
  obtain ⟨c18, rc18⟩ := and_e rc17
  obtain ⟨c19, rc19⟩ := and_e rc18
  obtain ⟨c20, rc20⟩ := and_e rc19
  have c21 := rc20
  obtain ⟨wl, evwl⟩ := arr_v c0
  obtain ⟨cL, AL⟩ := Arr.start evwl c0
  have S1 := Sta.start evwl (Or.inr ⟨(hw _ (List.mem_of_getElem? (i := 3) rfl)), (hw _ (List.mem_of_getElem? (i := 6) rfl))⟩)
  obtain ⟨hlwl, hmwl⟩ := own_alen c1 evwl AL.1
  have szwl : cL.slots.size = 256 := by
    have q := own_clamp hlwl
    rw [hmwl] at q
    exact q.symm
  obtain ⟨wo, evwo⟩ := arr_v c2
  obtain ⟨cO, AO⟩ := Arr.start evwo c2
  have S2 := Sta.start evwo (Or.inr ⟨(hw _ (List.mem_of_getElem? (i := 3) rfl)), (hw _ (List.mem_of_getElem? (i := 8) rfl))⟩)
  obtain ⟨hlwo, hmwo⟩ := own_alen c3 evwo AO.1
  have szwo : cO.slots.size = 256 := by
    have q := own_clamp hlwo
    rw [hmwo] at q
    exact q.symm
  obtain ⟨wh, evwh⟩ := arr_v c4
  obtain ⟨cH, AH⟩ := Arr.start evwh c4
  have S3 := Sta.start evwh (Or.inr ⟨(hw _ (List.mem_of_getElem? (i := 3) rfl)), (hw _ (List.mem_of_getElem? (i := 10) rfl))⟩)
  obtain ⟨hlwh, hmwh⟩ := own_alen c5 evwh AH.1
  have szwh : cH.slots.size = 256 := by
    have q := own_clamp hlwh
    rw [hmwh] at q
    exact q.symm
  have HB : ∀ b : Int32, ¬ b < 0 → b < 256 → own_rd cL b (own_len b) ∧ own_rd cO b (own_lo b) ∧ own_rd cH b (own_hi b) := fun b hb1 hb2 => by
    have hb3 := hb1
    have hb4 := hb2
    rw [Int32.lt_iff_toInt_lt] at hb3 hb4
    have e0 : (0 : Int32).toInt = 0 := rfl
    have e256 : (256 : Int32).toInt = 256 := rfl
    have eb : b.toNatClampNeg = b.toInt.toNat := rfl
    have hjwl : b.toNatClampNeg < cL.slots.size := by omega
    have hjwo : b.toNatClampNeg < cO.slots.size := by omega
    have hjwh : b.toNatClampNeg < cH.slots.size := by omega
    refine ⟨?_, ?_, ?_⟩
    · unfold own_len
      have n128 : (128 : Int32).toInt = 128 := rfl
      have n194 : (194 : Int32).toInt = 194 := rfl
      have n223 : (223 : Int32).toInt = 223 := rfl
      have n239 : (239 : Int32).toInt = 239 := rfl
      have n244 : (244 : Int32).toInt = 244 := rfl
      by_cases h1 : b < 128
      · rw [if_pos h1]
        rw [Int32.lt_iff_toInt_lt] at h1
        have x0 := Cond.all_elim evwl (AL.fin (Vm.Alike.refl _)) c6 b.toNatClampNeg hjwl
        rcases own_or x0 with gx | x1
        · have gy := gotT (Cond.le_ints (Term.int_eval 128) (idx_at hb1)) gx
          simp only [Int32.le_iff_toInt_le, Int32.lt_iff_toInt_lt] at gy
          have gz : (128 : Int32).toInt = 128 := rfl
          omega
        exact own_pick evwl AL.1 x1 hb1
      rw [if_neg h1]
      rw [Int32.lt_iff_toInt_lt] at h1
      by_cases h2 : b < 194
      · rw [if_pos h2]
        rw [Int32.lt_iff_toInt_lt] at h2
        have x0 := Cond.all_elim evwl (AL.fin (Vm.Alike.refl _)) c7 b.toNatClampNeg hjwl
        rcases own_or x0 with gx | x1
        · have gy := gotT (Cond.lt_ints (idx_at hb1) (Term.int_eval 128)) gx
          simp only [Int32.le_iff_toInt_le, Int32.lt_iff_toInt_lt] at gy
          have gz : (128 : Int32).toInt = 128 := rfl
          omega
        rcases own_or x1 with gx | x2
        · have gy := gotT (Cond.le_ints (Term.int_eval 194) (idx_at hb1)) gx
          simp only [Int32.le_iff_toInt_le, Int32.lt_iff_toInt_lt] at gy
          have gz : (194 : Int32).toInt = 194 := rfl
          omega
        exact own_pick evwl AL.1 x2 hb1
      rw [if_neg h2]
      rw [Int32.lt_iff_toInt_lt] at h2
      by_cases h3 : 223 < b
      · rw [if_pos h3]
        rw [Int32.lt_iff_toInt_lt] at h3
        by_cases h4 : 239 < b
        · rw [if_pos h4]
          rw [Int32.lt_iff_toInt_lt] at h4
          by_cases h5 : 244 < b
          · rw [if_pos h5]
            rw [Int32.lt_iff_toInt_lt] at h5
            have x0 := Cond.all_elim evwl (AL.fin (Vm.Alike.refl _)) c11 b.toNatClampNeg hjwl
            rcases own_or x0 with gx | x1
            · have gy := gotT (Cond.lt_ints (idx_at hb1) (Term.int_eval 245)) gx
              simp only [Int32.le_iff_toInt_le, Int32.lt_iff_toInt_lt] at gy
              have gz : (245 : Int32).toInt = 245 := rfl
              omega
            exact own_pick evwl AL.1 x1 hb1
          · rw [if_neg h5]
            rw [Int32.lt_iff_toInt_lt] at h5
            have x0 := Cond.all_elim evwl (AL.fin (Vm.Alike.refl _)) c10 b.toNatClampNeg hjwl
            rcases own_or x0 with gx | x1
            · have gy := gotT (Cond.lt_ints (idx_at hb1) (Term.int_eval 240)) gx
              simp only [Int32.le_iff_toInt_le, Int32.lt_iff_toInt_lt] at gy
              have gz : (240 : Int32).toInt = 240 := rfl
              omega
            rcases own_or x1 with gx | x2
            · have gy := gotT (Cond.le_ints (Term.int_eval 245) (idx_at hb1)) gx
              simp only [Int32.le_iff_toInt_le, Int32.lt_iff_toInt_lt] at gy
              have gz : (245 : Int32).toInt = 245 := rfl
              omega
            exact own_pick evwl AL.1 x2 hb1
        · rw [if_neg h4]
          rw [Int32.lt_iff_toInt_lt] at h4
          have x0 := Cond.all_elim evwl (AL.fin (Vm.Alike.refl _)) c9 b.toNatClampNeg hjwl
          rcases own_or x0 with gx | x1
          · have gy := gotT (Cond.lt_ints (idx_at hb1) (Term.int_eval 224)) gx
            simp only [Int32.le_iff_toInt_le, Int32.lt_iff_toInt_lt] at gy
            have gz : (224 : Int32).toInt = 224 := rfl
            omega
          rcases own_or x1 with gx | x2
          · have gy := gotT (Cond.le_ints (Term.int_eval 240) (idx_at hb1)) gx
            simp only [Int32.le_iff_toInt_le, Int32.lt_iff_toInt_lt] at gy
            have gz : (240 : Int32).toInt = 240 := rfl
            omega
          exact own_pick evwl AL.1 x2 hb1
      · rw [if_neg h3]
        rw [Int32.lt_iff_toInt_lt] at h3
        have x0 := Cond.all_elim evwl (AL.fin (Vm.Alike.refl _)) c8 b.toNatClampNeg hjwl
        rcases own_or x0 with gx | x1
        · have gy := gotT (Cond.lt_ints (idx_at hb1) (Term.int_eval 194)) gx
          simp only [Int32.le_iff_toInt_le, Int32.lt_iff_toInt_lt] at gy
          have gz : (194 : Int32).toInt = 194 := rfl
          omega
        rcases own_or x1 with gx | x2
        · have gy := gotT (Cond.le_ints (Term.int_eval 224) (idx_at hb1)) gx
          simp only [Int32.le_iff_toInt_le, Int32.lt_iff_toInt_lt] at gy
          have gz : (224 : Int32).toInt = 224 := rfl
          omega
        exact own_pick evwl AL.1 x2 hb1
    · unfold own_lo
      have n224 : (224 : Int32).toInt = 224 := rfl
      have n240 : (240 : Int32).toInt = 240 := rfl
      by_cases h1 : b = 224
      · rw [if_pos h1, h1]
        exact own_pick0 evwo AO.1 c13 (by decide)
      rw [if_neg h1]
      have g1 : b.toInt ≠ 224 := fun q => h1 (Int32.toInt_inj.mp (q.trans rfl))
      by_cases h2 : b = 240
      · rw [if_pos h2, h2]
        exact own_pick0 evwo AO.1 c15 (by decide)
      rw [if_neg h2]
      have g2 : b.toInt ≠ 240 := fun q => h2 (Int32.toInt_inj.mp (q.trans rfl))
      by_cases h3 : b.toInt < 224
      · have x0 := Cond.all_elim evwo (AO.fin (Vm.Alike.refl _)) c12 b.toNatClampNeg hjwo
        rcases own_or x0 with gx | x1
        · have gy := gotT (Cond.le_ints (Term.int_eval 224) (idx_at hb1)) gx
          simp only [Int32.le_iff_toInt_le, Int32.lt_iff_toInt_lt] at gy
          have gz : (224 : Int32).toInt = 224 := rfl
          omega
        exact own_pick evwo AO.1 x1 hb1
      by_cases h4 : b.toInt < 240
      · have x0 := Cond.all_elim evwo (AO.fin (Vm.Alike.refl _)) c14 b.toNatClampNeg hjwo
        rcases own_or x0 with gx | x1
        · have gy := gotT (Cond.lt_ints (idx_at hb1) (Term.int_eval 225)) gx
          simp only [Int32.le_iff_toInt_le, Int32.lt_iff_toInt_lt] at gy
          have gz : (225 : Int32).toInt = 225 := rfl
          omega
        rcases own_or x1 with gx | x2
        · have gy := gotT (Cond.le_ints (Term.int_eval 240) (idx_at hb1)) gx
          simp only [Int32.le_iff_toInt_le, Int32.lt_iff_toInt_lt] at gy
          have gz : (240 : Int32).toInt = 240 := rfl
          omega
        exact own_pick evwo AO.1 x2 hb1
      have x0 := Cond.all_elim evwo (AO.fin (Vm.Alike.refl _)) c16 b.toNatClampNeg hjwo
      rcases own_or x0 with gx | x1
      · have gy := gotT (Cond.lt_ints (idx_at hb1) (Term.int_eval 241)) gx
        simp only [Int32.le_iff_toInt_le, Int32.lt_iff_toInt_lt] at gy
        have gz : (241 : Int32).toInt = 241 := rfl
        omega
      exact own_pick evwo AO.1 x1 hb1
    · unfold own_hi
      have n237 : (237 : Int32).toInt = 237 := rfl
      have n244 : (244 : Int32).toInt = 244 := rfl
      by_cases h1 : b = 237
      · rw [if_pos h1, h1]
        exact own_pick0 evwh AH.1 c18 (by decide)
      rw [if_neg h1]
      have g1 : b.toInt ≠ 237 := fun q => h1 (Int32.toInt_inj.mp (q.trans rfl))
      by_cases h2 : b = 244
      · rw [if_pos h2, h2]
        exact own_pick0 evwh AH.1 c20 (by decide)
      rw [if_neg h2]
      have g2 : b.toInt ≠ 244 := fun q => h2 (Int32.toInt_inj.mp (q.trans rfl))
      by_cases h3 : b.toInt < 237
      · have x0 := Cond.all_elim evwh (AH.fin (Vm.Alike.refl _)) c17 b.toNatClampNeg hjwh
        rcases own_or x0 with gx | x1
        · have gy := gotT (Cond.le_ints (Term.int_eval 237) (idx_at hb1)) gx
          simp only [Int32.le_iff_toInt_le, Int32.lt_iff_toInt_lt] at gy
          have gz : (237 : Int32).toInt = 237 := rfl
          omega
        exact own_pick evwh AH.1 x1 hb1
      by_cases h4 : b.toInt < 244
      · have x0 := Cond.all_elim evwh (AH.fin (Vm.Alike.refl _)) c19 b.toNatClampNeg hjwh
        rcases own_or x0 with gx | x1
        · have gy := gotT (Cond.lt_ints (idx_at hb1) (Term.int_eval 238)) gx
          simp only [Int32.le_iff_toInt_le, Int32.lt_iff_toInt_lt] at gy
          have gz : (238 : Int32).toInt = 238 := rfl
          omega
        rcases own_or x1 with gx | x2
        · have gy := gotT (Cond.le_ints (Term.int_eval 244) (idx_at hb1)) gx
          simp only [Int32.le_iff_toInt_le, Int32.lt_iff_toInt_lt] at gy
          have gz : (244 : Int32).toInt = 244 := rfl
          omega
        exact own_pick evwh AH.1 x2 hb1
      have x0 := Cond.all_elim evwh (AH.fin (Vm.Alike.refl _)) c21 b.toNatClampNeg hjwh
      rcases own_or x0 with gx | x1
      · have gy := gotT (Cond.lt_ints (idx_at hb1) (Term.int_eval 245)) gx
        simp only [Int32.le_iff_toInt_le, Int32.lt_iff_toInt_lt] at gy
        have gz : (245 : Int32).toInt = 245 := rfl
        omega
      exact own_pick evwh AH.1 x1 hb1
  obtain ⟨n, o, h1, h2, h3, _, L, rfl, ⟨rfl, N⟩, hq⟩ := rm0 l s _ hw tables_1 wl wo wh cL cO cH i0 i1 i2 i3 i4 s.heap s.heap.size (Nat.le_refl _) S1 S2 S3 AL AO AH HB p e ha hc hk s m _ below hf ((Spec.applies_iff_loose hf).mp happ).1 ⟨rfl, State.Warmed39.refl s, rfl⟩ trivial
  refine ⟨n, _, h1, h2, h3, hpost _ _ _ _ _ _ ⟨Cond.after_iff.mpr rfl, Cond.after_iff.mpr (eq_i res_at (Term.int_eval (1)) rfl), trivial⟩ ⟨hq.1, hq.2.1, (hq.2.2.sift fun y hy => Or.inr (N y hy)).mono (by decide) (by decide)⟩⟩
theorem main_1_1 : Claimed_1_1 := comes_1 fun _ _ _ _ _ _ h hF => ⟨h.1, hF⟩
theorem main_1_2 : Claimed_1_2 := comes_1 fun _ _ _ _ _ _ h hF => ⟨h.2.1, hF⟩
end Jvm.Pilot.@@N@@
namespace Jvm.Pilot.@@N@@
open Jvm Jvm.ClassFile Sem Op Lib Jvm.Free Jvm.Stand Jvm.Pilot.@@N@@.Jvm.D
/-! MADE BY PROGRAM (witnessworld.py) out of the Statement's table words and the real class files: 13 classes; the members and pool entries that the words name. The judged class is class 1, her method 1. -/
namespace start1
open Jvm.ClassFile
def u (s : String) : CpInfo := .utf8 (stringToUtf16 s)
/-- a pool by its gaps: so many unusable entries, then the entry; so many at the end -/
def gap : Nat → List CpInfo → List CpInfo
  | 0, r => r
  | n + 1, r => .unusable :: gap n r
def poolList (es : List (Nat × CpInfo)) (last : Nat) : List CpInfo := es.foldr (fun e r => gap e.1 (e.2 :: r)) (gap last [])
def pool (es : List (Nat × CpInfo)) (last : Nat) : Array CpInfo := ⟨poolList es last⟩
def fileOf (pool : Array CpInfo) (this : Nat) (attrs : Array Attribute := #[]) (ms : Array MethodInfo := #[]) (fl : Nat := 33) (sup : Nat := 0) (ifs : Array Nat := #[]) (fds : Array FieldInfo := #[]) : ClassFile where
  minorVersion := 0
  majorVersion := 65
  constantPool := pool
  accessFlags := fl
  thisClass := this
  superClass := sup
  interfaces := ifs
  fields := fds
  methods := ms
  attributes := attrs
def plain (name : String) (sup : Option ClassId) : Class where
  name := name
  kind := .ordinary
  loader := none
  accessFlags := 33
  super := sup
  interfaces := #[]
  cf := none
  fields := #[]
  methods := #[]
  instanceTypes := #[]
  staticTypes := #[]
  resolved := #[]
  callSites := []
  init := .initialized
  statics := none
  mirror := none

def pool0 : Array CpInfo := pool [(5, u "<init>"), (0, u "()V"), (1, .class_ 10), (1, u "java/lang/Object")] 113

def k0m0 : Method := { name := "<init>", desc := "()V", sig := { parameters := [], returnType := none }, accessFlags := 1, code := none }
/-- java/lang/Object -/
def k0 : Class := { plain "java/lang/Object" none with
  accessFlags := 33
  interfaces := #[]
  cf := some (fileOf pool0 8 #[] #[{ accessFlags := 1, nameIndex := 5, descriptorIndex := 6, attributes := #[] }] 33 0 #[] #[])
  fields := #[]
  methods := #[k0m0]
  instanceTypes := #[]
  staticTypes := #[]
  resolved := Array.replicate 124 none
  statics := none }

def pool1 : Array CpInfo := pool [(2, .class_ 4), (1, u "java/lang/Object"), (0, u "<init>"), (0, u "()V"), (0, .methodref 8 9), (0, .class_ 10), (0, .nameAndType 11 12), (0, u "com/example/nearprint/nearprint/cli/Utf8Reader"), (0, u "wellFormed"), (0, u "([BII)I"), (0, .methodref 14 15), (0, .class_ 16), (0, .nameAndType 17 18), (0, u "com/example/nearprint/nearprint/cli/Utf8ReaderWellFormedPinLaw"), (0, u "expected"), (0, u "(IIIII)I"), (0, .methodref 14 20), (0, .nameAndType 21 22), (0, u "cont"), (0, u "(I)Z"), (2, u "law"), (0, u "(IIIII)Z")] 5

def k1m0 : Method := { name := "<init>", desc := "()V", sig := { parameters := [], returnType := none }, accessFlags := 1, code := none }
def k1c1 : Code := { maxStack := 6, maxLocals := 15, code := code, exceptionTable := #[], attributes := #[] }
def k1m1 : Method := { name := "law", desc := "(IIIII)Z", sig := { parameters := [.int, .int, .int, .int, .int], returnType := some .boolean }, accessFlags := 9, code := some k1c1 }
def k1c2 : Code := { maxStack := 2, maxLocals := 1, code := method_3_code, exceptionTable := #[], attributes := #[] }
def k1m2 : Method := { name := "cont", desc := "(I)Z", sig := { parameters := [.int], returnType := some .boolean }, accessFlags := 10, code := some k1c2 }
def k1c3 : Code := { maxStack := 2, maxLocals := 8, code := method_4_code, exceptionTable := #[], attributes := #[] }
def k1m3 : Method := { name := "expected", desc := "(IIIII)I", sig := { parameters := [.int, .int, .int, .int, .int], returnType := some .int }, accessFlags := 10, code := some k1c3 }
/-- com/example/nearprint/nearprint/cli/Utf8ReaderWellFormedPinLaw -/
def k1 : Class := { plain "com/example/nearprint/nearprint/cli/Utf8ReaderWellFormedPinLaw" (some 0) with
  accessFlags := 49
  interfaces := #[]
  cf := some (fileOf pool1 14 #[] #[{ accessFlags := 1, nameIndex := 5, descriptorIndex := 6, attributes := #[] }, { accessFlags := 9, nameIndex := 25, descriptorIndex := 26, attributes := #[] }, { accessFlags := 10, nameIndex := 21, descriptorIndex := 22, attributes := #[] }, { accessFlags := 10, nameIndex := 17, descriptorIndex := 18, attributes := #[] }] 49 2 #[] #[])
  fields := #[]
  methods := #[k1m0, k1m1, k1m2, k1m3]
  instanceTypes := #[]
  staticTypes := #[]
  resolved := Array.replicate 32 none
  statics := none }

def pool2 : Array CpInfo := pool [(1, .class_ 2), (0, u "java/lang/Readable"), (0, .class_ 4), (0, u "java/lang/Object")] 7

/-- java/lang/Readable -/
def k2 : Class := { plain "java/lang/Readable" (some 0) with
  accessFlags := 1537
  interfaces := #[]
  cf := some (fileOf pool2 1 #[] #[] 1537 3 #[] #[])
  fields := #[]
  methods := #[]
  instanceTypes := #[]
  staticTypes := #[]
  resolved := Array.replicate 12 none
  statics := none }

def pool3 : Array CpInfo := pool [(1, .class_ 2), (0, u "java/lang/AutoCloseable"), (0, .class_ 4), (0, u "java/lang/Object")] 7

/-- java/lang/AutoCloseable -/
def k3 : Class := { plain "java/lang/AutoCloseable" (some 0) with
  accessFlags := 1537
  interfaces := #[]
  cf := some (fileOf pool3 1 #[] #[] 1537 3 #[] #[])
  fields := #[]
  methods := #[]
  instanceTypes := #[]
  staticTypes := #[]
  resolved := Array.replicate 12 none
  statics := none }

def pool4 : Array CpInfo := pool [(1, .class_ 2), (0, u "java/io/Closeable"), (0, .class_ 4), (0, u "java/lang/Object"), (0, .class_ 6), (0, u "java/lang/AutoCloseable")] 7

/-- java/io/Closeable -/
def k4 : Class := { plain "java/io/Closeable" (some 0) with
  accessFlags := 1537
  interfaces := #[3]
  cf := some (fileOf pool4 1 #[] #[] 1537 3 #[5] #[])
  fields := #[]
  methods := #[]
  instanceTypes := #[]
  staticTypes := #[]
  resolved := Array.replicate 14 none
  statics := none }

def pool5 : Array CpInfo := pool [(1, .class_ 2), (0, u "java/io/Reader$1"), (2, u "<init>"), (0, u "()V"), (1, .class_ 9), (0, u "java/lang/Object"), (1, .class_ 13), (1, u "java/io/Reader"), (0, u "skipBuffer"), (0, u "[C"), (2, u "lock"), (0, u "Ljava/lang/Object;"), (117, .class_ 138), (0, u "java/lang/Readable"), (0, .class_ 140), (0, u "java/io/Closeable"), (0, u "TRANSFER_BUFFER_SIZE"), (0, u "I"), (2, u "maxSkipBufferSize")] 59

def k5m0 : Method := { name := "<init>", desc := "()V", sig := { parameters := [], returnType := none }, accessFlags := 4, code := none }
/-- java/io/Reader -/
def k5 : Class := { plain "java/io/Reader" (some 0) with
  accessFlags := 1057
  interfaces := #[2, 4]
  cf := some (fileOf pool5 11 #[.nestMembers #[1]] #[{ accessFlags := 4, nameIndex := 5, descriptorIndex := 6, attributes := #[] }] 1057 8 #[137, 139] #[{ accessFlags := 26, nameIndex := 141, descriptorIndex := 142, attributes := #[] }, { accessFlags := 4, nameIndex := 18, descriptorIndex := 19, attributes := #[] }, { accessFlags := 26, nameIndex := 145, descriptorIndex := 142, attributes := #[] }, { accessFlags := 2, nameIndex := 14, descriptorIndex := 15, attributes := #[] }])
  fields := #[{ name := "TRANSFER_BUFFER_SIZE", type := .int, accessFlags := 26, slot := 0, constantValue := 0 }, { name := "lock", type := (.object "java/lang/Object"), accessFlags := 4, slot := 0, constantValue := 0 }, { name := "maxSkipBufferSize", type := .int, accessFlags := 26, slot := 1, constantValue := 0 }, { name := "skipBuffer", type := (.array .char), accessFlags := 2, slot := 1, constantValue := 0 }]
  methods := #[k5m0]
  instanceTypes := #[(.object "java/lang/Object"), (.array .char)]
  staticTypes := #[.int, .int]
  resolved := Array.replicate 205 none
  statics := none }

def pool6 : Array CpInfo := pool [(2, .class_ 4), (1, u "java/io/Reader"), (15, .class_ 22), (1, u "com/example/nearprint/nearprint/cli/Utf8Reader"), (0, u "decoder"), (0, u "Ljava/nio/charset/CharsetDecoder;"), (10, u "in"), (0, u "Ljava/io/InputStream;"), (12, u "bytes"), (0, u "Ljava/nio/ByteBuffer;"), (10, u "chars"), (0, u "Ljava/nio/CharBuffer;"), (2, u "malformed"), (0, u "Z"), (33, u "decoded"), (2, u "endOfInput"), (38, u "wellFormed"), (0, u "([BII)I"), (0, .fieldref 20 145), (0, .nameAndType 146 147), (0, u "LENGTHS"), (0, u "[B"), (11, .fieldref 20 160), (0, .nameAndType 161 162), (0, u "FIRST_LOW"), (0, u "[I"), (0, .fieldref 20 164), (0, .nameAndType 165 162), (0, u "FIRST_HIGH"), (0, u "REPLACEMENT"), (0, u "C"), (1, u "BUFFER_SIZE"), (0, u "I")] 18

def k6c0 : Code := { maxStack := 3, maxLocals := 9, code := prog_68_method_8_code, exceptionTable := #[], attributes := #[] }
def k6m0 : Method := { name := "wellFormed", desc := "([BII)I", sig := { parameters := [(.array .byte), .int, .int], returnType := some .int }, accessFlags := 8, code := some k6c0 }
/-- com/example/nearprint/nearprint/cli/Utf8Reader -/
def k6 : Class := { plain "com/example/nearprint/nearprint/cli/Utf8Reader" (some 5) with
  accessFlags := 48
  interfaces := #[]
  cf := some (fileOf pool6 20 #[] #[{ accessFlags := 8, nameIndex := 142, descriptorIndex := 143, attributes := #[] }] 48 2 #[] #[{ accessFlags := 24, nameIndex := 166, descriptorIndex := 167, attributes := #[] }, { accessFlags := 24, nameIndex := 169, descriptorIndex := 170, attributes := #[] }, { accessFlags := 26, nameIndex := 146, descriptorIndex := 147, attributes := #[] }, { accessFlags := 26, nameIndex := 161, descriptorIndex := 162, attributes := #[] }, { accessFlags := 26, nameIndex := 165, descriptorIndex := 162, attributes := #[] }, { accessFlags := 18, nameIndex := 35, descriptorIndex := 36, attributes := #[] }, { accessFlags := 18, nameIndex := 23, descriptorIndex := 24, attributes := #[] }, { accessFlags := 18, nameIndex := 49, descriptorIndex := 50, attributes := #[] }, { accessFlags := 18, nameIndex := 61, descriptorIndex := 62, attributes := #[] }, { accessFlags := 2, nameIndex := 103, descriptorIndex := 66, attributes := #[] }, { accessFlags := 2, nameIndex := 100, descriptorIndex := 66, attributes := #[] }, { accessFlags := 2, nameIndex := 65, descriptorIndex := 66, attributes := #[] }])
  fields := #[{ name := "REPLACEMENT", type := .char, accessFlags := 24, slot := 0, constantValue := 0 }, { name := "BUFFER_SIZE", type := .int, accessFlags := 24, slot := 1, constantValue := 0 }, { name := "LENGTHS", type := (.array .byte), accessFlags := 26, slot := 2, constantValue := 0 }, { name := "FIRST_LOW", type := (.array .int), accessFlags := 26, slot := 3, constantValue := 0 }, { name := "FIRST_HIGH", type := (.array .int), accessFlags := 26, slot := 4, constantValue := 0 }, { name := "in", type := (.object "java/io/InputStream"), accessFlags := 18, slot := 2, constantValue := 0 }, { name := "decoder", type := (.object "java/nio/charset/CharsetDecoder"), accessFlags := 18, slot := 3, constantValue := 0 }, { name := "bytes", type := (.object "java/nio/ByteBuffer"), accessFlags := 18, slot := 4, constantValue := 0 }, { name := "chars", type := (.object "java/nio/CharBuffer"), accessFlags := 18, slot := 5, constantValue := 0 }, { name := "endOfInput", type := .boolean, accessFlags := 2, slot := 6, constantValue := 0 }, { name := "decoded", type := .boolean, accessFlags := 2, slot := 7, constantValue := 0 }, { name := "malformed", type := .boolean, accessFlags := 2, slot := 8, constantValue := 0 }]
  methods := #[k6m0]
  instanceTypes := #[(.object "java/lang/Object"), (.array .char), (.object "java/io/InputStream"), (.object "java/nio/charset/CharsetDecoder"), (.object "java/nio/ByteBuffer"), (.object "java/nio/CharBuffer"), .boolean, .boolean, .boolean]
  staticTypes := #[.char, .int, (.array .byte), (.array .int), (.array .int)]
  resolved := Array.replicate 189 none
  statics := some 0 }

def pool7 : Array CpInfo := pool [(1, u "java/lang/Cloneable"), (0, .class_ 1), (0, u "java/lang/Object"), (0, .class_ 3)] 3

/-- java/lang/Cloneable -/
def k7 : Class := { plain "java/lang/Cloneable" (some 0) with
  accessFlags := 1537
  interfaces := #[]
  cf := some (fileOf pool7 2 #[] #[] 1537 4 #[] #[])
  fields := #[]
  methods := #[]
  instanceTypes := #[]
  staticTypes := #[]
  resolved := Array.replicate 8 none
  statics := none }

def pool8 : Array CpInfo := pool [(1, u "java/io/Serializable"), (0, .class_ 1), (0, u "java/lang/Object"), (0, .class_ 3)] 3

/-- java/io/Serializable -/
def k8 : Class := { plain "java/io/Serializable" (some 0) with
  accessFlags := 1537
  interfaces := #[]
  cf := some (fileOf pool8 2 #[] #[] 1537 4 #[] #[])
  fields := #[]
  methods := #[]
  instanceTypes := #[]
  staticTypes := #[]
  resolved := Array.replicate 8 none
  statics := none }

/-- the primitive byte -/
def k9 : Class := { plain "byte" none with kind := .primitive 'B', accessFlags := 0x411 }
/-- [B -/
def k10 : Class := { plain "[B" (some 0) with kind := .array 9 .byte, interfaces := #[7, 8], accessFlags := 1041 }

/-- the primitive int -/
def k11 : Class := { plain "int" none with kind := .primitive 'I', accessFlags := 0x411 }
/-- [I -/
def k12 : Class := { plain "[I" (some 0) with kind := .array 11 .int, interfaces := #[7, 8], accessFlags := 1041 }

def heap : Heap := #[{ cls := 6, slots := #[.int 0, .int 0, .ref 1, .ref 2, .ref 3], vm := .statics 6 },
  { cls := 10, slots := #[.int 1, .int 1, .int 1, .int 1, .int 1, .int 1, .int 1, .int 1, .int 1, .int 1, .int 1, .int 1, .int 1, .int 1, .int 1, .int 1, .int 1, .int 1, .int 1, .int 1, .int 1, .int 1, .int 1, .int 1, .int 1, .int 1, .int 1, .int 1, .int 1, .int 1, .int 1, .int 1, .int 1, .int 1, .int 1, .int 1, .int 1, .int 1, .int 1, .int 1, .int 1, .int 1, .int 1, .int 1, .int 1, .int 1, .int 1, .int 1, .int 1, .int 1, .int 1, .int 1, .int 1, .int 1, .int 1, .int 1, .int 1, .int 1, .int 1, .int 1, .int 1, .int 1, .int 1, .int 1, .int 1, .int 1, .int 1, .int 1, .int 1, .int 1, .int 1, .int 1, .int 1, .int 1, .int 1, .int 1, .int 1, .int 1, .int 1, .int 1, .int 1, .int 1, .int 1, .int 1, .int 1, .int 1, .int 1, .int 1, .int 1, .int 1, .int 1, .int 1, .int 1, .int 1, .int 1, .int 1, .int 1, .int 1, .int 1, .int 1, .int 1, .int 1, .int 1, .int 1, .int 1, .int 1, .int 1, .int 1, .int 1, .int 1, .int 1, .int 1, .int 1, .int 1, .int 1, .int 1, .int 1, .int 1, .int 1, .int 1, .int 1, .int 1, .int 1, .int 1, .int 1, .int 1, .int 1, .int 1, .int 0, .int 0, .int 0, .int 0, .int 0, .int 0, .int 0, .int 0, .int 0, .int 0, .int 0, .int 0, .int 0, .int 0, .int 0, .int 0, .int 0, .int 0, .int 0, .int 0, .int 0, .int 0, .int 0, .int 0, .int 0, .int 0, .int 0, .int 0, .int 0, .int 0, .int 0, .int 0, .int 0, .int 0, .int 0, .int 0, .int 0, .int 0, .int 0, .int 0, .int 0, .int 0, .int 0, .int 0, .int 0, .int 0, .int 0, .int 0, .int 0, .int 0, .int 0, .int 0, .int 0, .int 0, .int 0, .int 0, .int 0, .int 0, .int 0, .int 0, .int 0, .int 0, .int 0, .int 0, .int 0, .int 0, .int 2, .int 2, .int 2, .int 2, .int 2, .int 2, .int 2, .int 2, .int 2, .int 2, .int 2, .int 2, .int 2, .int 2, .int 2, .int 2, .int 2, .int 2, .int 2, .int 2, .int 2, .int 2, .int 2, .int 2, .int 2, .int 2, .int 2, .int 2, .int 2, .int 2, .int 3, .int 3, .int 3, .int 3, .int 3, .int 3, .int 3, .int 3, .int 3, .int 3, .int 3, .int 3, .int 3, .int 3, .int 3, .int 3, .int 4, .int 4, .int 4, .int 4, .int 4, .int 0, .int 0, .int 0, .int 0, .int 0, .int 0, .int 0, .int 0, .int 0, .int 0, .int 0], vm := .none },
  { cls := 12, slots := #[.int 128, .int 128, .int 128, .int 128, .int 128, .int 128, .int 128, .int 128, .int 128, .int 128, .int 128, .int 128, .int 128, .int 128, .int 128, .int 128, .int 128, .int 128, .int 128, .int 128, .int 128, .int 128, .int 128, .int 128, .int 128, .int 128, .int 128, .int 128, .int 128, .int 128, .int 128, .int 128, .int 128, .int 128, .int 128, .int 128, .int 128, .int 128, .int 128, .int 128, .int 128, .int 128, .int 128, .int 128, .int 128, .int 128, .int 128, .int 128, .int 128, .int 128, .int 128, .int 128, .int 128, .int 128, .int 128, .int 128, .int 128, .int 128, .int 128, .int 128, .int 128, .int 128, .int 128, .int 128, .int 128, .int 128, .int 128, .int 128, .int 128, .int 128, .int 128, .int 128, .int 128, .int 128, .int 128, .int 128, .int 128, .int 128, .int 128, .int 128, .int 128, .int 128, .int 128, .int 128, .int 128, .int 128, .int 128, .int 128, .int 128, .int 128, .int 128, .int 128, .int 128, .int 128, .int 128, .int 128, .int 128, .int 128, .int 128, .int 128, .int 128, .int 128, .int 128, .int 128, .int 128, .int 128, .int 128, .int 128, .int 128, .int 128, .int 128, .int 128, .int 128, .int 128, .int 128, .int 128, .int 128, .int 128, .int 128, .int 128, .int 128, .int 128, .int 128, .int 128, .int 128, .int 128, .int 128, .int 128, .int 128, .int 128, .int 128, .int 128, .int 128, .int 128, .int 128, .int 128, .int 128, .int 128, .int 128, .int 128, .int 128, .int 128, .int 128, .int 128, .int 128, .int 128, .int 128, .int 128, .int 128, .int 128, .int 128, .int 128, .int 128, .int 128, .int 128, .int 128, .int 128, .int 128, .int 128, .int 128, .int 128, .int 128, .int 128, .int 128, .int 128, .int 128, .int 128, .int 128, .int 128, .int 128, .int 128, .int 128, .int 128, .int 128, .int 128, .int 128, .int 128, .int 128, .int 128, .int 128, .int 128, .int 128, .int 128, .int 128, .int 128, .int 128, .int 128, .int 128, .int 128, .int 128, .int 128, .int 128, .int 128, .int 128, .int 128, .int 128, .int 128, .int 128, .int 128, .int 128, .int 128, .int 128, .int 128, .int 128, .int 128, .int 128, .int 128, .int 128, .int 128, .int 128, .int 128, .int 128, .int 128, .int 128, .int 128, .int 128, .int 128, .int 128, .int 128, .int 128, .int 128, .int 128, .int 128, .int 128, .int 160, .int 128, .int 128, .int 128, .int 128, .int 128, .int 128, .int 128, .int 128, .int 128, .int 128, .int 128, .int 128, .int 128, .int 128, .int 128, .int 144, .int 128, .int 128, .int 128, .int 128, .int 128, .int 128, .int 128, .int 128, .int 128, .int 128, .int 128, .int 128, .int 128, .int 128, .int 128], vm := .none },
  { cls := 12, slots := #[.int 191, .int 191, .int 191, .int 191, .int 191, .int 191, .int 191, .int 191, .int 191, .int 191, .int 191, .int 191, .int 191, .int 191, .int 191, .int 191, .int 191, .int 191, .int 191, .int 191, .int 191, .int 191, .int 191, .int 191, .int 191, .int 191, .int 191, .int 191, .int 191, .int 191, .int 191, .int 191, .int 191, .int 191, .int 191, .int 191, .int 191, .int 191, .int 191, .int 191, .int 191, .int 191, .int 191, .int 191, .int 191, .int 191, .int 191, .int 191, .int 191, .int 191, .int 191, .int 191, .int 191, .int 191, .int 191, .int 191, .int 191, .int 191, .int 191, .int 191, .int 191, .int 191, .int 191, .int 191, .int 191, .int 191, .int 191, .int 191, .int 191, .int 191, .int 191, .int 191, .int 191, .int 191, .int 191, .int 191, .int 191, .int 191, .int 191, .int 191, .int 191, .int 191, .int 191, .int 191, .int 191, .int 191, .int 191, .int 191, .int 191, .int 191, .int 191, .int 191, .int 191, .int 191, .int 191, .int 191, .int 191, .int 191, .int 191, .int 191, .int 191, .int 191, .int 191, .int 191, .int 191, .int 191, .int 191, .int 191, .int 191, .int 191, .int 191, .int 191, .int 191, .int 191, .int 191, .int 191, .int 191, .int 191, .int 191, .int 191, .int 191, .int 191, .int 191, .int 191, .int 191, .int 191, .int 191, .int 191, .int 191, .int 191, .int 191, .int 191, .int 191, .int 191, .int 191, .int 191, .int 191, .int 191, .int 191, .int 191, .int 191, .int 191, .int 191, .int 191, .int 191, .int 191, .int 191, .int 191, .int 191, .int 191, .int 191, .int 191, .int 191, .int 191, .int 191, .int 191, .int 191, .int 191, .int 191, .int 191, .int 191, .int 191, .int 191, .int 191, .int 191, .int 191, .int 191, .int 191, .int 191, .int 191, .int 191, .int 191, .int 191, .int 191, .int 191, .int 191, .int 191, .int 191, .int 191, .int 191, .int 191, .int 191, .int 191, .int 191, .int 191, .int 191, .int 191, .int 191, .int 191, .int 191, .int 191, .int 191, .int 191, .int 191, .int 191, .int 191, .int 191, .int 191, .int 191, .int 191, .int 191, .int 191, .int 191, .int 191, .int 191, .int 191, .int 191, .int 191, .int 191, .int 191, .int 191, .int 191, .int 191, .int 191, .int 191, .int 191, .int 191, .int 191, .int 191, .int 191, .int 191, .int 191, .int 191, .int 191, .int 191, .int 191, .int 191, .int 191, .int 191, .int 191, .int 191, .int 191, .int 191, .int 191, .int 191, .int 191, .int 191, .int 159, .int 191, .int 191, .int 191, .int 191, .int 191, .int 191, .int 143, .int 191, .int 191, .int 191, .int 191, .int 191, .int 191, .int 191, .int 191, .int 191, .int 191, .int 191], vm := .none }]
def classes : Array Class := #[k0, k1, k2, k3, k4, k5, k6, k7, k8, k9, k10, k11, k12]
def interned : List (Array UInt16 × Addr) := []
def slotsUsed : Nat := 773
def theMethod : MethodId := ⟨1, 1⟩
def args0 : Array Value := #[.int 200, .int 130, .int 140, .int 150, .int 7]
def aboutOver (below : List Frame) : State where
  vm := { classes := classes, interned := interned.toArray }
  heap := heap
  slotsUsed := slotsUsed
  threads := #[{ frames := .invoking theMethod args0 :: below }]
def below0 : List Frame := [.native { method := ⟨0, 0⟩, args := #[] }]
def about1 : State := aboutOver below0
def p0 : Program := .bare "" "" ""
def e0 : Env := launch0.env 0 0 0
theorem w_frames : about1.frames = Frame.invoking theMethod args0 :: below0 := rfl
set_option maxRecDepth 65536 in
theorem w_args : argsFit about1.vm theMethod args0 = true := by decide +kernel
set_option maxRecDepth 65536 in
theorem w_heap : heapFits about1 = true := by decide +kernel
set_option maxRecDepth 65536 in
theorem w_runnable : about1.curStatus? = some .runnable := by decide +kernel
set_option maxRecDepth 65536 in
theorem w_alone : about1.alone = true := by decide +kernel
set_option maxRecDepth 65536 in
theorem w_named : about1.methodNamed? x = some theMethod := by decide +kernel
set_option maxRecDepth 65536 in
theorem w_hears : about1.hears theMethod below0 = true := by decide +kernel
set_option maxRecDepth 65536 in
theorem w_ripe : about1.ripe theMethod args0 below0 = true := by decide +kernel
theorem w_running : about1.status = .running := rfl
set_option maxRecDepth 65536 in
theorem w_room : about1.hasRoom e0.platform room_1 = true :=
  launch0.hasRoom_least _ room_1 (by decide +kernel) (by decide +kernel) (by decide +kernel) (by decide +kernel) (by decide +kernel) (by decide +kernel)
theorem allAtoms_all (ts : List Jvm.Cond) (a : Array Jvm.Value) (st : Jvm.State) : (allAtoms ts).before a st = ts.all (fun c => c.before a st) := by
  induction ts with
  | nil => rfl
  | cons c t ih =>
    show (Jvm.Cond.and c (allAtoms t)).before a st = _
    rw [Jvm.Cond.before_and, ih, List.all_cons]
def words1 : List Jvm.Cond := Jvm.Cond.code x code maxLocals ret :: tables_1
/-- a 'code' word, met by the world's own term for the bytes: nothing is compared byte by byte -/
theorem code_word {y : MethodName} {bytes : ByteArray} {mx : Nat} {rt : Option FieldType} {a : Array Value} {s : State} {m : MethodId} {meth : Method} {c : Code} (h1 : s.methodNamed? y = some m) (h2 : s.vm.method? m = some meth) (h3 : meth.code = some c) (h4 : c.code = bytes)
    (h5 : (c.maxLocals == mx && c.exceptionTable.isEmpty && decide (c.maxStack ≤ mostOperands) && decide (meth.sig.returnType = rt) && !meth.locks && decide (parseMethodDescriptor y.desc = some meth.sig)) = true) : (Jvm.Cond.code y bytes mx rt).before a s = true := by
  simp only [Bool.and_eq_true, beq_iff_eq, Bool.not_eq_true', decide_eq_true_eq] at h5
  obtain ⟨⟨⟨⟨⟨g1, g2⟩, g3⟩, g4⟩, g5⟩, g6⟩ := h5
  simp [Cond.before, Cond.holds, Cond.value, h1, h2, h3, h4, g1, g2, g3, g4, g5, g6]
def isCode : Jvm.Cond → Bool
  | .code _ _ _ _ => true
  | _ => false
theorem all_split {L : List Jvm.Cond} {P : Jvm.Cond → Bool} (h1 : L.all (fun c => isCode c || P c) = true) (h2 : ∀ c ∈ L.filter isCode, P c = true) : L.all P = true := by
  refine List.all_eq_true.mpr fun c hc => ?_
  have h := List.all_eq_true.mp h1 c hc
  rcases Bool.eq_false_or_eq_true (isCode c) with hi | hi
  · exact h2 c (List.mem_filter.mpr ⟨hc, hi⟩)
  · simpa [hi] using h
set_option maxRecDepth 65536 in
theorem w_c0 : (Jvm.Cond.code x code maxLocals ret).before args0 about1 = true := code_word (m := ⟨1, 1⟩) (meth := k1m1) (c := k1c1) (by decide +kernel) rfl rfl rfl (by decide +kernel)
set_option maxRecDepth 65536 in
theorem w_c1 : (Jvm.Cond.code ({ cls := "com/example/nearprint/nearprint/cli/Utf8Reader", name := "wellFormed", desc := "([BII)I" } : Jvm.MethodName) prog_68_method_8_code (9 : Nat) (Option.some Jvm.ClassFile.FieldType.int)).before args0 about1 = true := code_word (m := ⟨6, 0⟩) (meth := k6m0) (c := k6c0) (by decide +kernel) rfl rfl rfl (by decide +kernel)
set_option maxRecDepth 65536 in
theorem w_c2 : (Jvm.Cond.code ({ cls := "com/example/nearprint/nearprint/cli/Utf8ReaderWellFormedPinLaw", name := "expected", desc := "(IIIII)I" } : Jvm.MethodName) method_4_code (8 : Nat) (Option.some Jvm.ClassFile.FieldType.int)).before args0 about1 = true := code_word (m := ⟨1, 3⟩) (meth := k1m3) (c := k1c3) (by decide +kernel) rfl rfl rfl (by decide +kernel)
set_option maxRecDepth 65536 in
theorem w_c3 : (Jvm.Cond.code ({ cls := "com/example/nearprint/nearprint/cli/Utf8ReaderWellFormedPinLaw", name := "cont", desc := "(I)Z" } : Jvm.MethodName) method_3_code (1 : Nat) (Option.some Jvm.ClassFile.FieldType.boolean)).before args0 about1 = true := code_word (m := ⟨1, 2⟩) (meth := k1m2) (c := k1c2) (by decide +kernel) rfl rfl rfl (by decide +kernel)
def codes1 : List Jvm.Cond := [Jvm.Cond.code x code maxLocals ret, Jvm.Cond.code ({ cls := "com/example/nearprint/nearprint/cli/Utf8Reader", name := "wellFormed", desc := "([BII)I" } : Jvm.MethodName) prog_68_method_8_code (9 : Nat) (Option.some Jvm.ClassFile.FieldType.int), Jvm.Cond.code ({ cls := "com/example/nearprint/nearprint/cli/Utf8ReaderWellFormedPinLaw", name := "expected", desc := "(IIIII)I" } : Jvm.MethodName) method_4_code (8 : Nat) (Option.some Jvm.ClassFile.FieldType.int), Jvm.Cond.code ({ cls := "com/example/nearprint/nearprint/cli/Utf8ReaderWellFormedPinLaw", name := "cont", desc := "(I)Z" } : Jvm.MethodName) method_3_code (1 : Nat) (Option.some Jvm.ClassFile.FieldType.boolean)]
set_option maxRecDepth 65536 in
theorem codes_eq : words1.filter isCode = codes1 := rfl
theorem w_codes : ∀ c ∈ words1.filter isCode, c.before args0 about1 = true := by
  rw [codes_eq]
  intro c hc
  simp only [codes1, List.mem_cons, List.not_mem_nil, or_false] at hc
  rcases hc with rfl | rfl | rfl | rfl
  · exact w_c0
  · exact w_c1
  · exact w_c2
  · exact w_c3
set_option maxRecDepth 65536 in
theorem w_t1 : words1.all (fun c => isCode c || c.before args0 about1) = true := by decide +kernel
theorem w_tables : (allAtoms (Jvm.Cond.code x code maxLocals ret :: tables_1)).before args0 about1 = true := by
  rw [allAtoms_all]
  show words1.all (fun c => c.before args0 about1) = true
  refine all_split ?_ w_codes
  rw [w_t1]
set_option maxRecDepth 65536 in
theorem w_case : (Jvm.Cond.and given_1 narrow_1).before args0 about1 = true := by decide +kernel
theorem w_applies : (headSpec (Jvm.Cond.code x code maxLocals ret :: tables_1) room_1).applies x e0.platform about1 = true :=
  (Spec.applies_iff w_frames).mpr ⟨w_running, w_runnable, w_alone, w_named, w_hears, w_ripe, w_room, w_tables⟩
theorem atStart : AtStart classFile x code maxLocals ret World_1 tables_1 room_1 Calls_1 rest_1 Pre_1 launch0 p0 e0 about1 theMethod args0 below0 :=
  ⟨lists_1, trivial, launch0.admits_env _ _ _, launch0.least_env, fairChoices_fair.cas, fairChoices_fair.clock, w_frames, w_args, w_heap, w_applies, trivial, trivial, w_case⟩
end start1
theorem witness_1 : WitnessClaimed_1 := ⟨start1.p0, start1.e0, start1.about1, start1.theMethod, start1.args0, start1.below0, start1.atStart⟩
end Jvm.Pilot.@@N@@
