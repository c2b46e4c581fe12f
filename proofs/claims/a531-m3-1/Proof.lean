import JvmDerived
import JvmDerived.Pilot.@@N@@Statement
import JvmDerived.Pilot.@@N@@Code
set_option linter.unusedVariables false
set_option linter.unusedSimpArgs false
set_option maxRecDepth 65536
set_option maxHeartbeats 40000000
namespace Jvm.Pilot.@@N@@
open Jvm Jvm.ClassFile Sem Op Lib Jvm.Free Jvm.Stand Jvm.LawKit Jvm.RoadKit Bundle Jvm.Pilot.@@N@@.Jvm.D
abbrev own_W (Z : State) (a0 : Array Value) : Prop := ∀ d ∈ tables_1, d.before a0 Z = true
abbrev own_st (p : Program) (e : Env) (below : List Frame) (T : State) (g : JFrame) (t : State) : Prop := Steps p.tables e below (T.setTop g) t
abbrev own_c0 : ByteArray := method_2_code
abbrev own_c1 : ByteArray := method_3_code
abbrev own_c2 : ByteArray := method_4_code
abbrev own_c3 : ByteArray := jdk_29_method_65_code
abbrev own_c4 : ByteArray := jdk_29_method_69_code
abbrev own_c5 : ByteArray := jdk_41_method_11_code
abbrev own_c6 : ByteArray := jdk_42_method_155_code
abbrev own_c7 : ByteArray := jdk_52_method_6_code
abbrev own_c8 : ByteArray := jdk_52_method_91_code
abbrev own_c9 : ByteArray := jdk_42_method_154_code
abbrev own_c10 : ByteArray := jdk_42_method_152_code
abbrev own_c11 : ByteArray := jdk_42_method_54_code
abbrev own_c12 : ByteArray := jdk_52_method_5_code
abbrev own_c13 : ByteArray := jdk_52_method_4_code
abbrev own_c14 : ByteArray := jdk_43_method_2_code
abbrev own_c15 : ByteArray := jdk_52_method_83_code
abbrev own_c16 : ByteArray := jdk_42_method_56_code
abbrev own_c17 : ByteArray := jdk_52_method_3_code
abbrev own_c18 : ByteArray := jdk_52_method_2_code
abbrev own_c19 : ByteArray := jdk_52_method_14_code
abbrev own_c20 : ByteArray := jdk_52_method_21_code
abbrev own_c21 : ByteArray := jdk_52_method_16_code
abbrev own_c22 : ByteArray := jdk_52_method_15_code
abbrev own_c23 : ByteArray := jdk_42_method_149_code
abbrev own_c24 : ByteArray := jdk_42_method_3_code
abbrev own_c25 : ByteArray := jdk_68_method_68_code
abbrev own_c26 : ByteArray := jdk_68_method_64_code
abbrev own_c27 : ByteArray := jdk_68_method_6_code
abbrev own_c28 : ByteArray := jdk_67_method_93_code
abbrev own_c29 : ByteArray := jdk_68_method_2_code
abbrev own_c30 : ByteArray := jdk_67_method_2_code
abbrev own_c31 : ByteArray := jdk_48_method_27_code
abbrev own_c32 : ByteArray := jdk_68_method_10_code
abbrev own_c33 : ByteArray := jdk_65_method_121_code
abbrev own_c34 : ByteArray := jdk_68_method_9_code
abbrev own_c35 : ByteArray := jdk_65_method_131_code
abbrev own_c36 : ByteArray := jdk_65_method_133_code
abbrev own_c37 : ByteArray := jdk_65_method_132_code
abbrev own_c38 : ByteArray := jdk_42_method_150_code
abbrev own_c39 : ByteArray := jdk_42_method_53_code
abbrev own_c40 : ByteArray := jdk_67_method_42_code
abbrev own_c41 : ByteArray := jdk_41_method_13_code
abbrev own_c42 : ByteArray := jdk_42_method_157_code
abbrev own_c43 : ByteArray := jdk_52_method_94_code
abbrev own_c44 : ByteArray := jdk_52_method_86_code
abbrev own_c45 : ByteArray := jdk_43_method_50_code
abbrev own_c46 : ByteArray := jdk_68_method_11_code
abbrev own_c47 : ByteArray := jdk_52_method_71_code
abbrev own_c48 : ByteArray := jdk_43_method_3_code
abbrev own_c49 : ByteArray := jdk_68_method_31_code
abbrev own_c50 : ByteArray := jdk_67_method_14_code
abbrev own_c51 : ByteArray := jdk_43_method_4_code
abbrev own_c52 : ByteArray := jdk_43_method_23_code
abbrev own_c53 : ByteArray := jdk_43_method_22_code
abbrev own_c54 : ByteArray := jdk_42_method_80_code
abbrev own_c55 : ByteArray := jdk_42_method_79_code
abbrev own_c56 : ByteArray := prog_5_method_5_code
abbrev own_c57 : ByteArray := method_5_code
abbrev own_D (c : ByteArray) (pc : Nat) (i : Instr) (n : Nat) : Prop := decode c pc = .ok (i, n)
abbrev own_z0 : MethodName := ⟨"com/example/oxpecker/oxpecker/MessageTemplateLiteralPinLaw", "pick", "(I)C"⟩
abbrev own_z1 : MethodName := ⟨"java/lang/String", "<init>", "([C)V"⟩
abbrev own_z2 : MethodName := ⟨"java/lang/String", "<init>", "([CIILjava/lang/Void;)V"⟩
abbrev own_z3 : MethodName := ⟨"java/lang/Object", "<init>", "()V"⟩
abbrev own_z4 : MethodName := ⟨"com/example/oxpecker/oxpecker/MessageTemplate", "literal", "(Ljava/lang/String;)Ljava/lang/String;"⟩
abbrev own_z5 : MethodName := ⟨"java/lang/String", "length", "()I"⟩
abbrev own_z6 : MethodName := ⟨"java/lang/String", "coder", "()B"⟩
abbrev own_z7 : MethodName := ⟨"java/lang/StringBuilder", "<init>", "(I)V"⟩
abbrev own_z8 : MethodName := ⟨"java/lang/AbstractStringBuilder", "<init>", "(I)V"⟩
abbrev own_z9 : MethodName := ⟨"java/lang/StringBuilder", "toString", "()Ljava/lang/String;"⟩
abbrev own_z10 : MethodName := ⟨"java/lang/String", "<init>", "(Ljava/lang/StringBuilder;)V"⟩
abbrev own_z11 : MethodName := ⟨"java/lang/String", "<init>", "(Ljava/lang/AbstractStringBuilder;Ljava/lang/Void;)V"⟩
abbrev own_z12 : MethodName := ⟨"java/lang/AbstractStringBuilder", "getValue", "()[B"⟩
abbrev own_z13 : MethodName := ⟨"java/lang/AbstractStringBuilder", "length", "()I"⟩
abbrev own_z14 : MethodName := ⟨"java/lang/StringBuilder", "length", "()I"⟩
abbrev own_z15 : MethodName := ⟨"java/lang/AbstractStringBuilder", "isLatin1", "()Z"⟩
abbrev own_z16 : MethodName := ⟨"java/util/Arrays", "copyOfRange", "([BII)[B"⟩
abbrev own_z17 : MethodName := ⟨"[B", "clone", "()Ljava/lang/Object;"⟩
abbrev own_z18 : MethodName := ⟨"java/lang/Object", "clone", "()Ljava/lang/Object;"⟩
abbrev own_z19 : MethodName := ⟨"java/lang/StringUTF16", "compress", "([CII)[B"⟩
abbrev own_z20 : MethodName := ⟨"java/lang/StringUTF16", "compress", "([CI[BII)I"⟩
abbrev own_z21 : MethodName := ⟨"java/lang/StringUTF16", "coderFromArrayLen", "([BI)B"⟩
abbrev own_z22 : MethodName := ⟨"java/lang/String", "charAt", "(I)C"⟩
abbrev own_z23 : MethodName := ⟨"java/lang/String", "isLatin1", "()Z"⟩
abbrev own_z24 : MethodName := ⟨"java/lang/StringLatin1", "charAt", "([BI)C"⟩
abbrev own_z25 : MethodName := ⟨"java/lang/String", "checkIndex", "(II)V"⟩
abbrev own_z26 : MethodName := ⟨"jdk/internal/util/Preconditions", "checkIndex", "(IILjava/util/function/BiFunction;)I"⟩
abbrev own_z27 : MethodName := ⟨"java/lang/String", "indexOf", "(I)I"⟩
abbrev own_z28 : MethodName := ⟨"java/lang/String", "indexOf", "(II)I"⟩
abbrev own_z29 : MethodName := ⟨"java/lang/StringLatin1", "indexOf", "([BIII)I"⟩
abbrev own_z30 : MethodName := ⟨"java/lang/StringLatin1", "canEncode", "(I)Z"⟩
abbrev own_z31 : MethodName := ⟨"java/lang/Math", "max", "(II)I"⟩
abbrev own_z32 : MethodName := ⟨"java/lang/Math", "min", "(II)I"⟩
abbrev own_z33 : MethodName := ⟨"java/lang/StringLatin1", "indexOfChar", "([BIII)I"⟩
abbrev own_z34 : MethodName := ⟨"java/lang/StringBuilder", "append", "(C)Ljava/lang/StringBuilder;"⟩
abbrev own_z35 : MethodName := ⟨"java/lang/AbstractStringBuilder", "append", "(C)Ljava/lang/AbstractStringBuilder;"⟩
abbrev own_z36 : MethodName := ⟨"java/lang/AbstractStringBuilder", "ensureCapacityInternal", "(I)V"⟩
abbrev own_z37 : MethodName := ⟨"java/lang/StringLatin1", "canEncode", "(C)Z"⟩
abbrev own_z38 : MethodName := ⟨"com/example/oxpecker/oxpecker/MessageTemplateLiteralPinLaw", "w", "(C)I"⟩
abbrev own_z39 : MethodName := ⟨"com/example/oxpecker/oxpecker/MessageTemplateLiteralPinLaw", "special", "(C)Z"⟩
abbrev own_z40 : MethodName := ⟨"com/example/oxpecker/oxpecker/MessageTemplateLiteralPinLaw", "at", "(Ljava/lang/String;IC)Z"⟩
abbrev own_z41 : MethodName := ⟨"java/lang/AbstractStringBuilder", "newCapacity", "(I)I"⟩
abbrev own_z42 : MethodName := ⟨"jdk/internal/util/ArraysSupport", "newLength", "(III)I"⟩
abbrev own_z43 : MethodName := ⟨"java/util/Arrays", "copyOf", "([BI)[B"⟩
abbrev own_z44 : MethodName := ⟨"java/lang/System", "arraycopy", "(Ljava/lang/Object;ILjava/lang/Object;II)V"⟩
abbrev own_z45 : MethodName := ⟨"java/util/Arrays", "copyOfRangeByte", "([BII)[B"⟩
abbrev own_z46 : MethodName := ⟨"java/util/Arrays", "checkLength", "(II)V"⟩
abbrev own_z47 : MethodName := ⟨"java/lang/StringUTF16", "toBytes", "([CII)[B"⟩
abbrev own_z48 : MethodName := ⟨"java/lang/StringUTF16", "newBytesFor", "(I)[B"⟩
abbrev own_z49 : MethodName := ⟨"java/lang/StringUTF16", "newBytesLength", "(I)I"⟩
abbrev own_z50 : MethodName := ⟨"java/lang/StringUTF16", "putChar", "([BII)V"⟩
abbrev own_z51 : MethodName := ⟨"java/lang/StringUTF16", "getChar", "([BI)C"⟩
abbrev own_z52 : MethodName := ⟨"java/lang/StringUTF16", "charAt", "([BI)C"⟩
abbrev own_z53 : MethodName := ⟨"java/lang/StringUTF16", "checkIndex", "(I[B)V"⟩
abbrev own_z54 : MethodName := ⟨"java/lang/StringUTF16", "length", "([B)I"⟩
abbrev own_z55 : MethodName := ⟨"java/lang/AbstractStringBuilder", "inflate", "()V"⟩
abbrev own_z56 : MethodName := ⟨"java/lang/StringLatin1", "inflate", "([BI[BII)V"⟩
abbrev own_z57 : MethodName := ⟨"java/lang/StringUTF16", "inflate", "([BI[BII)V"⟩
abbrev own_z58 : MethodName := ⟨"java/lang/StringUTF16", "checkBoundsOffCount", "(II[B)V"⟩
abbrev own_z59 : MethodName := ⟨"java/lang/String", "checkBoundsOffCount", "(III)I"⟩
abbrev own_z60 : MethodName := ⟨"jdk/internal/util/Preconditions", "checkFromIndexSize", "(IIILjava/util/function/BiFunction;)I"⟩
abbrev own_z61 : MethodName := ⟨"java/lang/StringUTF16", "putCharSB", "([BII)V"⟩
theorem own_cat {v : Value} (h : v.isRef = true) : v.category = 1 := by rcases ref_cases h with rfl | ⟨_, rfl⟩ <;> rfl
theorem own_store {l : Array Slot} {i : Nat} {v : Value} {o : Slot} (ho : One o) (hv : v.category = 1) (hold : l[i]? = some o := by rfl) : storeLocals l i v = some (l.setIfInBounds i (.val v)) := XS.store1 hold ho hv

abbrev own_M (l : Launch) (Z : State) (y : MethodName) (bytes : ByteArray) (ml : Nat) (rt : Option FieldType) (rm : Room) (ws : List Jvm.Cond) (as' : Array Value) (h0 : Heap) (Q : Option Value → Heap → List Loc → Prop) : Prop := MetFree l y (head1 (Jvm.Cond.code y bytes ml rt :: ws) rm) (fun a U => a = as' ∧ Z.Warmed39 U.vm ∧ U.heap = h0) (fun _ _ _ _ _ => True) (fun _ U o U' => ∃ v L, o = .returned v ∧ Q v U'.heap L ∧ FrameEnd U o U' L rm.cells rm.slots)
abbrev own_B (Z : State) (a0 : Array Value) (d : Jvm.Cond) : Prop := d.before a0 Z = true
section
variable {Z : State} {a0 : Array Value}
theorem own_hw (hw : own_W Z a0) (i : Nat) {d : Jvm.Cond} (h : tables_1[i]? = some d) : d.before a0 Z = true := hw _ (List.mem_of_getElem? h)
theorem wd0 (hw : own_W Z a0) : own_B Z a0 (.methodLink "com/example/oxpecker/oxpecker/MessageTemplateLiteralPinLaw" 21 own_z0) := own_hw hw 0 rfl
theorem wd1 (hw : own_W Z a0) : own_B Z a0 (.static own_z0) := own_hw hw 1 rfl
theorem wd2 (hw : own_W Z a0) : own_B Z a0 (.initialized "com/example/oxpecker/oxpecker/MessageTemplateLiteralPinLaw") := own_hw hw 2 rfl
theorem wd3 (hw : own_W Z a0) : own_B Z a0 (.code own_z0 own_c0 2 (Option.some Jvm.ClassFile.FieldType.char)) := own_hw hw 3 rfl
theorem wd4 (hw : own_W Z a0) : own_B Z a0 (.constant "com/example/oxpecker/oxpecker/MessageTemplateLiteralPinLaw" 7 (65536 : Int32)) := own_hw hw 4 rfl
theorem wd5 (hw : own_W Z a0) : own_B Z a0 (.constant "com/example/oxpecker/oxpecker/MessageTemplateLiteralPinLaw" 8 (65535 : Int32)) := own_hw hw 5 rfl
theorem wd6 (hw : own_W Z a0) : own_B Z a0 (.classLink "com/example/oxpecker/oxpecker/MessageTemplateLiteralPinLaw" 16 "java/lang/String") := own_hw hw 6 rfl
theorem wd7 (hw : own_W Z a0) : own_B Z a0 (.instantiable "java/lang/String" 4) := own_hw hw 7 rfl
theorem wd8 (hw : own_W Z a0) : own_B Z a0 (.initialized "java/lang/String") := own_hw hw 8 rfl
theorem wd9 (hw : own_W Z a0) : own_B Z a0 (.arrayClass Jvm.ClassFile.FieldType.char) := own_hw hw 9 rfl
theorem wd10 (hw : own_W Z a0) : own_B Z a0 (.methodLink "com/example/oxpecker/oxpecker/MessageTemplateLiteralPinLaw" 24 own_z1) := own_hw hw 10 rfl
theorem wd11 (hw : own_W Z a0) : own_B Z a0 (.instanceMethod own_z1) := own_hw hw 11 rfl
theorem wd12 (hw : own_W Z a0) : own_B Z a0 (.code own_z1 own_c24 2 (Option.none : Option Jvm.ClassFile.FieldType)) := own_hw hw 12 rfl
theorem wd13 (hw : own_W Z a0) : own_B Z a0 (.methodLink "java/lang/String" 27 own_z2) := own_hw hw 13 rfl
theorem wd14 (hw : own_W Z a0) : own_B Z a0 (.instanceMethod own_z2) := own_hw hw 14 rfl
theorem wd16 (hw : own_W Z a0) : own_B Z a0 (.code own_z2 own_c23 6 (Option.none : Option Jvm.ClassFile.FieldType)) := own_hw hw 16 rfl
theorem wd17 (hw : own_W Z a0) : own_B Z a0 (.methodLink "java/lang/String" 1 own_z3) := own_hw hw 17 rfl
theorem wd18 (hw : own_W Z a0) : own_B Z a0 (.instanceMethod own_z3) := own_hw hw 18 rfl
theorem wd19 (hw : own_W Z a0) : own_B Z a0 (.code own_z3 object_method_1_code 1 (Option.none : Option Jvm.ClassFile.FieldType)) := own_hw hw 19 rfl
theorem wd20 (hw : own_W Z a0) : own_B Z a0 (.stringLink "java/lang/String" 7 "") := own_hw hw 20 rfl
theorem wd21 (hw : own_W Z a0) : own_B Z a0 (.arrayClass Jvm.ClassFile.FieldType.byte) := own_hw hw 21 rfl
theorem wd22 (hw : own_W Z a0) : own_B Z a0 (.laysFinal "java/lang/String" "java/lang/String" "value" "[B") := own_hw hw 22 rfl
theorem wd23 (hw : own_W Z a0) : own_B Z a0 (.laysFinal "java/lang/String" "java/lang/String" "coder" "B") := own_hw hw 23 rfl
theorem wd26 (hw : own_W Z a0) : own_B Z a0 (.fieldLink "java/lang/String" 9 "java/lang/String" "value" "[B") := own_hw hw 26 rfl
theorem wd27 (hw : own_W Z a0) : own_B Z a0 (.fieldLink "java/lang/String" 15 "java/lang/String" "coder" "B") := own_hw hw 27 rfl
theorem wd28 (hw : own_W Z a0) : own_B Z a0 (.methodLink "com/example/oxpecker/oxpecker/MessageTemplateLiteralPinLaw" 27 own_z4) := own_hw hw 28 rfl
theorem wd29 (hw : own_W Z a0) : own_B Z a0 (.static own_z4) := own_hw hw 29 rfl
theorem wd30 (hw : own_W Z a0) : own_B Z a0 (.initialized "com/example/oxpecker/oxpecker/MessageTemplate") := own_hw hw 30 rfl
theorem wd31 (hw : own_W Z a0) : own_B Z a0 (.code own_z4 own_c56 4 (Option.some (Jvm.ClassFile.FieldType.object "java/lang/String"))) := own_hw hw 31 rfl
theorem wd32 (hw : own_W Z a0) : own_B Z a0 (.classLink "com/example/oxpecker/oxpecker/MessageTemplate" 41 "java/lang/StringBuilder") := own_hw hw 32 rfl
theorem wd33 (hw : own_W Z a0) : own_B Z a0 (.instantiable "java/lang/StringBuilder" 4) := own_hw hw 33 rfl
theorem wd34 (hw : own_W Z a0) : own_B Z a0 (.initialized "java/lang/StringBuilder") := own_hw hw 34 rfl
theorem wd35 (hw : own_W Z a0) : own_B Z a0 (.methodLink "com/example/oxpecker/oxpecker/MessageTemplate" 19 own_z5) := own_hw hw 35 rfl
theorem wd36 (hw : own_W Z a0) : own_B Z a0 (.declares own_z5) := own_hw hw 36 rfl
theorem wd37 (hw : own_W Z a0) : own_B Z a0 (.instanceMethod own_z5) := own_hw hw 37 rfl
theorem wd38 (hw : own_W Z a0) : own_B Z a0 (.selects "java/lang/String" own_z5 own_z5) := own_hw hw 38 rfl
theorem wd39 (hw : own_W Z a0) : own_B Z a0 (.code own_z5 own_c11 1 (Option.some Jvm.ClassFile.FieldType.int)) := own_hw hw 39 rfl
theorem wd40 (hw : own_W Z a0) : own_B Z a0 (.methodLink "java/lang/String" 335 own_z6) := own_hw hw 40 rfl
theorem wd41 (hw : own_W Z a0) : own_B Z a0 (.declares own_z6) := own_hw hw 41 rfl
theorem wd42 (hw : own_W Z a0) : own_B Z a0 (.instanceMethod own_z6) := own_hw hw 42 rfl
theorem wd43 (hw : own_W Z a0) : own_B Z a0 (.selects "java/lang/String" own_z6 own_z6) := own_hw hw 43 rfl
theorem wd44 (hw : own_W Z a0) : own_B Z a0 (.code own_z6 own_c10 1 (Option.some Jvm.ClassFile.FieldType.byte)) := own_hw hw 44 rfl
theorem wd45 (hw : own_W Z a0) : own_B Z a0 (.fieldLink "java/lang/String" 38 "java/lang/String" "COMPACT_STRINGS" "Z") := own_hw hw 45 rfl
theorem wd46 (hw : own_W Z a0) : own_B Z a0 (.methodLink "com/example/oxpecker/oxpecker/MessageTemplate" 43 own_z7) := own_hw hw 46 rfl
theorem wd47 (hw : own_W Z a0) : own_B Z a0 (.instanceMethod own_z7) := own_hw hw 47 rfl
theorem wd48 (hw : own_W Z a0) : own_B Z a0 (.code own_z7 own_c30 2 (Option.none : Option Jvm.ClassFile.FieldType)) := own_hw hw 48 rfl
theorem wd49 (hw : own_W Z a0) : own_B Z a0 (.methodLink "java/lang/StringBuilder" 1 own_z8) := own_hw hw 49 rfl
theorem wd50 (hw : own_W Z a0) : own_B Z a0 (.instanceMethod own_z8) := own_hw hw 50 rfl
theorem wd53 (hw : own_W Z a0) : own_B Z a0 (.initialized "java/lang/AbstractStringBuilder") := own_hw hw 53 rfl
theorem wd54 (hw : own_W Z a0) : own_B Z a0 (.code own_z8 own_c29 2 (Option.none : Option Jvm.ClassFile.FieldType)) := own_hw hw 54 rfl
theorem wd55 (hw : own_W Z a0) : own_B Z a0 (.methodLink "java/lang/AbstractStringBuilder" 3 own_z3) := own_hw hw 55 rfl
theorem wd56 (hw : own_W Z a0) : own_B Z a0 (.fieldLink "java/lang/AbstractStringBuilder" 18 "java/lang/String" "COMPACT_STRINGS" "Z") := own_hw hw 56 rfl
theorem wd57 (hw : own_W Z a0) : own_B Z a0 (.fieldLink "java/lang/AbstractStringBuilder" 15 "java/lang/AbstractStringBuilder" "value" "[B") := own_hw hw 57 rfl
theorem wd58 (hw : own_W Z a0) : own_B Z a0 (.lays "java/lang/StringBuilder" "java/lang/AbstractStringBuilder" "value" "[B") := own_hw hw 58 rfl
theorem wd59 (hw : own_W Z a0) : own_B Z a0 (.fieldLink "java/lang/AbstractStringBuilder" 22 "java/lang/AbstractStringBuilder" "coder" "B") := own_hw hw 59 rfl
theorem wd60 (hw : own_W Z a0) : own_B Z a0 (.lays "java/lang/StringBuilder" "java/lang/AbstractStringBuilder" "coder" "B") := own_hw hw 60 rfl
theorem wd61 (hw : own_W Z a0) : own_B Z a0 (.methodLink "com/example/oxpecker/oxpecker/MessageTemplate" 53 own_z9) := own_hw hw 61 rfl
theorem wd62 (hw : own_W Z a0) : own_B Z a0 (.declares own_z9) := own_hw hw 62 rfl
theorem wd63 (hw : own_W Z a0) : own_B Z a0 (.instanceMethod own_z9) := own_hw hw 63 rfl
theorem wd64 (hw : own_W Z a0) : own_B Z a0 (.selects "java/lang/StringBuilder" own_z9 own_z9) := own_hw hw 64 rfl
theorem wd65 (hw : own_W Z a0) : own_B Z a0 (.code own_z9 own_c40 1 (Option.some (Jvm.ClassFile.FieldType.object "java/lang/String"))) := own_hw hw 65 rfl
theorem wd66 (hw : own_W Z a0) : own_B Z a0 (.classLink "java/lang/StringBuilder" 18 "java/lang/String") := own_hw hw 66 rfl
theorem wd67 (hw : own_W Z a0) : own_B Z a0 (.methodLink "java/lang/StringBuilder" 137 own_z10) := own_hw hw 67 rfl
theorem wd68 (hw : own_W Z a0) : own_B Z a0 (.instanceMethod own_z10) := own_hw hw 68 rfl
theorem wd69 (hw : own_W Z a0) : own_B Z a0 (.code own_z10 own_c39 2 (Option.none : Option Jvm.ClassFile.FieldType)) := own_hw hw 69 rfl
theorem wd70 (hw : own_W Z a0) : own_B Z a0 (.methodLink "java/lang/String" 489 own_z11) := own_hw hw 70 rfl
theorem wd71 (hw : own_W Z a0) : own_B Z a0 (.instanceMethod own_z11) := own_hw hw 71 rfl
theorem wd72 (hw : own_W Z a0) : own_B Z a0 (.code own_z11 own_c38 5 (Option.none : Option Jvm.ClassFile.FieldType)) := own_hw hw 72 rfl
theorem wd73 (hw : own_W Z a0) : own_B Z a0 (.methodLink "java/lang/String" 552 own_z12) := own_hw hw 73 rfl
theorem wd74 (hw : own_W Z a0) : own_B Z a0 (.declares own_z12) := own_hw hw 74 rfl
theorem wd75 (hw : own_W Z a0) : own_B Z a0 (.instanceMethod own_z12) := own_hw hw 75 rfl
theorem wd76 (hw : own_W Z a0) : own_B Z a0 (.selects "java/lang/StringBuilder" own_z12 own_z12) := own_hw hw 76 rfl
theorem wd77 (hw : own_W Z a0) : own_B Z a0 (.code own_z12 own_c26 1 (Option.some (Jvm.ClassFile.FieldType.array Jvm.ClassFile.FieldType.byte))) := own_hw hw 77 rfl
theorem wd78 (hw : own_W Z a0) : own_B Z a0 (.methodLink "java/lang/String" 549 own_z13) := own_hw hw 78 rfl
theorem wd79 (hw : own_W Z a0) : own_B Z a0 (.declares own_z13) := own_hw hw 79 rfl
theorem wd80 (hw : own_W Z a0) : own_B Z a0 (.instanceMethod own_z13) := own_hw hw 80 rfl
theorem wd81 (hw : own_W Z a0) : own_B Z a0 (.selects "java/lang/StringBuilder" own_z13 own_z14) := own_hw hw 81 rfl
theorem wd82 (hw : own_W Z a0) : own_B Z a0 (.instanceMethod own_z14) := own_hw hw 82 rfl
theorem wd83 (hw : own_W Z a0) : own_B Z a0 (.code own_z14 own_c28 1 (Option.some Jvm.ClassFile.FieldType.int)) := own_hw hw 83 rfl
theorem wd84 (hw : own_W Z a0) : own_B Z a0 (.methodLink "java/lang/StringBuilder" 343 own_z13) := own_hw hw 84 rfl
theorem wd85 (hw : own_W Z a0) : own_B Z a0 (.superclass "java/lang/StringBuilder" "java/lang/AbstractStringBuilder") := own_hw hw 85 rfl
theorem wd86 (hw : own_W Z a0) : own_B Z a0 (.code own_z13 own_c27 1 (Option.some Jvm.ClassFile.FieldType.int)) := own_hw hw 86 rfl
theorem wd87 (hw : own_W Z a0) : own_B Z a0 (.fieldLink "java/lang/AbstractStringBuilder" 79 "java/lang/AbstractStringBuilder" "count" "I") := own_hw hw 87 rfl
theorem wd88 (hw : own_W Z a0) : own_B Z a0 (.lays "java/lang/StringBuilder" "java/lang/AbstractStringBuilder" "count" "I") := own_hw hw 88 rfl
theorem wd89 (hw : own_W Z a0) : own_B Z a0 (.methodLink "java/lang/String" 1047 own_z15) := own_hw hw 89 rfl
theorem wd90 (hw : own_W Z a0) : own_B Z a0 (.declares own_z15) := own_hw hw 90 rfl
theorem wd91 (hw : own_W Z a0) : own_B Z a0 (.instanceMethod own_z15) := own_hw hw 91 rfl
theorem wd92 (hw : own_W Z a0) : own_B Z a0 (.selects "java/lang/StringBuilder" own_z15 own_z15) := own_hw hw 92 rfl
theorem wd93 (hw : own_W Z a0) : own_B Z a0 (.code own_z15 own_c25 1 (Option.some Jvm.ClassFile.FieldType.boolean)) := own_hw hw 93 rfl
theorem wd94 (hw : own_W Z a0) : own_B Z a0 (.methodLink "java/lang/String" 54 own_z16) := own_hw hw 94 rfl
theorem wd95 (hw : own_W Z a0) : own_B Z a0 (.static own_z16) := own_hw hw 95 rfl
theorem wd96 (hw : own_W Z a0) : own_B Z a0 (.initialized "java/util/Arrays") := own_hw hw 96 rfl
theorem wd97 (hw : own_W Z a0) : own_B Z a0 (.code own_z16 own_c37 3 (Option.some (Jvm.ClassFile.FieldType.array Jvm.ClassFile.FieldType.byte))) := own_hw hw 97 rfl
theorem wd98 (hw : own_W Z a0) : own_B Z a0 (.methodLink "java/util/Arrays" 310 own_z17) := own_hw hw 98 rfl
theorem wd99 (hw : own_W Z a0) : own_B Z a0 (.sameMethod "[B" "java/lang/Object" "clone" "()Ljava/lang/Object;") := own_hw hw 99 rfl
theorem wd101 (hw : own_W Z a0) : own_B Z a0 (.instanceMethod own_z18) := own_hw hw 101 rfl
theorem wd102 (hw : own_W Z a0) : own_B Z a0 (.selects "[B" own_z17 own_z18) := own_hw hw 102 rfl
theorem wd103 (hw : own_W Z a0) : own_B Z a0 (.native own_z18) := own_hw hw 103 rfl
theorem wd104 (hw : own_W Z a0) : own_B Z a0 (.castable "[B" "java/lang/Cloneable") := own_hw hw 104 rfl
theorem wd105 (hw : own_W Z a0) : own_B Z a0 (.classLink "java/util/Arrays" 311 "[B") := own_hw hw 105 rfl
theorem wd107 (hw : own_W Z a0) : own_B Z a0 (.methodLink "com/example/oxpecker/oxpecker/MessageTemplateLiteralPinLaw" 37 own_z5) := own_hw hw 107 rfl
theorem wd108 (hw : own_W Z a0) : own_B Z a0 (.methodLink "java/lang/String" 177 own_z19) := own_hw hw 108 rfl
theorem wd109 (hw : own_W Z a0) : own_B Z a0 (.static own_z19) := own_hw hw 109 rfl
theorem wd110 (hw : own_W Z a0) : own_B Z a0 (.initialized "java/lang/StringUTF16") := own_hw hw 110 rfl
theorem wd111 (hw : own_W Z a0) : own_B Z a0 (.code own_z19 own_c21 6 (Option.some (Jvm.ClassFile.FieldType.array Jvm.ClassFile.FieldType.byte))) := own_hw hw 111 rfl
theorem wd112 (hw : own_W Z a0) : own_B Z a0 (.methodLink "java/lang/StringUTF16" 115 own_z20) := own_hw hw 112 rfl
theorem wd113 (hw : own_W Z a0) : own_B Z a0 (.static own_z20) := own_hw hw 113 rfl
theorem wd114 (hw : own_W Z a0) : own_B Z a0 (.code own_z20 own_c20 7 (Option.some Jvm.ClassFile.FieldType.int)) := own_hw hw 114 rfl
theorem wd115 (hw : own_W Z a0) : own_B Z a0 (.methodLink "java/lang/String" 47 own_z21) := own_hw hw 115 rfl
theorem wd116 (hw : own_W Z a0) : own_B Z a0 (.static own_z21) := own_hw hw 116 rfl
theorem wd117 (hw : own_W Z a0) : own_B Z a0 (.code own_z21 own_c22 2 (Option.some Jvm.ClassFile.FieldType.byte)) := own_hw hw 117 rfl
theorem wd118 (hw : own_W Z a0) : own_B Z a0 (.methodLink "com/example/oxpecker/oxpecker/MessageTemplate" 61 own_z22) := own_hw hw 118 rfl
theorem wd119 (hw : own_W Z a0) : own_B Z a0 (.declares own_z22) := own_hw hw 119 rfl
theorem wd120 (hw : own_W Z a0) : own_B Z a0 (.instanceMethod own_z22) := own_hw hw 120 rfl
theorem wd121 (hw : own_W Z a0) : own_B Z a0 (.selects "java/lang/String" own_z22 own_z22) := own_hw hw 121 rfl
theorem wd122 (hw : own_W Z a0) : own_B Z a0 (.code own_z22 own_c16 2 (Option.some Jvm.ClassFile.FieldType.char)) := own_hw hw 122 rfl
theorem wd123 (hw : own_W Z a0) : own_B Z a0 (.methodLink "java/lang/String" 492 own_z23) := own_hw hw 123 rfl
theorem wd124 (hw : own_W Z a0) : own_B Z a0 (.declares own_z23) := own_hw hw 124 rfl
theorem wd125 (hw : own_W Z a0) : own_B Z a0 (.instanceMethod own_z23) := own_hw hw 125 rfl
theorem wd126 (hw : own_W Z a0) : own_B Z a0 (.selects "java/lang/String" own_z23 own_z23) := own_hw hw 126 rfl
theorem wd127 (hw : own_W Z a0) : own_B Z a0 (.code own_z23 own_c9 1 (Option.some Jvm.ClassFile.FieldType.boolean)) := own_hw hw 127 rfl
theorem wd128 (hw : own_W Z a0) : own_B Z a0 (.methodLink "java/lang/String" 495 own_z24) := own_hw hw 128 rfl
theorem wd129 (hw : own_W Z a0) : own_B Z a0 (.static own_z24) := own_hw hw 129 rfl
theorem wd130 (hw : own_W Z a0) : own_B Z a0 (.initialized "java/lang/StringLatin1") := own_hw hw 130 rfl
theorem wd131 (hw : own_W Z a0) : own_B Z a0 (.code own_z24 own_c14 2 (Option.some Jvm.ClassFile.FieldType.char)) := own_hw hw 131 rfl
theorem wd132 (hw : own_W Z a0) : own_B Z a0 (.methodLink "java/lang/StringLatin1" 9 own_z25) := own_hw hw 132 rfl
theorem wd133 (hw : own_W Z a0) : own_B Z a0 (.static own_z25) := own_hw hw 133 rfl
theorem wd134 (hw : own_W Z a0) : own_B Z a0 (.code own_z25 own_c6 2 (Option.none : Option Jvm.ClassFile.FieldType)) := own_hw hw 134 rfl
theorem wd135 (hw : own_W Z a0) : own_B Z a0 (.fieldLink "java/lang/String" 1053 "jdk/internal/util/Preconditions" "SIOOBE_FORMATTER" "Ljava/util/function/BiFunction;") := own_hw hw 135 rfl
theorem wd136 (hw : own_W Z a0) : own_B Z a0 (.initialized "jdk/internal/util/Preconditions") := own_hw hw 136 rfl
theorem wd137 (hw : own_W Z a0) : own_B Z a0 (.methodLink "java/lang/String" 1059 own_z26) := own_hw hw 137 rfl
theorem wd138 (hw : own_W Z a0) : own_B Z a0 (.static own_z26) := own_hw hw 138 rfl
theorem wd139 (hw : own_W Z a0) : own_B Z a0 (.code own_z26 own_c5 3 (Option.some Jvm.ClassFile.FieldType.int)) := own_hw hw 139 rfl
theorem wd140 (hw : own_W Z a0) : own_B Z a0 (.stringLink "com/example/oxpecker/oxpecker/MessageTemplate" 65 "{}$\\") := own_hw hw 140 rfl
theorem wd141 (hw : own_W Z a0) : own_B Z a0 (.methodLink "com/example/oxpecker/oxpecker/MessageTemplate" 7 own_z27) := own_hw hw 141 rfl
theorem wd142 (hw : own_W Z a0) : own_B Z a0 (.declares own_z27) := own_hw hw 142 rfl
theorem wd143 (hw : own_W Z a0) : own_B Z a0 (.instanceMethod own_z27) := own_hw hw 143 rfl
theorem wd144 (hw : own_W Z a0) : own_B Z a0 (.selects "java/lang/String" own_z27 own_z27) := own_hw hw 144 rfl
theorem wd145 (hw : own_W Z a0) : own_B Z a0 (.code own_z27 own_c55 2 (Option.some Jvm.ClassFile.FieldType.int)) := own_hw hw 145 rfl
theorem wd146 (hw : own_W Z a0) : own_B Z a0 (.methodLink "java/lang/String" 633 own_z28) := own_hw hw 146 rfl
theorem wd147 (hw : own_W Z a0) : own_B Z a0 (.declares own_z28) := own_hw hw 147 rfl
theorem wd148 (hw : own_W Z a0) : own_B Z a0 (.instanceMethod own_z28) := own_hw hw 148 rfl
theorem wd149 (hw : own_W Z a0) : own_B Z a0 (.selects "java/lang/String" own_z28 own_z28) := own_hw hw 149 rfl
theorem wd150 (hw : own_W Z a0) : own_B Z a0 (.code own_z28 own_c54 3 (Option.some Jvm.ClassFile.FieldType.int)) := own_hw hw 150 rfl
theorem wd151 (hw : own_W Z a0) : own_B Z a0 (.methodLink "java/lang/String" 505 own_z5) := own_hw hw 151 rfl
theorem wd152 (hw : own_W Z a0) : own_B Z a0 (.methodLink "java/lang/String" 637 own_z29) := own_hw hw 152 rfl
theorem wd153 (hw : own_W Z a0) : own_B Z a0 (.static own_z29) := own_hw hw 153 rfl
theorem wd154 (hw : own_W Z a0) : own_B Z a0 (.code own_z29 own_c53 4 (Option.some Jvm.ClassFile.FieldType.int)) := own_hw hw 154 rfl
theorem wd155 (hw : own_W Z a0) : own_B Z a0 (.methodLink "java/lang/StringLatin1" 88 own_z30) := own_hw hw 155 rfl
theorem wd156 (hw : own_W Z a0) : own_B Z a0 (.static own_z30) := own_hw hw 156 rfl
theorem wd157 (hw : own_W Z a0) : own_B Z a0 (.code own_z30 own_c51 1 (Option.some Jvm.ClassFile.FieldType.boolean)) := own_hw hw 157 rfl
theorem wd158 (hw : own_W Z a0) : own_B Z a0 (.methodLink "java/lang/StringLatin1" 92 own_z31) := own_hw hw 158 rfl
theorem wd159 (hw : own_W Z a0) : own_B Z a0 (.static own_z31) := own_hw hw 159 rfl
theorem wd160 (hw : own_W Z a0) : own_B Z a0 (.initialized "java/lang/Math") := own_hw hw 160 rfl
theorem wd161 (hw : own_W Z a0) : own_B Z a0 (.code own_z31 own_c3 2 (Option.some Jvm.ClassFile.FieldType.int)) := own_hw hw 161 rfl
theorem wd162 (hw : own_W Z a0) : own_B Z a0 (.methodLink "java/lang/StringLatin1" 38 own_z32) := own_hw hw 162 rfl
theorem wd163 (hw : own_W Z a0) : own_B Z a0 (.static own_z32) := own_hw hw 163 rfl
theorem wd164 (hw : own_W Z a0) : own_B Z a0 (.code own_z32 own_c4 2 (Option.some Jvm.ClassFile.FieldType.int)) := own_hw hw 164 rfl
theorem wd165 (hw : own_W Z a0) : own_B Z a0 (.methodLink "java/lang/StringLatin1" 95 own_z33) := own_hw hw 165 rfl
theorem wd166 (hw : own_W Z a0) : own_B Z a0 (.static own_z33) := own_hw hw 166 rfl
theorem wd167 (hw : own_W Z a0) : own_B Z a0 (.code own_z33 own_c52 6 (Option.some Jvm.ClassFile.FieldType.int)) := own_hw hw 167 rfl
theorem wd168 (hw : own_W Z a0) : own_B Z a0 (.methodLink "com/example/oxpecker/oxpecker/MessageTemplate" 67 own_z34) := own_hw hw 168 rfl
theorem wd169 (hw : own_W Z a0) : own_B Z a0 (.declares own_z34) := own_hw hw 169 rfl
theorem wd170 (hw : own_W Z a0) : own_B Z a0 (.instanceMethod own_z34) := own_hw hw 170 rfl
theorem wd171 (hw : own_W Z a0) : own_B Z a0 (.selects "java/lang/StringBuilder" own_z34 own_z34) := own_hw hw 171 rfl
theorem wd172 (hw : own_W Z a0) : own_B Z a0 (.code own_z34 own_c50 2 (Option.some (Jvm.ClassFile.FieldType.object "java/lang/StringBuilder"))) := own_hw hw 172 rfl
theorem wd173 (hw : own_W Z a0) : own_B Z a0 (.methodLink "java/lang/StringBuilder" 50 own_z35) := own_hw hw 173 rfl
theorem wd174 (hw : own_W Z a0) : own_B Z a0 (.instanceMethod own_z35) := own_hw hw 174 rfl
theorem wd176 (hw : own_W Z a0) : own_B Z a0 (.code own_z35 own_c49 2 (Option.some (Jvm.ClassFile.FieldType.object "java/lang/AbstractStringBuilder"))) := own_hw hw 176 rfl
theorem wd177 (hw : own_W Z a0) : own_B Z a0 (.methodLink "java/lang/AbstractStringBuilder" 100 own_z36) := own_hw hw 177 rfl
theorem wd178 (hw : own_W Z a0) : own_B Z a0 (.instanceMethod own_z36) := own_hw hw 178 rfl
theorem wd180 (hw : own_W Z a0) : own_B Z a0 (.selects "java/lang/StringBuilder" own_z36 own_z36) := own_hw hw 180 rfl
theorem wd181 (hw : own_W Z a0) : own_B Z a0 (.code own_z36 own_c34 3 (Option.none : Option Jvm.ClassFile.FieldType)) := own_hw hw 181 rfl
theorem wd182 (hw : own_W Z a0) : own_B Z a0 (.methodLink "java/lang/AbstractStringBuilder" 83 own_z15) := own_hw hw 182 rfl
theorem wd183 (hw : own_W Z a0) : own_B Z a0 (.methodLink "java/lang/AbstractStringBuilder" 191 own_z37) := own_hw hw 183 rfl
theorem wd184 (hw : own_W Z a0) : own_B Z a0 (.static own_z37) := own_hw hw 184 rfl
theorem wd185 (hw : own_W Z a0) : own_B Z a0 (.code own_z37 own_c48 1 (Option.some Jvm.ClassFile.FieldType.boolean)) := own_hw hw 185 rfl
theorem wd186 (hw : own_W Z a0) : own_B Z a0 (.methodLink "com/example/oxpecker/oxpecker/MessageTemplateLiteralPinLaw" 33 own_z38) := own_hw hw 186 rfl
theorem wd187 (hw : own_W Z a0) : own_B Z a0 (.static own_z38) := own_hw hw 187 rfl
theorem wd188 (hw : own_W Z a0) : own_B Z a0 (.code own_z38 own_c2 1 (Option.some Jvm.ClassFile.FieldType.int)) := own_hw hw 188 rfl
theorem wd189 (hw : own_W Z a0) : own_B Z a0 (.methodLink "com/example/oxpecker/oxpecker/MessageTemplateLiteralPinLaw" 9 own_z39) := own_hw hw 189 rfl
theorem wd190 (hw : own_W Z a0) : own_B Z a0 (.static own_z39) := own_hw hw 190 rfl
theorem wd191 (hw : own_W Z a0) : own_B Z a0 (.code own_z39 own_c1 1 (Option.some Jvm.ClassFile.FieldType.boolean)) := own_hw hw 191 rfl
theorem wd192 (hw : own_W Z a0) : own_B Z a0 (.methodLink "com/example/oxpecker/oxpecker/MessageTemplateLiteralPinLaw" 41 own_z40) := own_hw hw 192 rfl
theorem wd193 (hw : own_W Z a0) : own_B Z a0 (.static own_z40) := own_hw hw 193 rfl
theorem wd194 (hw : own_W Z a0) : own_B Z a0 (.code own_z40 own_c57 3 (Option.some Jvm.ClassFile.FieldType.boolean)) := own_hw hw 194 rfl
theorem wd195 (hw : own_W Z a0) : own_B Z a0 (.methodLink "com/example/oxpecker/oxpecker/MessageTemplateLiteralPinLaw" 15 own_z22) := own_hw hw 195 rfl
theorem wd196 (hw : own_W Z a0) : own_B Z a0 (.methodLink "java/lang/AbstractStringBuilder" 104 own_z41) := own_hw hw 196 rfl
theorem wd197 (hw : own_W Z a0) : own_B Z a0 (.instanceMethod own_z41) := own_hw hw 197 rfl
theorem wd199 (hw : own_W Z a0) : own_B Z a0 (.selects "java/lang/StringBuilder" own_z41 own_z41) := own_hw hw 199 rfl
theorem wd200 (hw : own_W Z a0) : own_B Z a0 (.code own_z41 own_c32 6 (Option.some Jvm.ClassFile.FieldType.int)) := own_hw hw 200 rfl
theorem wd201 (hw : own_W Z a0) : own_B Z a0 (.methodLink "java/lang/AbstractStringBuilder" 114 own_z42) := own_hw hw 201 rfl
theorem wd202 (hw : own_W Z a0) : own_B Z a0 (.static own_z42) := own_hw hw 202 rfl
theorem wd203 (hw : own_W Z a0) : own_B Z a0 (.initialized "jdk/internal/util/ArraysSupport") := own_hw hw 203 rfl
theorem wd204 (hw : own_W Z a0) : own_B Z a0 (.code own_z42 own_c31 4 (Option.some Jvm.ClassFile.FieldType.int)) := own_hw hw 204 rfl
theorem wd205 (hw : own_W Z a0) : own_B Z a0 (.methodLink "jdk/internal/util/ArraysSupport" 194 own_z31) := own_hw hw 205 rfl
theorem wd206 (hw : own_W Z a0) : own_B Z a0 (.constant "jdk/internal/util/ArraysSupport" 200 (2147483639 : Int32)) := own_hw hw 206 rfl
theorem wd207 (hw : own_W Z a0) : own_B Z a0 (.constant "java/lang/AbstractStringBuilder" 39 (2147483647 : Int32)) := own_hw hw 207 rfl
theorem wd208 (hw : own_W Z a0) : own_B Z a0 (.methodLink "java/lang/AbstractStringBuilder" 108 own_z43) := own_hw hw 208 rfl
theorem wd209 (hw : own_W Z a0) : own_B Z a0 (.static own_z43) := own_hw hw 209 rfl
theorem wd210 (hw : own_W Z a0) : own_B Z a0 (.code own_z43 own_c33 3 (Option.some (Jvm.ClassFile.FieldType.array Jvm.ClassFile.FieldType.byte))) := own_hw hw 210 rfl
theorem wd211 (hw : own_W Z a0) : own_B Z a0 (.methodLink "java/util/Arrays" 304 own_z32) := own_hw hw 211 rfl
theorem wd212 (hw : own_W Z a0) : own_B Z a0 (.methodLink "java/util/Arrays" 150 own_z44) := own_hw hw 212 rfl
theorem wd213 (hw : own_W Z a0) : own_B Z a0 (.static own_z44) := own_hw hw 213 rfl
theorem wd214 (hw : own_W Z a0) : own_B Z a0 (.initialized "java/lang/System") := own_hw hw 214 rfl
theorem wd215 (hw : own_W Z a0) : own_B Z a0 (.native own_z44) := own_hw hw 215 rfl
theorem wd216 (hw : own_W Z a0) : own_B Z a0 (.methodLink "java/util/Arrays" 339 own_z45) := own_hw hw 216 rfl
theorem wd217 (hw : own_W Z a0) : own_B Z a0 (.static own_z45) := own_hw hw 217 rfl
theorem wd218 (hw : own_W Z a0) : own_B Z a0 (.code own_z45 own_c36 5 (Option.some (Jvm.ClassFile.FieldType.array Jvm.ClassFile.FieldType.byte))) := own_hw hw 218 rfl
theorem wd219 (hw : own_W Z a0) : own_B Z a0 (.methodLink "java/util/Arrays" 343 own_z46) := own_hw hw 219 rfl
theorem wd220 (hw : own_W Z a0) : own_B Z a0 (.static own_z46) := own_hw hw 220 rfl
theorem wd221 (hw : own_W Z a0) : own_B Z a0 (.code own_z46 own_c35 2 (Option.none : Option Jvm.ClassFile.FieldType)) := own_hw hw 221 rfl
theorem wd222 (hw : own_W Z a0) : own_B Z a0 (.methodLink "java/lang/StringUTF16" 119 own_z47) := own_hw hw 222 rfl
theorem wd223 (hw : own_W Z a0) : own_B Z a0 (.static own_z47) := own_hw hw 223 rfl
theorem wd224 (hw : own_W Z a0) : own_B Z a0 (.code own_z47 own_c19 5 (Option.some (Jvm.ClassFile.FieldType.array Jvm.ClassFile.FieldType.byte))) := own_hw hw 224 rfl
theorem wd225 (hw : own_W Z a0) : own_B Z a0 (.methodLink "java/lang/StringUTF16" 107 own_z48) := own_hw hw 225 rfl
theorem wd226 (hw : own_W Z a0) : own_B Z a0 (.static own_z48) := own_hw hw 226 rfl
theorem wd227 (hw : own_W Z a0) : own_B Z a0 (.code own_z48 own_c18 1 (Option.some (Jvm.ClassFile.FieldType.array Jvm.ClassFile.FieldType.byte))) := own_hw hw 227 rfl
theorem wd228 (hw : own_W Z a0) : own_B Z a0 (.methodLink "java/lang/StringUTF16" 11 own_z49) := own_hw hw 228 rfl
theorem wd229 (hw : own_W Z a0) : own_B Z a0 (.static own_z49) := own_hw hw 229 rfl
theorem wd230 (hw : own_W Z a0) : own_B Z a0 (.code own_z49 own_c17 1 (Option.some Jvm.ClassFile.FieldType.int)) := own_hw hw 230 rfl
theorem wd231 (hw : own_W Z a0) : own_B Z a0 (.constant "java/lang/StringUTF16" 20 (1073741823 : Int32)) := own_hw hw 231 rfl
theorem wd232 (hw : own_W Z a0) : own_B Z a0 (.methodLink "java/lang/StringUTF16" 111 own_z50) := own_hw hw 232 rfl
theorem wd233 (hw : own_W Z a0) : own_B Z a0 (.static own_z50) := own_hw hw 233 rfl
theorem wd234 (hw : own_W Z a0) : own_B Z a0 (.code own_z50 own_c13 3 (Option.none : Option Jvm.ClassFile.FieldType)) := own_hw hw 234 rfl
theorem wd235 (hw : own_W Z a0) : own_B Z a0 (.fieldLink "java/lang/StringUTF16" 44 "java/lang/StringUTF16" "$assertionsDisabled" "Z") := own_hw hw 235 rfl
theorem wd236 (hw : own_W Z a0) : own_B Z a0 (.fieldLink "java/lang/StringUTF16" 59 "java/lang/StringUTF16" "HI_BYTE_SHIFT" "I") := own_hw hw 236 rfl
theorem wd237 (hw : own_W Z a0) : own_B Z a0 (.fieldLink "java/lang/StringUTF16" 63 "java/lang/StringUTF16" "LO_BYTE_SHIFT" "I") := own_hw hw 237 rfl
theorem wd238 (hw : own_W Z a0) : own_B Z a0 (.methodLink "java/lang/StringUTF16" 71 own_z51) := own_hw hw 238 rfl
theorem wd239 (hw : own_W Z a0) : own_B Z a0 (.static own_z51) := own_hw hw 239 rfl
theorem wd240 (hw : own_W Z a0) : own_B Z a0 (.code own_z51 own_c12 2 (Option.some Jvm.ClassFile.FieldType.char)) := own_hw hw 240 rfl
theorem wd241 (hw : own_W Z a0) : own_B Z a0 (.methodLink "java/lang/String" 498 own_z52) := own_hw hw 241 rfl
theorem wd242 (hw : own_W Z a0) : own_B Z a0 (.static own_z52) := own_hw hw 242 rfl
theorem wd243 (hw : own_W Z a0) : own_B Z a0 (.code own_z52 own_c15 2 (Option.some Jvm.ClassFile.FieldType.char)) := own_hw hw 243 rfl
theorem wd244 (hw : own_W Z a0) : own_B Z a0 (.methodLink "java/lang/StringUTF16" 67 own_z53) := own_hw hw 244 rfl
theorem wd245 (hw : own_W Z a0) : own_B Z a0 (.static own_z53) := own_hw hw 245 rfl
theorem wd246 (hw : own_W Z a0) : own_B Z a0 (.code own_z53 own_c8 2 (Option.none : Option Jvm.ClassFile.FieldType)) := own_hw hw 246 rfl
theorem wd247 (hw : own_W Z a0) : own_B Z a0 (.methodLink "java/lang/StringUTF16" 48 own_z54) := own_hw hw 247 rfl
theorem wd248 (hw : own_W Z a0) : own_B Z a0 (.static own_z54) := own_hw hw 248 rfl
theorem wd249 (hw : own_W Z a0) : own_B Z a0 (.code own_z54 own_c7 1 (Option.some Jvm.ClassFile.FieldType.int)) := own_hw hw 249 rfl
theorem wd250 (hw : own_W Z a0) : own_B Z a0 (.methodLink "java/lang/StringUTF16" 414 own_z25) := own_hw hw 250 rfl
theorem wd251 (hw : own_W Z a0) : own_B Z a0 (.methodLink "java/lang/AbstractStringBuilder" 195 own_z55) := own_hw hw 251 rfl
theorem wd252 (hw : own_W Z a0) : own_B Z a0 (.instanceMethod own_z55) := own_hw hw 252 rfl
theorem wd254 (hw : own_W Z a0) : own_B Z a0 (.selects "java/lang/StringBuilder" own_z55 own_z55) := own_hw hw 254 rfl
theorem wd255 (hw : own_W Z a0) : own_B Z a0 (.code own_z55 own_c46 2 (Option.none : Option Jvm.ClassFile.FieldType)) := own_hw hw 255 rfl
theorem wd256 (hw : own_W Z a0) : own_B Z a0 (.methodLink "java/lang/AbstractStringBuilder" 26 own_z48) := own_hw hw 256 rfl
theorem wd257 (hw : own_W Z a0) : own_B Z a0 (.methodLink "java/lang/AbstractStringBuilder" 125 own_z56) := own_hw hw 257 rfl
theorem wd258 (hw : own_W Z a0) : own_B Z a0 (.static own_z56) := own_hw hw 258 rfl
theorem wd259 (hw : own_W Z a0) : own_B Z a0 (.code own_z56 own_c45 5 (Option.none : Option Jvm.ClassFile.FieldType)) := own_hw hw 259 rfl
theorem wd260 (hw : own_W Z a0) : own_B Z a0 (.methodLink "java/lang/StringLatin1" 240 own_z57) := own_hw hw 260 rfl
theorem wd261 (hw : own_W Z a0) : own_B Z a0 (.static own_z57) := own_hw hw 261 rfl
theorem wd262 (hw : own_W Z a0) : own_B Z a0 (.code own_z57 own_c44 6 (Option.none : Option Jvm.ClassFile.FieldType)) := own_hw hw 262 rfl
theorem wd263 (hw : own_W Z a0) : own_B Z a0 (.methodLink "java/lang/StringUTF16" 173 own_z58) := own_hw hw 263 rfl
theorem wd264 (hw : own_W Z a0) : own_B Z a0 (.static own_z58) := own_hw hw 264 rfl
theorem wd265 (hw : own_W Z a0) : own_B Z a0 (.code own_z58 own_c43 3 (Option.none : Option Jvm.ClassFile.FieldType)) := own_hw hw 265 rfl
theorem wd266 (hw : own_W Z a0) : own_B Z a0 (.methodLink "java/lang/StringUTF16" 419 own_z59) := own_hw hw 266 rfl
theorem wd267 (hw : own_W Z a0) : own_B Z a0 (.static own_z59) := own_hw hw 267 rfl
theorem wd268 (hw : own_W Z a0) : own_B Z a0 (.code own_z59 own_c42 3 (Option.some Jvm.ClassFile.FieldType.int)) := own_hw hw 268 rfl
theorem wd269 (hw : own_W Z a0) : own_B Z a0 (.methodLink "java/lang/String" 1065 own_z60) := own_hw hw 269 rfl
theorem wd270 (hw : own_W Z a0) : own_B Z a0 (.static own_z60) := own_hw hw 270 rfl
theorem wd271 (hw : own_W Z a0) : own_B Z a0 (.code own_z60 own_c41 4 (Option.some Jvm.ClassFile.FieldType.int)) := own_hw hw 271 rfl
theorem wd272 (hw : own_W Z a0) : own_B Z a0 (.methodLink "java/lang/AbstractStringBuilder" 197 own_z61) := own_hw hw 272 rfl
theorem wd273 (hw : own_W Z a0) : own_B Z a0 (.static own_z61) := own_hw hw 273 rfl
theorem wd274 (hw : own_W Z a0) : own_B Z a0 (.code own_z61 own_c47 3 (Option.none : Option Jvm.ClassFile.FieldType)) := own_hw hw 274 rfl
theorem wd275 (hw : own_W Z a0) : own_B Z a0 (.fieldLink "java/lang/String" 1048 "java/lang/AbstractStringBuilder" "maybeLatin1" "Z") := own_hw hw 275 rfl
theorem wd276 (hw : own_W Z a0) : own_B Z a0 (.lays "java/lang/StringBuilder" "java/lang/AbstractStringBuilder" "maybeLatin1" "Z") := own_hw hw 276 rfl
end

def own_lo8 (x : Int32) : Int32 := x.toInt8.toInt32
def own_hi8 (x : Int32) : Int32 := own_lo8 (x >>> ((8 : Int32) &&& 31))
def own_wb : List Int32 → List Value
 | [] => []
 | c :: cs => .int (own_lo8 c) :: .int (own_hi8 c) :: own_wb cs
def own_CodA (cs : List Int32) (cd N2 : Int32) (vs : List Value) : Prop := (cd = 0 ∧ N2 = Int32.ofNat cs.length ∧ vs = (cs.map fun c => Value.int (own_lo8 c)) ∧ ∀ c ∈ cs, ¬ 255 < c) ∨ (cd = 1 ∧ N2 = Int32.ofNat (2 * cs.length) ∧ vs = own_wb cs ∧ ∃ c ∈ cs, 255 < c)
theorem own_wlen : ∀ cs : List Int32, (own_wb cs).length = 2 * cs.length
 | [] => rfl
 | c :: cs => by simp only [own_wb, List.length_cons, own_wlen cs]; omega
theorem own_wapp : ∀ cs ds : List Int32, own_wb (cs ++ ds) = own_wb cs ++ own_wb ds
 | [], ds => rfl
 | c :: cs, ds => by simp only [List.cons_append, own_wb, own_wapp cs ds]
theorem own_wlo (d : Value) : ∀ (cs : List Int32) (j : Nat), j < cs.length → (own_wb cs).getD (2 * j) d = .int (own_lo8 (cs.getD j 0))
 | [], j, h => absurd h (Nat.not_lt_zero _)
 | c :: cs, 0, _ => rfl
 | c :: cs, j + 1, h => by
  have q := own_wlo d cs j (Nat.lt_of_succ_lt_succ h)
  rw [show 2 * (j + 1) = 2 * j + 1 + 1 from by omega]
  simpa [own_wb] using q
theorem own_whi (d : Value) : ∀ (cs : List Int32) (j : Nat), j < cs.length → (own_wb cs).getD (2 * j + 1) d = .int (own_hi8 (cs.getD j 0))
 | [], j, h => absurd h (Nat.not_lt_zero _)
 | c :: cs, 0, _ => rfl
 | c :: cs, j + 1, h => by
  have q := own_whi d cs j (Nat.lt_of_succ_lt_succ h)
  rw [show 2 * (j + 1) + 1 = 2 * j + 1 + 1 + 1 from by omega]
  simpa [own_wb] using q
theorem own_ml (cs : List Int32) (j : Nat) (h : j < cs.length) : (cs.map fun c => Value.int (own_lo8 c)).getD j (.int 0) = .int (own_lo8 (cs.getD j 0)) := by
 simp [List.getD_eq_getElem?_getD, h]
theorem own_nn : ∀ n < 64, (Int32.ofNat n).toNatClampNeg = n := by decide +kernel
theorem own_n0 : ∀ n < 64, ¬ Int32.ofNat n < 0 := by decide +kernel
theorem own_nlt : ∀ n < 33, ∀ j < n, Int32.ofNat j < Int32.ofNat n := by decide +kernel
theorem own_shl : ∀ n < 32, Int32.ofNat n <<< ((1 : Int32) &&& 31) = Int32.ofNat (2 * n) := by decide +kernel
theorem own_shr : ∀ n < 32, Int32.ofNat (2 * n) >>> ((1 : Int32) &&& 31) = Int32.ofNat n := by decide +kernel
theorem own_s1 : ∀ n < 64, Int32.ofNat n + (1 : Int32) = Int32.ofNat (n + 1) := by decide +kernel
theorem own_decl {a0 : Array Value} {Z : State} {y : MethodName} {bytes : ByteArray} {ml : Nat} {r : Option FieldType} (w : (Jvm.Cond.instanceMethod y).before a0 Z = true) (k : (Jvm.Cond.code y bytes ml r).before a0 Z = true) : (Jvm.Cond.declares y).before a0 Z = true := by
 obtain ⟨m, me, h1, h2, h3, -⟩ := Cond.instanceMethod_spec w
 obtain ⟨me', cc, q1, -, -, -, -, -, -, q2⟩ := Cond.code_spec h1 k
 cases h2.symm.trans q1
 simp [Cond.before, Cond.holds, Cond.value, h1, h2, h3, q2]
theorem own_nf {args : Array Value} {s : State} {C : String} {y0 y : MethodName} (w : (Jvm.Cond.selects C y0 y0).before args s = true) (e : y.cls = y0.cls) : NotFace s y := fun r0 h0 => by
 obtain ⟨c2, r2, m2, -, -, q3, -, kP, hkP, hkPi⟩ := Cond.selects_spec w
 have a1 := findClass_of_methodNamed h0
 have a2 := findClass_of_methodNamed q3
 rw [e] at a1
 have a3 : r0.cls = m2.cls := Option.some.inj (a1.symm.trans a2)
 exact ⟨kP, a3 ▸ hkP, hkPi⟩
theorem own_same {a0 : Array Value} {Z : State} {C : String} {y0 y : MethodName} (w : (Jvm.Cond.selects C y0 y0).before a0 Z = true) (wi : (Jvm.Cond.instanceMethod y).before a0 Z = true) (e : y.cls = y0.cls) (hy : y.cls ≠ "java/lang/invoke/MethodHandle" ∧ y.cls ≠ "java/lang/invoke/VarHandle") : (Jvm.Cond.sameMethod y.cls y.cls y.name y.desc).before a0 Z = true := by
 obtain ⟨m, me, h1, h2, h3, -⟩ := Cond.instanceMethod_spec wi
 obtain ⟨kr, hkr, hni⟩ := own_nf w e m h1
 have hc := findClass_of_methodNamed h1
 have hf := State.methodFound?_of_named h1 hy
 have h1' : Z.methodNamed? ⟨y.cls, y.name, y.desc⟩ = some m := h1
 simp [Cond.before, Cond.holds, Cond.value, hc, hf, h1', hkr, hni]
abbrev own_pr (p : Program) (e : Env) (below : List Frame) (PP : State → Prop) (T : State) (g : JFrame) : Prop := ∀ t, Steps p.tables e below (T.setTop g) t → PP t
section
variable {p : Program} {l : Launch} {e : Env} {R : Room} {s : State} {m : MethodId} {args : Array Value} {below : List Frame} {meth : Method} {c : Code} {T : State} {locs : List Loc} {cells slots : Nat} {Z : State} {a0 : Array Value} {h : Heap} {own : String} {index : Nat} {y z : MethodName} {bytes : ByteArray} {maxL : Nat} {ret : Option FieldType} {rm : Room} {as' : Array Value} {Q : Option Value → Heap → List Loc → Prop} {g : JFrame}
abbrev own_E (p : Program) (l : Launch) (e : Env) (R : Room) (s : State) (m : MethodId) (args : Array Value) (below : List Frame) (meth : Method) (c : Code) (T : State) (locs : List Loc) (cells slots : Nat) (Q : Option Value → Heap → List Loc → Prop) (g : JFrame) (rest : List Value) : Prop := ∃ (v : Option Value) (T' : State) (L : List Loc), Stand p l e R s m args below meth c T' (locs ++ L) cells slots ∧ Q v T'.heap L ∧ ∀ target, Steps p.tables e below (T'.setTop { g with pc := g.pc + 3, stack := v.toList ++ rest }) target → Steps p.tables e below (T.setTop g) target
theorem own_cS (X : Stand p l e R s m args below meth c T locs cells slots) (hx : p.tables.exec = Jvm.exec) (hZ : Z.Warmed39 s.vm) (hown : s.vm.findClass own = some m.cls) (w1 : (Jvm.Cond.methodLink own index y).before a0 Z = true) (w2 : (Jvm.Cond.static y).before a0 Z = true) (w3 : (Jvm.Cond.initialized y.cls).before a0 Z = true) (w4 : (Jvm.Cond.code y bytes maxL ret).before a0 Z = true)
  (hy : y.cls ≠ "java/lang/invoke/MethodHandle" ∧ y.cls ≠ "java/lang/invoke/VarHandle") (hM : own_M l Z y bytes maxL ret rm [] as' h Q) (W : Nat) (hf : rm.frames + 1 ≤ R.frames ∧ W + (maxL + 11) + rm.locals ≤ R.locals ∧ cells + rm.cells ≤ R.cells ∧ slots + rm.slots ≤ R.slots) (hg : g.method = m) (hsize : g.locals.size = c.maxLocals) (argsL rest : List Value) (hlen : ∀ sig, parseMethodDescriptor y.desc = some sig → argsL.length = sig.parameters.length)
  (hstack : g.stack = argsL.reverse ++ rest) (hW : 2 * g.monitorRoom + (rest.map fun v => v.category).sum = W) (hdg : decode c.code g.pc = .ok (.invokestatic index, 3)) (eT : T.heap = h) (ea : argsL.toArray = as') : own_E p l e R s m args below meth c T locs (cells + rm.cells) (slots + rm.slots) Q g rest := by
 obtain ⟨v, _, ⟨T', L', k', n'⟩, -, X', ⟨L, hQ, h1, h2, h3⟩, st⟩ := Jvm.LawKit.callS X hx (y := y) hown (mvT hZ w1) (mvT hZ w2) (mvT hZ w3) (mvT hZ w4) hy (backOf (W := W) hM hZ w4 w3 hf.1 hf.2.1) hg hsize hlen hstack (Nat.le_of_eq hW) hdg (fun _ _ => ⟨ea, eT, hf.2.2.1, hf.2.2.2⟩)
 dsimp only [Pt.U, Pt.locs, Pt.cells, Pt.slots] at X' h1 h2 h3 st hQ
 subst h1 h2 h3
 exact ⟨v, T', L, X', hQ, st⟩
theorem own_cV {C C0 : String} {y0 : MethodName} {b : Addr} (X : Stand p l e R s m args below meth c T locs cells slots) (hx : p.tables.exec = Jvm.exec) (hZ : Z.Warmed39 s.vm) (hown : s.vm.findClass own = some m.cls) (w1 : (Jvm.Cond.methodLink own index y).before a0 Z = true) (w2 : (Jvm.Cond.declares y).before a0 Z = true) (wn : (Jvm.Cond.selects C0 y0 y0).before a0 Z = true) (hn : y.cls = y0.cls) (w3 : (Jvm.Cond.selects C y z).before a0 Z = true) (w4 : (Jvm.Cond.instanceMethod z).before a0 Z = true) (w5 : (Jvm.Cond.code z bytes maxL ret).before a0 Z = true) (w6 : (Jvm.Cond.initialized z.cls).before a0 Z = true)
  (hy : y.cls ≠ "java/lang/invoke/MethodHandle" ∧ y.cls ≠ "java/lang/invoke/VarHandle") (hM : own_M l Z z bytes maxL ret rm [] as' h Q) (hE : Exa Z h b C) (W : Nat) (hf : rm.frames + 1 ≤ R.frames ∧ W + (maxL + 11) + rm.locals ≤ R.locals ∧ cells + rm.cells ≤ R.cells ∧ slots + rm.slots ≤ R.slots) (hg : g.method = m) (hsize : g.locals.size = c.maxLocals) (argsL rest : List Value) (hlen : ∀ sig, parseMethodDescriptor y.desc = some sig → argsL.length = sig.parameters.length)
  (hstack : g.stack = argsL.reverse ++ .ref b :: rest) (hW : 2 * g.monitorRoom + (rest.map fun v => v.category).sum = W) (hdg : decode c.code g.pc = .ok (.invokevirtual index, 3)) (eT : T.heap = h) (ea : (Value.ref b :: argsL).toArray = as') : own_E p l e R s m args below meth c T locs (cells + rm.cells) (slots + rm.slots) Q g rest := by
 obtain ⟨cq, kq, qa, qb, qc⟩ := isOf hZ eT hE
 obtain ⟨v, _, ⟨T', L', k', n'⟩, -, X', ⟨L, hQ, h1, h2, h3⟩, st⟩ := X.virtualBack hx (y := y) (z := z) hown (mvT hZ w1) (mvT hZ w2) (own_nf (args := #[]) (mvT hZ wn) hn) (mvT hZ w3) (mvT hZ w4) hy (backOf (W := W) hM hZ w5 w6 hf.1 hf.2.1) qa qc hg hsize (Steps.refl _) hlen hstack (Nat.le_of_eq hW) hdg (fun _ _ => ⟨ea, eT, hf.2.2.1, hf.2.2.2⟩)
 dsimp only [Pt.U, Pt.locs, Pt.cells, Pt.slots] at X' h1 h2 h3 st hQ
 subst h1 h2 h3
 exact ⟨v, T', L, X', hQ, fun _ k => st.trans k⟩
theorem own_cI (X : Stand p l e R s m args below meth c T locs cells slots) (hx : p.tables.exec = Jvm.exec) (hZ : Z.Warmed39 s.vm) (hy1 : y.name = "<init>") (hown : s.vm.findClass own = some m.cls) (w1 : (Jvm.Cond.methodLink own index y).before a0 Z = true) (w2 : (Jvm.Cond.instanceMethod y).before a0 Z = true) (w3 : (Jvm.Cond.code y bytes maxL none).before a0 Z = true) (w4 : (Jvm.Cond.initialized y.cls).before a0 Z = true)
  (hy : y.cls ≠ "java/lang/invoke/MethodHandle" ∧ y.cls ≠ "java/lang/invoke/VarHandle") (hM : own_M l Z y bytes maxL none rm [] as' h Q) (W : Nat) (hf : rm.frames + 1 ≤ R.frames ∧ W + (maxL + 11) + rm.locals ≤ R.locals ∧ cells + rm.cells ≤ R.cells ∧ slots + rm.slots ≤ R.slots) (hg : g.method = m) (hsize : g.locals.size = c.maxLocals) (b : Addr) (argsL rest : List Value) (hlen : ∀ sig, parseMethodDescriptor y.desc = some sig → argsL.length = sig.parameters.length)
  (hstack : g.stack = argsL.reverse ++ .ref b :: rest) (hW : 2 * g.monitorRoom + (rest.map fun v => v.category).sum = W) (hdg : decode c.code g.pc = .ok (.invokespecial index, 3)) (eT : T.heap = h) (ea : (Value.ref b :: argsL).toArray = as') : own_E p l e R s m args below meth c T locs (cells + rm.cells) (slots + rm.slots) Q g rest := by
 obtain ⟨v, _, ⟨T', L', k', n'⟩, -, X', ⟨L, hQ, h1, h2, h3⟩, st⟩ := X.specialBack hx (y := y) hy1 hown (mvT hZ w1) (mvT hZ w2) (mvT hZ w3) hy (backOf (W := W) hM hZ w3 w4 hf.1 hf.2.1) hg hsize (Steps.refl _) hlen hstack (Nat.le_of_eq hW) hdg (fun _ _ => ⟨ea, eT, hf.2.2.1, hf.2.2.2⟩)
 dsimp only [Pt.U, Pt.locs, Pt.cells, Pt.slots] at X' h1 h2 h3 st hQ
 subst h1 h2 h3
 exact ⟨v, T', L, X', hQ, fun _ k => st.trans k⟩
end

def own_s (Z : State) (h : Heap) (x : Addr) (cs : List Int32) (cd : Int32) : Prop := ∃ (t : Addr) (kb : ClassId) (N : Int32) (vs : List Value), Exa Z h x "java/lang/String" ∧ Fld Z h x "java/lang/String" "value" "[B" (.ref t) ∧ Fld Z h x "java/lang/String" "coder" "B" (.int cd) ∧ Arv Z h t kb .byte N vs (.int 0) ∧ own_CodA cs cd N vs
theorem own_s.ext {Z : State} {h h' : Heap} {x : Addr} {cs : List Int32} {cd : Int32} (F : own_s Z h x cs cd) (E : Ext h h') : own_s Z h' x cs cd := by
 obtain ⟨t, kb, N, vs, a1, a2, a3, a4, a5⟩ := F
 exact ⟨t, kb, N, vs, a1.ext E, a2.ext E, a3.ext E, a4.ext E, a5⟩
def own_env (Z : State) (h : Heap) : Prop := ∃ (z : Int32) (fm : Value), Sta Z h "java/lang/String" "COMPACT_STRINGS" "Z" (.int z) ∧ ¬ z = 0 ∧ Sta Z h "jdk/internal/util/Preconditions" "SIOOBE_FORMATTER" "Ljava/util/function/BiFunction;" fm ∧ fm.isRef = true ∧ Sta Z h "java/lang/StringUTF16" "$assertionsDisabled" "Z" (.int 1) ∧ Sta Z h "java/lang/StringUTF16" "HI_BYTE_SHIFT" "I" (.int 0) ∧ Sta Z h "java/lang/StringUTF16" "LO_BYTE_SHIFT" "I" (.int 8)
theorem own_env.ext {Z : State} {h h' : Heap} (F : own_env Z h) (E : Ext h h') : own_env Z h' := by
 obtain ⟨z, fm, a1, a2, a3, a4, a5, a6, a7⟩ := F
 exact ⟨z, fm, a1.ext E, a2, a3.ext E, a4, a5.ext E, a6.ext E, a7.ext E⟩
theorem own_env.wr {Z : State} {h h' : Heap} {a : Addr} {sl : Nat} {v : Value} (F : own_env Z h) (W : Wr h h' a sl v) (_ : True) : own_env Z h' := by
 obtain ⟨z, fm, a1, a2, a3, a4, a5, a6, a7⟩ := F
 exact ⟨z, fm, a1.wr W, a2, a3.wr W, a4, a5.wr W, a6.wr W, a7.wr W⟩
theorem own_stk {Z : State} {h h' : Heap} {C n d : String} {v : Value} {b : Addr} (F : Sta Z h C n d v) (K : Keep h h' [b]) (q : ∀ cell : Cell, h[b]? = some cell → cell.vm.isStatics = false) : Sta Z h' C n d v := by
 obtain ⟨cf, i, k, f, st, cell, h1, h2, h3, h4, h5, h6, h7⟩ := F
 refine ⟨cf, i, k, f, st, cell, h1, h2, h3, h4, K.2.1 _ _ h5 (fun hm => ?_), h6, h7⟩
 cases List.mem_singleton.mp hm
 rw [q _ h5] at h6
 cases h6
theorem own_env.keep {Z : State} {h h' : Heap} {b : Addr} (F : own_env Z h) (K : Keep h h' [b]) (q : ∀ cell : Cell, h[b]? = some cell → cell.vm.isStatics = false) : own_env Z h' := by
 obtain ⟨z, fm, a1, a2, a3, a4, a5, a6, a7⟩ := F
 exact ⟨z, fm, own_stk a1 K q, a2, own_stk a3 K q, a4, own_stk a5 K q, own_stk a6 K q, own_stk a7 K q⟩
theorem own_ext {h h' : Heap} (K : Keep h h' []) : Ext h h' := ⟨K.1, fun a c q => K.2.1 a c q nin0⟩
def own_b (c : Int32) : Prop := ¬ c < 0 ∧ ¬ (65535 : Int32) < c
theorem own_nar {c : Int32} (h : own_b c) : nar .char c = c := by
 apply Int32.toInt_inj.mp
 have q := c_i2c c
 show (c.toUInt32.toUInt16.toUInt32.toInt32).toInt = _
 obtain ⟨h1, h2⟩ := h
 rw [Int32.lt_iff_toInt_lt] at h1 h2
 have e1 : (0 : Int32).toInt = 0 := rfl
 have e2 : (65535 : Int32).toInt = 65535 := rfl
 omega
theorem own_narc {z : Int32} (h : own_b z) : narrow .char (.int z) = .int z := congrArg Value.int (own_nar h)
theorem own_bc (z : Int32) : own_b (z.toUInt32.toUInt16.toUInt32.toInt32) := by
 have q := c_i2c z
 simp only [own_b, Int32.lt_iff_toInt_lt]
 have e1 : (0 : Int32).toInt = 0 := rfl
 have e2 : (65535 : Int32).toInt = 65535 := rfl
 omega

def own_min (x y : Int32) : Int32 := if y < x then y else x
def own_max (x y : Int32) : Int32 := if x < y then y else x
theorem own_lo (x : Int32) : x.toInt8.toInt32.toInt8.toInt32 = own_lo8 x := by
 apply Int32.toInt_inj.mp
 show ((x.toInt8.toInt32).toInt8.toInt32).toInt = (x.toInt8.toInt32).toInt
 have h2 := c_i2b x
 generalize x.toInt8.toInt32 = z at h2 ⊢
 have h3 := c_i2b z
 omega
theorem own_sh0 (x : Int32) : x >>> ((0 : Int32) &&& 31) = x := by
 apply Int32.toInt_inj.mp
 rw [c_ishr x 0 0 (by decide)]
 omega
def own_gc (y0 y1 : Int32) : Int32 := (((y0 &&& (255 : Int32)) <<< ((0 : Int32) &&& 31)) ||| ((y1 &&& (255 : Int32)) <<< ((8 : Int32) &&& 31))).toUInt32.toUInt16.toUInt32.toInt32
theorem own_gcv {c : Int32} (h : own_b c) : own_gc (own_lo8 c) (own_hi8 c) = c := by
 apply Int32.toInt_inj.mp
 unfold own_gc own_hi8 own_lo8
 obtain ⟨h1, h2⟩ := h
 rw [Int32.lt_iff_toInt_lt] at h1 h2
 have e1 : (0 : Int32).toInt = 0 := rfl
 have e2 : (65535 : Int32).toInt = 65535 := rfl
 have r1 := c_ishr c 8 8 (by decide)
 generalize c >>> ((8 : Int32) &&& 31) = d at r1 ⊢
 have a1 := c_i2b c
 generalize c.toInt8.toInt32 = y0 at a1 ⊢
 have a2 := c_i2b d
 generalize d.toInt8.toInt32 = y1 at a2 ⊢
 have b1 := c_mask y0 255 8 (by decide) (by decide)
 have b2 := c_mask y1 255 8 (by decide) (by decide)
 generalize y0 &&& (255 : Int32) = m0 at b1 ⊢
 generalize y1 &&& (255 : Int32) = m1 at b2 ⊢
 have s0 := c_ishl m0 0 0 (by decide)
 have s1 := c_ishl m1 8 8 (by decide)
 have g0 := rng32 (m0 <<< ((0 : Int32) &&& 31))
 have g1 := rng32 (m1 <<< ((8 : Int32) &&& 31))
 generalize m0 <<< ((0 : Int32) &&& 31) = u0 at s0 g0 ⊢
 generalize m1 <<< ((8 : Int32) &&& 31) = u1 at s1 g1 ⊢
 rw [Int32.or_comm]
 have k := c_or u1 u0 8 (by decide) 256 (by decide) (by omega) (by omega) (by omega)
 have g2 := rng32 (u1 ||| u0)
 generalize u1 ||| u0 = w at k g2 ⊢
 have z := c_i2c w
 omega

theorem own_l255 {c : Int32} (h : own_b c) (h2 : ¬ (255 : Int32) < c) : (own_lo8 c &&& (255 : Int32)) = c := by
 apply Int32.toInt_inj.mp
 obtain ⟨q1, q2⟩ := h
 rw [Int32.lt_iff_toInt_lt] at q1 q2 h2
 have e1 : (0 : Int32).toInt = 0 := rfl
 have e3 : (255 : Int32).toInt = 255 := rfl
 have a1 := c_i2b c
 have b1 := c_mask (own_lo8 c) 255 8 (by decide) (by decide)
 unfold own_lo8 at b1 ⊢
 omega
theorem own_c255 {c : Int32} (h : own_b c) (h2 : ¬ (255 : Int32) < c) : (own_lo8 c &&& (255 : Int32)).toUInt32.toUInt16.toUInt32.toInt32 = c := by rw [own_l255 h h2]; exact own_nar h
def own_pk (x : Int32) : Int32 := if (x &&& (65536 : Int32)) = 0 then (x &&& (65535 : Int32)).toUInt32.toUInt16.toUInt32.toInt32 else if (((x.toUInt32 >>> ((17 : Int32) &&& 31).toUInt32).toInt32) &&& (3 : Int32)) = 0 then 123 else if (((x.toUInt32 >>> ((17 : Int32) &&& 31).toUInt32).toInt32) &&& (3 : Int32)) = 1 then 125 else if (((x.toUInt32 >>> ((17 : Int32) &&& 31).toUInt32).toInt32) &&& (3 : Int32)) = 2 then 36 else 92
theorem own_pkb (x : Int32) : own_b (own_pk x) := by
 unfold own_pk
 split
 ·exact own_bc _
 split
 ·unfold own_b; decide
 split
 ·unfold own_b; decide
 split
 ·unfold own_b; decide
 unfold own_b; decide
def own_sp (c : Int32) : Int32 := if c = 123 then 1 else if c = 125 then 1 else if c = 36 then 1 else if c = 92 then 1 else 0
def own_w2 (c : Int32) : Int32 := if own_sp c = 0 then 1 else 2
theorem own_sp01 (c : Int32) : own_sp c = 0 ∨ own_sp c = 1 := by
 unfold own_sp
 repeat' split
 all_goals first | exact Or.inr rfl | exact Or.inl rfl

theorem pn_k0 : plainName "com/example/oxpecker/oxpecker/MessageTemplateLiteralPinLaw" = true := by first | (simp [plainName, overriddenIn]; done) | decide +kernel

theorem pn_k1 : plainName "com/example/oxpecker/oxpecker/MessageTemplate" = true := by first | (simp [plainName, overriddenIn]; done) | decide +kernel

theorem pn_k2 : plainName "java/lang/String" = true := by first | (simp [plainName, overriddenIn]; done) | decide +kernel

theorem pn_k3 : plainName "jdk/internal/util/Preconditions" = true := by first | (simp [plainName, overriddenIn]; done) | decide +kernel

theorem pn_k4 : plainName "java/lang/StringLatin1" = true := by first | (simp [plainName, overriddenIn]; done) | decide +kernel

theorem pn_k5 : plainName "java/lang/StringUTF16" = true := by first | (simp [plainName, overriddenIn]; done) | decide +kernel

theorem pn_k6 : plainName "java/lang/StringBuilder" = true := by first | (simp [plainName, overriddenIn]; done) | decide +kernel

theorem pn_k7 : plainName "java/lang/AbstractStringBuilder" = true := by first | (simp [plainName, overriddenIn]; done) | decide +kernel

theorem pn_k8 : plainName "java/util/Arrays" = true := by first | (simp [plainName, overriddenIn]; done) | decide +kernel

theorem pn_k9 : plainName "jdk/internal/util/ArraysSupport" = true := by first | (simp [plainName, overriddenIn]; done) | decide +kernel

theorem d1_0 : own_D own_c0 0 (.iload_n 0) 1 := by decide +kernel
theorem d1_1 : own_D own_c0 1 (.ldc 7) 2 := by decide +kernel
theorem d1_3 : own_D own_c0 3 (.iand) 1 := by decide +kernel
theorem d1_4 : own_D own_c0 4 (.ifCond .eq 36) 3 := by decide +kernel
theorem d1_7 : own_D own_c0 7 (.iload_n 0) 1 := by decide +kernel
theorem d1_8 : own_D own_c0 8 (.bipush 17) 2 := by decide +kernel
theorem d1_10 : own_D own_c0 10 (.iushr) 1 := by decide +kernel
theorem d1_11 : own_D own_c0 11 (.iconst 3) 1 := by decide +kernel
theorem d1_12 : own_D own_c0 12 (.iand) 1 := by decide +kernel
theorem d1_13 : own_D own_c0 13 (.istore_n 1) 1 := by decide +kernel
theorem d1_14 : own_D own_c0 14 (.iload_n 1) 1 := by decide +kernel
theorem d1_15 : own_D own_c0 15 (.ifCond .ne 6) 3 := by decide +kernel
theorem d1_18 : own_D own_c0 18 (.bipush 123) 2 := by decide +kernel
theorem d1_20 : own_D own_c0 20 (.ireturn) 1 := by decide +kernel
theorem d1_21 : own_D own_c0 21 (.iload_n 1) 1 := by decide +kernel
theorem d1_22 : own_D own_c0 22 (.iconst 1) 1 := by decide +kernel
theorem d1_23 : own_D own_c0 23 (.if_icmp .ne 6) 3 := by decide +kernel
theorem d1_26 : own_D own_c0 26 (.bipush 125) 2 := by decide +kernel
theorem d1_28 : own_D own_c0 28 (.ireturn) 1 := by decide +kernel
theorem d1_29 : own_D own_c0 29 (.iload_n 1) 1 := by decide +kernel
theorem d1_30 : own_D own_c0 30 (.iconst 2) 1 := by decide +kernel
theorem d1_31 : own_D own_c0 31 (.if_icmp .ne 6) 3 := by decide +kernel
theorem d1_34 : own_D own_c0 34 (.bipush 36) 2 := by decide +kernel
theorem d1_36 : own_D own_c0 36 (.ireturn) 1 := by decide +kernel
theorem d1_37 : own_D own_c0 37 (.bipush 92) 2 := by decide +kernel
theorem d1_39 : own_D own_c0 39 (.ireturn) 1 := by decide +kernel
theorem d1_40 : own_D own_c0 40 (.iload_n 0) 1 := by decide +kernel
theorem d1_41 : own_D own_c0 41 (.ldc 8) 2 := by decide +kernel
theorem d1_43 : own_D own_c0 43 (.iand) 1 := by decide +kernel
theorem d1_44 : own_D own_c0 44 (.i2c) 1 := by decide +kernel
theorem d1_45 : own_D own_c0 45 (.ireturn) 1 := by decide +kernel

theorem pd_pk : parseMethodDescriptor "(I)C" = some ⟨[.int], some .char⟩ := by decide +kernel

theorem ef_pk (m : MethodId) (x0 : Int32)  : entryFrame m #[(.int x0)] 2 = mkF m 0 #[.val (.int x0), .unset] [] := by first | (simp [entryFrame, mkF, argsToLocals, Value.category]; done) | rfl
def Qpk (Z : State) (p1 : Int32) (h0 : Heap) (n0 : Nat) (v : Option Value) (h : Heap) (L : List Loc) : Prop := v = some (.int (own_pk p1)) ∧ Fr n0 L ∧ h = h0
theorem rmpk (l : Launch) (Z : State) (a0 : Array Value) (hw : own_W Z a0) (ws : List Jvm.Cond) (p1 : Int32) (h0 : Heap) (n0 : Nat) (Z0 : n0 ≤ h0.size)  :
  own_M l Z own_z0 own_c0 2 (some .char) ({ frames := 0, cells := 0, slots := 0, locals := 0 } : Room) ws #[(.int p1)] h0 (Qpk Z p1 h0 n0) := by
 refine MetFree.of_bodySF (plainFor_of_name pn_k0) hisR ?_
 intro p e s m args below meth c s₁ Bd hml0 hP hK
 obtain ⟨rfl, hZ, hh⟩ := hP
 have hx := Bd.exec
 have hby := Bd.bytes
 have hml : c.maxLocals = 2 := hml0
 have hown : s.vm.findClass "com/example/oxpecker/oxpecker/MessageTemplateLiteralPinLaw" = some m.cls := findClass_of_methodNamed Bd.named
 have X0 : Stand p l e ({ frames := 0, cells := 0, slots := 0, locals := 0 } : Room) s m #[(.int p1)] below meth c s₁ [] 0 0 := Stand.of_body Bd
 have e0 : s₁.heap = h0 := by rw [← hh, Bd.state]; rfl
 have N0 := Fr.nil n0
 obtain ⟨PP, hPs, pre0⟩ : ∃ PP : State → Prop, (∀ t, PP t → Steps p.tables e below (s₁.setTop (entryFrame m #[(.int p1)] 2)) t) ∧ own_pr p e below PP s₁ (mkF m 0 #[.val (.int p1), .unset] []) := ⟨_, fun _ κ => κ, fun τ κ => castTop (ef_pk m p1) κ⟩
 have pre1 : own_pr p e below PP s₁ (mkF m 4 #[.val (.int p1), .unset] [(.int (p1 &&& (65536 : Int32)))]) := fun τ κ => pre0 τ (by
  show own_st p e below s₁ (mkF m 0 #[.val (.int p1), .unset] []) _
  refine XS.iloadN X0.here hx rfl (hb hby d1_0) rfl ?_
  refine X0.ldcI hx hown (mvT hZ (wd4 hw)) (g := (mkF m 1 #[.val (.int p1), .unset] [(.int p1)])) rfl (hb hby d1_1) ?_
  refine XS.iand X0.here hx rfl (hb hby d1_3) rfl ?_
  exact κ)
 by_cases hc4 : (p1 &&& (65536 : Int32)) = (0 : Int32)
 ·have pre2 : own_pr p e below PP s₁ (mkF m 45 #[.val (.int p1), .unset] [(.int ((p1 &&& (65535 : Int32)).toUInt32.toUInt16.toUInt32.toInt32))]) := fun τ κ => pre1 τ (by
   show own_st p e below s₁ (mkF m 4 #[.val (.int p1), .unset] [(.int (p1 &&& (65536 : Int32)))]) _
   refine XS.ifYes X0.here hx rfl (pc0 := 4) (pc' := 40) rfl (hb hby d1_4) rfl ((if0 _ _).trans (teq hc4).1) (by decide) (by decide) ?_
   refine XS.iloadN X0.here hx rfl (hb hby d1_40) rfl ?_
   refine X0.ldcI hx hown (mvT hZ (wd5 hw)) (g := (mkF m 41 #[.val (.int p1), .unset] [(.int p1)])) rfl (hb hby d1_41) ?_
   refine XS.iand X0.here hx rfl (hb hby d1_43) rfl ?_
   refine XS.i2c X0.here hx rfl (hb hby d1_44) rfl ?_
   exact κ)
  obtain ⟨fs3, hr3, hrun3, hended3, hW3, hsame3⟩ := X0.leave (v := some (.int ((p1 &&& (65535 : Int32)).toUInt32.toUInt16.toUInt32.toInt32))) (fun h => by rw [Bd.returns] at h; cases h)
  refine ⟨_, _, hPs _ (pre2 _ ?_), hrun3, hended3, _, _, rfl, ?_, ⟨_, rfl⟩, hW3, hsame3.mono (by decide) (by decide)⟩
  ·show own_st p e below s₁ (mkF m 45 #[.val (.int p1), .unset] [(.int ((p1 &&& (65535 : Int32)).toUInt32.toUInt16.toUInt32.toInt32))]) _
   exact retOut X0 hx (t := .char) Bd.returns (own_narc (by first | exact own_bc _ | (unfold own_b; decide))) (Or.inl ⟨rfl, by simp, _, rfl⟩) (hb hby d1_45) hr3
  ·show Qpk Z p1 h0 n0 _ s₁.heap _
   rw [e0]
   exact ⟨by unfold own_pk; rw [if_pos hc4], N0, rfl⟩
 have pre4 : own_pr p e below PP s₁ (mkF m 15 #[.val (.int p1), .val (.int (((p1.toUInt32 >>> ((17 : Int32) &&& 31).toUInt32).toInt32) &&& (3 : Int32)))] [(.int (((p1.toUInt32 >>> ((17 : Int32) &&& 31).toUInt32).toInt32) &&& (3 : Int32)))]) := fun τ κ => pre1 τ (by
  show own_st p e below s₁ (mkF m 4 #[.val (.int p1), .unset] [(.int (p1 &&& (65536 : Int32)))]) _
  refine XS.ifNo X0.here hx rfl (hb hby d1_4) rfl ((if0 _ _).trans (feq hc4).1) ?_
  refine XS.iloadN X0.here hx rfl (hb hby d1_7) rfl ?_
  refine XS.bipush X0.here hx rfl (hb hby d1_8) ?_
  refine XS.iushr X0.here hx rfl (hb hby d1_10) rfl ?_
  refine XS.iconst X0.here hx rfl (hb hby d1_11) ?_
  refine XS.iand X0.here hx rfl (hb hby d1_12) rfl ?_
  refine XS.istoreN X0.here hx rfl (hb hby d1_13) rfl (l' := #[.val (.int p1), .val (.int (((p1.toUInt32 >>> ((17 : Int32) &&& 31).toUInt32).toInt32) &&& (3 : Int32)))]) rfl ?_
  refine XS.iloadN X0.here hx rfl (hb hby d1_14) rfl ?_
  exact κ)
 by_cases hc15 : (((p1.toUInt32 >>> ((17 : Int32) &&& 31).toUInt32).toInt32) &&& (3 : Int32)) = (0 : Int32)
 ·have pre5 : own_pr p e below PP s₁ (mkF m 20 #[.val (.int p1), .val (.int (((p1.toUInt32 >>> ((17 : Int32) &&& 31).toUInt32).toInt32) &&& (3 : Int32)))] [(.int (123 : Int32))]) := fun τ κ => pre4 τ (by
   show own_st p e below s₁ (mkF m 15 #[.val (.int p1), .val (.int (((p1.toUInt32 >>> ((17 : Int32) &&& 31).toUInt32).toInt32) &&& (3 : Int32)))] [(.int (((p1.toUInt32 >>> ((17 : Int32) &&& 31).toUInt32).toInt32) &&& (3 : Int32)))]) _
   refine XS.ifNo X0.here hx rfl (hb hby d1_15) rfl ((if0 _ _).trans (teq hc15).2) ?_
   refine XS.bipush X0.here hx rfl (hb hby d1_18) ?_
   exact κ)
  obtain ⟨fs6, hr6, hrun6, hended6, hW6, hsame6⟩ := X0.leave (v := some (.int (123 : Int32))) (fun h => by rw [Bd.returns] at h; cases h)
  refine ⟨_, _, hPs _ (pre5 _ ?_), hrun6, hended6, _, _, rfl, ?_, ⟨_, rfl⟩, hW6, hsame6.mono (by decide) (by decide)⟩
  ·show own_st p e below s₁ (mkF m 20 #[.val (.int p1), .val (.int (((p1.toUInt32 >>> ((17 : Int32) &&& 31).toUInt32).toInt32) &&& (3 : Int32)))] [(.int (123 : Int32))]) _
   exact retOut X0 hx (t := .char) Bd.returns (own_narc (by first | exact own_bc _ | (unfold own_b; decide))) (Or.inl ⟨rfl, by simp, _, rfl⟩) (hb hby d1_20) hr6
  ·show Qpk Z p1 h0 n0 _ s₁.heap _
   rw [e0]
   exact ⟨by unfold own_pk; rw [if_neg hc4, if_pos hc15], N0, rfl⟩
 have pre7 : own_pr p e below PP s₁ (mkF m 23 #[.val (.int p1), .val (.int (((p1.toUInt32 >>> ((17 : Int32) &&& 31).toUInt32).toInt32) &&& (3 : Int32)))] [(.int (1 : Int32)), (.int (((p1.toUInt32 >>> ((17 : Int32) &&& 31).toUInt32).toInt32) &&& (3 : Int32)))]) := fun τ κ => pre4 τ (by
  show own_st p e below s₁ (mkF m 15 #[.val (.int p1), .val (.int (((p1.toUInt32 >>> ((17 : Int32) &&& 31).toUInt32).toInt32) &&& (3 : Int32)))] [(.int (((p1.toUInt32 >>> ((17 : Int32) &&& 31).toUInt32).toInt32) &&& (3 : Int32)))]) _
  refine XS.ifYes X0.here hx rfl (pc0 := 15) (pc' := 21) rfl (hb hby d1_15) rfl ((if0 _ _).trans (feq hc15).2) (by decide) (by decide) ?_
  refine XS.iloadN X0.here hx rfl (hb hby d1_21) rfl ?_
  refine XS.iconst X0.here hx rfl (hb hby d1_22) ?_
  exact κ)
 by_cases hc23 : (((p1.toUInt32 >>> ((17 : Int32) &&& 31).toUInt32).toInt32) &&& (3 : Int32)) = (1 : Int32)
 ·have pre8 : own_pr p e below PP s₁ (mkF m 28 #[.val (.int p1), .val (.int (((p1.toUInt32 >>> ((17 : Int32) &&& 31).toUInt32).toInt32) &&& (3 : Int32)))] [(.int (125 : Int32))]) := fun τ κ => pre7 τ (by
   show own_st p e below s₁ (mkF m 23 #[.val (.int p1), .val (.int (((p1.toUInt32 >>> ((17 : Int32) &&& 31).toUInt32).toInt32) &&& (3 : Int32)))] [(.int (1 : Int32)), (.int (((p1.toUInt32 >>> ((17 : Int32) &&& 31).toUInt32).toInt32) &&& (3 : Int32)))]) _
   refine XS.icmpNo X0.here hx rfl (hb hby d1_23) rfl (teq hc23).2 ?_
   refine XS.bipush X0.here hx rfl (hb hby d1_26) ?_
   exact κ)
  obtain ⟨fs9, hr9, hrun9, hended9, hW9, hsame9⟩ := X0.leave (v := some (.int (125 : Int32))) (fun h => by rw [Bd.returns] at h; cases h)
  refine ⟨_, _, hPs _ (pre8 _ ?_), hrun9, hended9, _, _, rfl, ?_, ⟨_, rfl⟩, hW9, hsame9.mono (by decide) (by decide)⟩
  ·show own_st p e below s₁ (mkF m 28 #[.val (.int p1), .val (.int (((p1.toUInt32 >>> ((17 : Int32) &&& 31).toUInt32).toInt32) &&& (3 : Int32)))] [(.int (125 : Int32))]) _
   exact retOut X0 hx (t := .char) Bd.returns (own_narc (by first | exact own_bc _ | (unfold own_b; decide))) (Or.inl ⟨rfl, by simp, _, rfl⟩) (hb hby d1_28) hr9
  ·show Qpk Z p1 h0 n0 _ s₁.heap _
   rw [e0]
   exact ⟨by unfold own_pk; rw [if_neg hc4, if_neg hc15, if_pos hc23], N0, rfl⟩
 have pre10 : own_pr p e below PP s₁ (mkF m 31 #[.val (.int p1), .val (.int (((p1.toUInt32 >>> ((17 : Int32) &&& 31).toUInt32).toInt32) &&& (3 : Int32)))] [(.int (2 : Int32)), (.int (((p1.toUInt32 >>> ((17 : Int32) &&& 31).toUInt32).toInt32) &&& (3 : Int32)))]) := fun τ κ => pre7 τ (by
  show own_st p e below s₁ (mkF m 23 #[.val (.int p1), .val (.int (((p1.toUInt32 >>> ((17 : Int32) &&& 31).toUInt32).toInt32) &&& (3 : Int32)))] [(.int (1 : Int32)), (.int (((p1.toUInt32 >>> ((17 : Int32) &&& 31).toUInt32).toInt32) &&& (3 : Int32)))]) _
  refine XS.icmpYes X0.here hx rfl (pc0 := 23) (pc' := 29) rfl (hb hby d1_23) rfl (feq hc23).2 (by decide) (by decide) ?_
  refine XS.iloadN X0.here hx rfl (hb hby d1_29) rfl ?_
  refine XS.iconst X0.here hx rfl (hb hby d1_30) ?_
  exact κ)
 by_cases hc31 : (((p1.toUInt32 >>> ((17 : Int32) &&& 31).toUInt32).toInt32) &&& (3 : Int32)) = (2 : Int32)
 ·have pre11 : own_pr p e below PP s₁ (mkF m 36 #[.val (.int p1), .val (.int (((p1.toUInt32 >>> ((17 : Int32) &&& 31).toUInt32).toInt32) &&& (3 : Int32)))] [(.int (36 : Int32))]) := fun τ κ => pre10 τ (by
   show own_st p e below s₁ (mkF m 31 #[.val (.int p1), .val (.int (((p1.toUInt32 >>> ((17 : Int32) &&& 31).toUInt32).toInt32) &&& (3 : Int32)))] [(.int (2 : Int32)), (.int (((p1.toUInt32 >>> ((17 : Int32) &&& 31).toUInt32).toInt32) &&& (3 : Int32)))]) _
   refine XS.icmpNo X0.here hx rfl (hb hby d1_31) rfl (teq hc31).2 ?_
   refine XS.bipush X0.here hx rfl (hb hby d1_34) ?_
   exact κ)
  obtain ⟨fs12, hr12, hrun12, hended12, hW12, hsame12⟩ := X0.leave (v := some (.int (36 : Int32))) (fun h => by rw [Bd.returns] at h; cases h)
  refine ⟨_, _, hPs _ (pre11 _ ?_), hrun12, hended12, _, _, rfl, ?_, ⟨_, rfl⟩, hW12, hsame12.mono (by decide) (by decide)⟩
  ·show own_st p e below s₁ (mkF m 36 #[.val (.int p1), .val (.int (((p1.toUInt32 >>> ((17 : Int32) &&& 31).toUInt32).toInt32) &&& (3 : Int32)))] [(.int (36 : Int32))]) _
   exact retOut X0 hx (t := .char) Bd.returns (own_narc (by first | exact own_bc _ | (unfold own_b; decide))) (Or.inl ⟨rfl, by simp, _, rfl⟩) (hb hby d1_36) hr12
  ·show Qpk Z p1 h0 n0 _ s₁.heap _
   rw [e0]
   exact ⟨by unfold own_pk; rw [if_neg hc4, if_neg hc15, if_neg hc23, if_pos hc31], N0, rfl⟩
 have pre13 : own_pr p e below PP s₁ (mkF m 39 #[.val (.int p1), .val (.int (((p1.toUInt32 >>> ((17 : Int32) &&& 31).toUInt32).toInt32) &&& (3 : Int32)))] [(.int (92 : Int32))]) := fun τ κ => pre10 τ (by
  show own_st p e below s₁ (mkF m 31 #[.val (.int p1), .val (.int (((p1.toUInt32 >>> ((17 : Int32) &&& 31).toUInt32).toInt32) &&& (3 : Int32)))] [(.int (2 : Int32)), (.int (((p1.toUInt32 >>> ((17 : Int32) &&& 31).toUInt32).toInt32) &&& (3 : Int32)))]) _
  refine XS.icmpYes X0.here hx rfl (pc0 := 31) (pc' := 37) rfl (hb hby d1_31) rfl (feq hc31).2 (by decide) (by decide) ?_
  refine XS.bipush X0.here hx rfl (hb hby d1_37) ?_
  exact κ)
 obtain ⟨fs14, hr14, hrun14, hended14, hW14, hsame14⟩ := X0.leave (v := some (.int (92 : Int32))) (fun h => by rw [Bd.returns] at h; cases h)
 refine ⟨_, _, hPs _ (pre13 _ ?_), hrun14, hended14, _, _, rfl, ?_, ⟨_, rfl⟩, hW14, hsame14.mono (by decide) (by decide)⟩
 ·show own_st p e below s₁ (mkF m 39 #[.val (.int p1), .val (.int (((p1.toUInt32 >>> ((17 : Int32) &&& 31).toUInt32).toInt32) &&& (3 : Int32)))] [(.int (92 : Int32))]) _
  exact retOut X0 hx (t := .char) Bd.returns (own_narc (by first | exact own_bc _ | (unfold own_b; decide))) (Or.inl ⟨rfl, by simp, _, rfl⟩) (hb hby d1_39) hr14
 ·show Qpk Z p1 h0 n0 _ s₁.heap _
  rw [e0]
  exact ⟨by unfold own_pk; rw [if_neg hc4, if_neg hc15, if_neg hc23, if_neg hc31], N0, rfl⟩

theorem d38_0 : own_D own_c1 0 (.iload_n 0) 1 := by decide +kernel
theorem d38_1 : own_D own_c1 1 (.bipush 123) 2 := by decide +kernel
theorem d38_3 : own_D own_c1 3 (.if_icmp .eq 21) 3 := by decide +kernel
theorem d38_6 : own_D own_c1 6 (.iload_n 0) 1 := by decide +kernel
theorem d38_7 : own_D own_c1 7 (.bipush 125) 2 := by decide +kernel
theorem d38_9 : own_D own_c1 9 (.if_icmp .eq 15) 3 := by decide +kernel
theorem d38_12 : own_D own_c1 12 (.iload_n 0) 1 := by decide +kernel
theorem d38_13 : own_D own_c1 13 (.bipush 36) 2 := by decide +kernel
theorem d38_15 : own_D own_c1 15 (.if_icmp .eq 9) 3 := by decide +kernel
theorem d38_18 : own_D own_c1 18 (.iload_n 0) 1 := by decide +kernel
theorem d38_19 : own_D own_c1 19 (.bipush 92) 2 := by decide +kernel
theorem d38_21 : own_D own_c1 21 (.if_icmp .ne 7) 3 := by decide +kernel
theorem d38_24 : own_D own_c1 24 (.iconst 1) 1 := by decide +kernel
theorem d38_25 : own_D own_c1 25 (.goto 4) 3 := by decide +kernel
theorem d38_28 : own_D own_c1 28 (.iconst 0) 1 := by decide +kernel
theorem d38_29 : own_D own_c1 29 (.ireturn) 1 := by decide +kernel

theorem pd_sp : parseMethodDescriptor "(C)Z" = some ⟨[.char], some .boolean⟩ := by decide +kernel

theorem ef_sp (m : MethodId) (x0 : Int32)  : entryFrame m #[(.int x0)] 1 = mkF m 0 #[.val (.int x0)] [] := by first | (simp [entryFrame, mkF, argsToLocals, Value.category]; done) | rfl
def Qsp (Z : State) (p1 : Int32) (h0 : Heap) (n0 : Nat) (v : Option Value) (h : Heap) (L : List Loc) : Prop := v = some (.int (own_sp p1)) ∧ Fr n0 L ∧ h = h0
theorem rmsp (l : Launch) (Z : State) (a0 : Array Value) (hw : own_W Z a0) (ws : List Jvm.Cond) (p1 : Int32) (h0 : Heap) (n0 : Nat) (Z0 : n0 ≤ h0.size)  :
  own_M l Z own_z39 own_c1 1 (some .boolean) ({ frames := 0, cells := 0, slots := 0, locals := 0 } : Room) ws #[(.int p1)] h0 (Qsp Z p1 h0 n0) := by
 refine MetFree.of_bodySF (plainFor_of_name pn_k0) hisR ?_
 intro p e s m args below meth c s₁ Bd hml0 hP hK
 obtain ⟨rfl, hZ, hh⟩ := hP
 have hx := Bd.exec
 have hby := Bd.bytes
 have hml : c.maxLocals = 1 := hml0
 have hown : s.vm.findClass "com/example/oxpecker/oxpecker/MessageTemplateLiteralPinLaw" = some m.cls := findClass_of_methodNamed Bd.named
 have X0 : Stand p l e ({ frames := 0, cells := 0, slots := 0, locals := 0 } : Room) s m #[(.int p1)] below meth c s₁ [] 0 0 := Stand.of_body Bd
 have e0 : s₁.heap = h0 := by rw [← hh, Bd.state]; rfl
 have N0 := Fr.nil n0
 obtain ⟨PP, hPs, pre0⟩ : ∃ PP : State → Prop, (∀ t, PP t → Steps p.tables e below (s₁.setTop (entryFrame m #[(.int p1)] 1)) t) ∧ own_pr p e below PP s₁ (mkF m 0 #[.val (.int p1)] []) := ⟨_, fun _ κ => κ, fun τ κ => castTop (ef_sp m p1) κ⟩
 have pre1 : own_pr p e below PP s₁ (mkF m 3 #[.val (.int p1)] [(.int (123 : Int32)), (.int p1)]) := fun τ κ => pre0 τ (by
  show own_st p e below s₁ (mkF m 0 #[.val (.int p1)] []) _
  refine XS.iloadN X0.here hx rfl (hb hby d38_0) rfl ?_
  refine XS.bipush X0.here hx rfl (hb hby d38_1) ?_
  exact κ)
 by_cases hc3 : p1 = (123 : Int32)
 ·have pre2 : own_pr p e below PP s₁ (mkF m 29 #[.val (.int p1)] [(.int (1 : Int32))]) := fun τ κ => pre1 τ (by
   show own_st p e below s₁ (mkF m 3 #[.val (.int p1)] [(.int (123 : Int32)), (.int p1)]) _
   refine XS.icmpYes X0.here hx rfl (pc0 := 3) (pc' := 24) rfl (hb hby d38_3) rfl (teq hc3).1 (by decide) (by decide) ?_
   refine XS.iconst X0.here hx rfl (hb hby d38_24) ?_
   refine XS.goto X0.here hx rfl (pc0 := 25) (pc' := 29) rfl (hb hby d38_25) (by decide) (by decide) ?_
   exact κ)
  obtain ⟨fs3, hr3, hrun3, hended3, hW3, hsame3⟩ := X0.leave (v := some (.int (1 : Int32))) (fun h => by rw [Bd.returns] at h; cases h)
  refine ⟨_, _, hPs _ (pre2 _ ?_), hrun3, hended3, _, _, rfl, ?_, ⟨_, rfl⟩, hW3, hsame3.mono (by decide) (by decide)⟩
  ·show own_st p e below s₁ (mkF m 29 #[.val (.int p1)] [(.int (1 : Int32))]) _
   exact retN X0 hx (t := .boolean) Bd.returns (by simp) (hb hby d38_29) hr3
  ·show Qsp Z p1 h0 n0 _ s₁.heap _
   rw [e0]
   exact ⟨by unfold own_sp; rw [if_pos hc3], N0, rfl⟩
 have pre4 : own_pr p e below PP s₁ (mkF m 9 #[.val (.int p1)] [(.int (125 : Int32)), (.int p1)]) := fun τ κ => pre1 τ (by
  show own_st p e below s₁ (mkF m 3 #[.val (.int p1)] [(.int (123 : Int32)), (.int p1)]) _
  refine XS.icmpNo X0.here hx rfl (hb hby d38_3) rfl (feq hc3).1 ?_
  refine XS.iloadN X0.here hx rfl (hb hby d38_6) rfl ?_
  refine XS.bipush X0.here hx rfl (hb hby d38_7) ?_
  exact κ)
 by_cases hc9 : p1 = (125 : Int32)
 ·have pre5 : own_pr p e below PP s₁ (mkF m 29 #[.val (.int p1)] [(.int (1 : Int32))]) := fun τ κ => pre4 τ (by
   show own_st p e below s₁ (mkF m 9 #[.val (.int p1)] [(.int (125 : Int32)), (.int p1)]) _
   refine XS.icmpYes X0.here hx rfl (pc0 := 9) (pc' := 24) rfl (hb hby d38_9) rfl (teq hc9).1 (by decide) (by decide) ?_
   refine XS.iconst X0.here hx rfl (hb hby d38_24) ?_
   refine XS.goto X0.here hx rfl (pc0 := 25) (pc' := 29) rfl (hb hby d38_25) (by decide) (by decide) ?_
   exact κ)
  obtain ⟨fs6, hr6, hrun6, hended6, hW6, hsame6⟩ := X0.leave (v := some (.int (1 : Int32))) (fun h => by rw [Bd.returns] at h; cases h)
  refine ⟨_, _, hPs _ (pre5 _ ?_), hrun6, hended6, _, _, rfl, ?_, ⟨_, rfl⟩, hW6, hsame6.mono (by decide) (by decide)⟩
  ·show own_st p e below s₁ (mkF m 29 #[.val (.int p1)] [(.int (1 : Int32))]) _
   exact retN X0 hx (t := .boolean) Bd.returns (by simp) (hb hby d38_29) hr6
  ·show Qsp Z p1 h0 n0 _ s₁.heap _
   rw [e0]
   exact ⟨by unfold own_sp; rw [if_neg hc3, if_pos hc9], N0, rfl⟩
 have pre7 : own_pr p e below PP s₁ (mkF m 15 #[.val (.int p1)] [(.int (36 : Int32)), (.int p1)]) := fun τ κ => pre4 τ (by
  show own_st p e below s₁ (mkF m 9 #[.val (.int p1)] [(.int (125 : Int32)), (.int p1)]) _
  refine XS.icmpNo X0.here hx rfl (hb hby d38_9) rfl (feq hc9).1 ?_
  refine XS.iloadN X0.here hx rfl (hb hby d38_12) rfl ?_
  refine XS.bipush X0.here hx rfl (hb hby d38_13) ?_
  exact κ)
 by_cases hc15 : p1 = (36 : Int32)
 ·have pre8 : own_pr p e below PP s₁ (mkF m 29 #[.val (.int p1)] [(.int (1 : Int32))]) := fun τ κ => pre7 τ (by
   show own_st p e below s₁ (mkF m 15 #[.val (.int p1)] [(.int (36 : Int32)), (.int p1)]) _
   refine XS.icmpYes X0.here hx rfl (pc0 := 15) (pc' := 24) rfl (hb hby d38_15) rfl (teq hc15).1 (by decide) (by decide) ?_
   refine XS.iconst X0.here hx rfl (hb hby d38_24) ?_
   refine XS.goto X0.here hx rfl (pc0 := 25) (pc' := 29) rfl (hb hby d38_25) (by decide) (by decide) ?_
   exact κ)
  obtain ⟨fs9, hr9, hrun9, hended9, hW9, hsame9⟩ := X0.leave (v := some (.int (1 : Int32))) (fun h => by rw [Bd.returns] at h; cases h)
  refine ⟨_, _, hPs _ (pre8 _ ?_), hrun9, hended9, _, _, rfl, ?_, ⟨_, rfl⟩, hW9, hsame9.mono (by decide) (by decide)⟩
  ·show own_st p e below s₁ (mkF m 29 #[.val (.int p1)] [(.int (1 : Int32))]) _
   exact retN X0 hx (t := .boolean) Bd.returns (by simp) (hb hby d38_29) hr9
  ·show Qsp Z p1 h0 n0 _ s₁.heap _
   rw [e0]
   exact ⟨by unfold own_sp; rw [if_neg hc3, if_neg hc9, if_pos hc15], N0, rfl⟩
 have pre10 : own_pr p e below PP s₁ (mkF m 21 #[.val (.int p1)] [(.int (92 : Int32)), (.int p1)]) := fun τ κ => pre7 τ (by
  show own_st p e below s₁ (mkF m 15 #[.val (.int p1)] [(.int (36 : Int32)), (.int p1)]) _
  refine XS.icmpNo X0.here hx rfl (hb hby d38_15) rfl (feq hc15).1 ?_
  refine XS.iloadN X0.here hx rfl (hb hby d38_18) rfl ?_
  refine XS.bipush X0.here hx rfl (hb hby d38_19) ?_
  exact κ)
 by_cases hc21 : p1 = (92 : Int32)
 ·have pre11 : own_pr p e below PP s₁ (mkF m 29 #[.val (.int p1)] [(.int (1 : Int32))]) := fun τ κ => pre10 τ (by
   show own_st p e below s₁ (mkF m 21 #[.val (.int p1)] [(.int (92 : Int32)), (.int p1)]) _
   refine XS.icmpNo X0.here hx rfl (hb hby d38_21) rfl (teq hc21).2 ?_
   refine XS.iconst X0.here hx rfl (hb hby d38_24) ?_
   refine XS.goto X0.here hx rfl (pc0 := 25) (pc' := 29) rfl (hb hby d38_25) (by decide) (by decide) ?_
   exact κ)
  obtain ⟨fs12, hr12, hrun12, hended12, hW12, hsame12⟩ := X0.leave (v := some (.int (1 : Int32))) (fun h => by rw [Bd.returns] at h; cases h)
  refine ⟨_, _, hPs _ (pre11 _ ?_), hrun12, hended12, _, _, rfl, ?_, ⟨_, rfl⟩, hW12, hsame12.mono (by decide) (by decide)⟩
  ·show own_st p e below s₁ (mkF m 29 #[.val (.int p1)] [(.int (1 : Int32))]) _
   exact retN X0 hx (t := .boolean) Bd.returns (by simp) (hb hby d38_29) hr12
  ·show Qsp Z p1 h0 n0 _ s₁.heap _
   rw [e0]
   exact ⟨by unfold own_sp; rw [if_neg hc3, if_neg hc9, if_neg hc15, if_pos hc21], N0, rfl⟩
 have pre13 : own_pr p e below PP s₁ (mkF m 29 #[.val (.int p1)] [(.int (0 : Int32))]) := fun τ κ => pre10 τ (by
  show own_st p e below s₁ (mkF m 21 #[.val (.int p1)] [(.int (92 : Int32)), (.int p1)]) _
  refine XS.icmpYes X0.here hx rfl (pc0 := 21) (pc' := 28) rfl (hb hby d38_21) rfl (feq hc21).2 (by decide) (by decide) ?_
  refine XS.iconst X0.here hx rfl (hb hby d38_28) ?_
  exact κ)
 obtain ⟨fs14, hr14, hrun14, hended14, hW14, hsame14⟩ := X0.leave (v := some (.int (0 : Int32))) (fun h => by rw [Bd.returns] at h; cases h)
 refine ⟨_, _, hPs _ (pre13 _ ?_), hrun14, hended14, _, _, rfl, ?_, ⟨_, rfl⟩, hW14, hsame14.mono (by decide) (by decide)⟩
 ·show own_st p e below s₁ (mkF m 29 #[.val (.int p1)] [(.int (0 : Int32))]) _
  exact retN X0 hx (t := .boolean) Bd.returns (by simp) (hb hby d38_29) hr14
 ·show Qsp Z p1 h0 n0 _ s₁.heap _
  rw [e0]
  exact ⟨by unfold own_sp; rw [if_neg hc3, if_neg hc9, if_neg hc15, if_neg hc21], N0, rfl⟩

theorem d37_0 : own_D own_c2 0 (.iload_n 0) 1 := by decide +kernel
theorem d37_1 : own_D own_c2 1 (.invokestatic 9) 3 := by decide +kernel
theorem d37_4 : own_D own_c2 4 (.ifCond .eq 7) 3 := by decide +kernel
theorem d37_7 : own_D own_c2 7 (.iconst 2) 1 := by decide +kernel
theorem d37_8 : own_D own_c2 8 (.goto 4) 3 := by decide +kernel
theorem d37_11 : own_D own_c2 11 (.iconst 1) 1 := by decide +kernel
theorem d37_12 : own_D own_c2 12 (.ireturn) 1 := by decide +kernel

theorem pd_w : parseMethodDescriptor "(C)I" = some ⟨[.char], some .int⟩ := by decide +kernel

def Qw (Z : State) (p1 : Int32) (h0 : Heap) (n0 : Nat) (v : Option Value) (h : Heap) (L : List Loc) : Prop := v = some (.int (own_w2 p1)) ∧ Fr n0 L ∧ h = h0
theorem rmw (l : Launch) (Z : State) (a0 : Array Value) (hw : own_W Z a0) (ws : List Jvm.Cond) (p1 : Int32) (h0 : Heap) (n0 : Nat) (Z0 : n0 ≤ h0.size)  :
  own_M l Z own_z38 own_c2 1 (some .int) ({ frames := 1, cells := 0, slots := 0, locals := 12 } : Room) ws #[(.int p1)] h0 (Qw Z p1 h0 n0) := by
 refine MetFree.of_bodySF (plainFor_of_name pn_k0) hisR ?_
 intro p e s m args below meth c s₁ Bd hml0 hP hK
 obtain ⟨rfl, hZ, hh⟩ := hP
 have hx := Bd.exec
 have hby := Bd.bytes
 have hml : c.maxLocals = 1 := hml0
 have hown : s.vm.findClass "com/example/oxpecker/oxpecker/MessageTemplateLiteralPinLaw" = some m.cls := findClass_of_methodNamed Bd.named
 have X0 : Stand p l e ({ frames := 1, cells := 0, slots := 0, locals := 12 } : Room) s m #[(.int p1)] below meth c s₁ [] 0 0 := Stand.of_body Bd
 have e0 : s₁.heap = h0 := by rw [← hh, Bd.state]; rfl
 have N0 := Fr.nil n0
 obtain ⟨PP, hPs, pre0⟩ : ∃ PP : State → Prop, (∀ t, PP t → Steps p.tables e below (s₁.setTop (entryFrame m #[(.int p1)] 1)) t) ∧ own_pr p e below PP s₁ (mkF m 0 #[.val (.int p1)] []) := ⟨_, fun _ κ => κ, fun τ κ => castTop (ef_sp m p1) κ⟩
 obtain ⟨_, T1, Lc1, X1, hQ1, st1⟩ := own_cS X0 hx hZ (y := own_z39) hown (wd189 hw) (wd190 hw) (wd2 hw) (wd191 hw) (by decide) (rmsp l Z a0 hw [] p1 h0 n0 Z0) 0 (by decide) (g := (mkF m 1 #[.val (.int p1)] [(.int p1)])) rfl hml.symm [(.int p1)] [] (lenOf pd_sp rfl) rfl rfl (hb hby d37_1) e0 rfl
 obtain ⟨rfl, N1q, q1⟩ := hQ1
 have N1 := Fr.app N0 N1q
 have pre2 : own_pr p e below PP T1 (mkF m 4 #[.val (.int p1)] [(.int (own_sp p1))]) := fun τ κ => pre0 τ (by
  show own_st p e below s₁ (mkF m 0 #[.val (.int p1)] []) _
  refine XS.iloadN X0.here hx rfl (hb hby d37_0) rfl ?_
  refine st1 _ ?_
  exact κ)
 by_cases hc4 : (own_sp p1) = (0 : Int32)
 ·have pre3 : own_pr p e below PP T1 (mkF m 12 #[.val (.int p1)] [(.int (1 : Int32))]) := fun τ κ => pre2 τ (by
   show own_st p e below T1 (mkF m 4 #[.val (.int p1)] [(.int (own_sp p1))]) _
   refine XS.ifYes X1.here hx rfl (pc0 := 4) (pc' := 11) rfl (hb hby d37_4) rfl ((if0 _ _).trans (teq hc4).1) (by decide) (by decide) ?_
   refine XS.iconst X1.here hx rfl (hb hby d37_11) ?_
   exact κ)
  obtain ⟨fs4, hr4, hrun4, hended4, hW4, hsame4⟩ := X1.leave (v := some (.int (1 : Int32))) (fun h => by rw [Bd.returns] at h; cases h)
  refine ⟨_, _, hPs _ (pre3 _ ?_), hrun4, hended4, _, _, rfl, ?_, ⟨_, rfl⟩, hW4, hsame4.mono (by decide) (by decide)⟩
  ·show own_st p e below T1 (mkF m 12 #[.val (.int p1)] [(.int (1 : Int32))]) _
   exact retOut X1 hx (t := .int) Bd.returns rfl (Or.inl ⟨rfl, Or.inl rfl, _, rfl⟩) (hb hby d37_12) hr4
  ·show Qw Z p1 h0 n0 _ T1.heap _
   rw [q1]
   exact ⟨by unfold own_w2; rw [if_pos hc4], N1, rfl⟩
 have pre5 : own_pr p e below PP T1 (mkF m 12 #[.val (.int p1)] [(.int (2 : Int32))]) := fun τ κ => pre2 τ (by
  show own_st p e below T1 (mkF m 4 #[.val (.int p1)] [(.int (own_sp p1))]) _
  refine XS.ifNo X1.here hx rfl (hb hby d37_4) rfl ((if0 _ _).trans (feq hc4).1) ?_
  refine XS.iconst X1.here hx rfl (hb hby d37_7) ?_
  refine XS.goto X1.here hx rfl (pc0 := 8) (pc' := 12) rfl (hb hby d37_8) (by decide) (by decide) ?_
  exact κ)
 obtain ⟨fs6, hr6, hrun6, hended6, hW6, hsame6⟩ := X1.leave (v := some (.int (2 : Int32))) (fun h => by rw [Bd.returns] at h; cases h)
 refine ⟨_, _, hPs _ (pre5 _ ?_), hrun6, hended6, _, _, rfl, ?_, ⟨_, rfl⟩, hW6, hsame6.mono (by decide) (by decide)⟩
 ·show own_st p e below T1 (mkF m 12 #[.val (.int p1)] [(.int (2 : Int32))]) _
  exact retOut X1 hx (t := .int) Bd.returns rfl (Or.inl ⟨rfl, Or.inl rfl, _, rfl⟩) (hb hby d37_12) hr6
 ·show Qw Z p1 h0 n0 _ T1.heap _
  rw [q1]
  exact ⟨by unfold own_w2; rw [if_neg hc4], N1, rfl⟩

theorem d30_0 : own_D own_c3 0 (.iload_n 0) 1 := by decide +kernel
theorem d30_1 : own_D own_c3 1 (.iload_n 1) 1 := by decide +kernel
theorem d30_2 : own_D own_c3 2 (.if_icmp .lt 7) 3 := by decide +kernel
theorem d30_5 : own_D own_c3 5 (.iload_n 0) 1 := by decide +kernel
theorem d30_6 : own_D own_c3 6 (.goto 4) 3 := by decide +kernel
theorem d30_9 : own_D own_c3 9 (.iload_n 1) 1 := by decide +kernel
theorem d30_10 : own_D own_c3 10 (.ireturn) 1 := by decide +kernel

theorem pd_mx : parseMethodDescriptor "(II)I" = some ⟨[.int, .int], some .int⟩ := by decide +kernel

theorem ef_mx (m : MethodId) (x0 : Int32) (x1 : Int32)  : entryFrame m #[(.int x0), (.int x1)] 2 = mkF m 0 #[.val (.int x0), .val (.int x1)] [] := by first | (simp [entryFrame, mkF, argsToLocals, Value.category]; done) | rfl
def Qmx (Z : State) (p1 p2 r : Int32) (h0 : Heap) (n0 : Nat) (v : Option Value) (h : Heap) (L : List Loc) : Prop := v = some (.int r) ∧ Fr n0 L ∧ h = h0
theorem rmmx (l : Launch) (Z : State) (a0 : Array Value) (hw : own_W Z a0) (ws : List Jvm.Cond) (p1 p2 r : Int32) (h0 : Heap) (n0 : Nat) (Z0 : n0 ≤ h0.size) (hr : own_max p1 p2 = r) :
  own_M l Z own_z31 own_c3 2 (some .int) ({ frames := 0, cells := 0, slots := 0, locals := 0 } : Room) ws #[(.int p1), (.int p2)] h0 (Qmx Z p1 p2 r h0 n0) := by
 refine MetFree.of_bodySF (Jvm.Free.JP.mathPlain rfl (by decide +kernel)) hisR ?_
 intro p e s m args below meth c s₁ Bd hml0 hP hK
 obtain ⟨rfl, hZ, hh⟩ := hP
 have hx := Bd.exec
 have hby := Bd.bytes
 have hml : c.maxLocals = 2 := hml0
 have hown : s.vm.findClass "java/lang/Math" = some m.cls := findClass_of_methodNamed Bd.named
 have X0 : Stand p l e ({ frames := 0, cells := 0, slots := 0, locals := 0 } : Room) s m #[(.int p1), (.int p2)] below meth c s₁ [] 0 0 := Stand.of_body Bd
 have e0 : s₁.heap = h0 := by rw [← hh, Bd.state]; rfl
 have N0 := Fr.nil n0
 obtain ⟨PP, hPs, pre0⟩ : ∃ PP : State → Prop, (∀ t, PP t → Steps p.tables e below (s₁.setTop (entryFrame m #[(.int p1), (.int p2)] 2)) t) ∧ own_pr p e below PP s₁ (mkF m 0 #[.val (.int p1), .val (.int p2)] []) := ⟨_, fun _ κ => κ, fun τ κ => castTop (ef_mx m p1 p2) κ⟩
 have pre1 : own_pr p e below PP s₁ (mkF m 2 #[.val (.int p1), .val (.int p2)] [(.int p2), (.int p1)]) := fun τ κ => pre0 τ (by
  show own_st p e below s₁ (mkF m 0 #[.val (.int p1), .val (.int p2)] []) _
  refine XS.iloadN X0.here hx rfl (hb hby d30_0) rfl ?_
  refine XS.iloadN X0.here hx rfl (hb hby d30_1) rfl ?_
  exact κ)
 by_cases hc2 : p1 < p2
 ·have pre2 : own_pr p e below PP s₁ (mkF m 10 #[.val (.int p1), .val (.int p2)] [(.int p2)]) := fun τ κ => pre1 τ (by
   show own_st p e below s₁ (mkF m 2 #[.val (.int p1), .val (.int p2)] [(.int p2), (.int p1)]) _
   refine XS.icmpYes X0.here hx rfl (pc0 := 2) (pc' := 9) rfl (hb hby d30_2) rfl (tlt hc2).1 (by decide) (by decide) ?_
   refine XS.iloadN X0.here hx rfl (hb hby d30_9) rfl ?_
   exact κ)
  obtain ⟨fs3, hr3, hrun3, hended3, hW3, hsame3⟩ := X0.leave (v := some (.int p2)) (fun h => by rw [Bd.returns] at h; cases h)
  refine ⟨_, _, hPs _ (pre2 _ ?_), hrun3, hended3, _, _, rfl, ?_, ⟨_, rfl⟩, hW3, hsame3.mono (by decide) (by decide)⟩
  ·show own_st p e below s₁ (mkF m 10 #[.val (.int p1), .val (.int p2)] [(.int p2)]) _
   exact retOut X0 hx (t := .int) Bd.returns rfl (Or.inl ⟨rfl, Or.inl rfl, _, rfl⟩) (hb hby d30_10) hr3
  ·show Qmx Z p1 p2 r h0 n0 _ s₁.heap _
   rw [e0]
   exact ⟨by rw [← hr]; unfold own_max; rw [if_pos hc2], N0, rfl⟩
 have pre4 : own_pr p e below PP s₁ (mkF m 10 #[.val (.int p1), .val (.int p2)] [(.int p1)]) := fun τ κ => pre1 τ (by
  show own_st p e below s₁ (mkF m 2 #[.val (.int p1), .val (.int p2)] [(.int p2), (.int p1)]) _
  refine XS.icmpNo X0.here hx rfl (hb hby d30_2) rfl (flt hc2).1 ?_
  refine XS.iloadN X0.here hx rfl (hb hby d30_5) rfl ?_
  refine XS.goto X0.here hx rfl (pc0 := 6) (pc' := 10) rfl (hb hby d30_6) (by decide) (by decide) ?_
  exact κ)
 obtain ⟨fs5, hr5, hrun5, hended5, hW5, hsame5⟩ := X0.leave (v := some (.int p1)) (fun h => by rw [Bd.returns] at h; cases h)
 refine ⟨_, _, hPs _ (pre4 _ ?_), hrun5, hended5, _, _, rfl, ?_, ⟨_, rfl⟩, hW5, hsame5.mono (by decide) (by decide)⟩
 ·show own_st p e below s₁ (mkF m 10 #[.val (.int p1), .val (.int p2)] [(.int p1)]) _
  exact retOut X0 hx (t := .int) Bd.returns rfl (Or.inl ⟨rfl, Or.inl rfl, _, rfl⟩) (hb hby d30_10) hr5
 ·show Qmx Z p1 p2 r h0 n0 _ s₁.heap _
  rw [e0]
  exact ⟨by rw [← hr]; unfold own_max; rw [if_neg hc2], N0, rfl⟩

theorem d31_0 : own_D own_c4 0 (.iload_n 0) 1 := by decide +kernel
theorem d31_1 : own_D own_c4 1 (.iload_n 1) 1 := by decide +kernel
theorem d31_2 : own_D own_c4 2 (.if_icmp .gt 7) 3 := by decide +kernel
theorem d31_5 : own_D own_c4 5 (.iload_n 0) 1 := by decide +kernel
theorem d31_6 : own_D own_c4 6 (.goto 4) 3 := by decide +kernel
theorem d31_9 : own_D own_c4 9 (.iload_n 1) 1 := by decide +kernel
theorem d31_10 : own_D own_c4 10 (.ireturn) 1 := by decide +kernel


def Qmn (Z : State) (p1 p2 r : Int32) (h0 : Heap) (n0 : Nat) (v : Option Value) (h : Heap) (L : List Loc) : Prop := v = some (.int r) ∧ Fr n0 L ∧ h = h0
theorem rmmn (l : Launch) (Z : State) (a0 : Array Value) (hw : own_W Z a0) (ws : List Jvm.Cond) (p1 p2 r : Int32) (h0 : Heap) (n0 : Nat) (Z0 : n0 ≤ h0.size) (hr : own_min p1 p2 = r) :
  own_M l Z own_z32 own_c4 2 (some .int) ({ frames := 0, cells := 0, slots := 0, locals := 0 } : Room) ws #[(.int p1), (.int p2)] h0 (Qmn Z p1 p2 r h0 n0) := by
 refine MetFree.of_bodySF (Jvm.Free.JP.mathPlain rfl (by decide +kernel)) hisR ?_
 intro p e s m args below meth c s₁ Bd hml0 hP hK
 obtain ⟨rfl, hZ, hh⟩ := hP
 have hx := Bd.exec
 have hby := Bd.bytes
 have hml : c.maxLocals = 2 := hml0
 have hown : s.vm.findClass "java/lang/Math" = some m.cls := findClass_of_methodNamed Bd.named
 have X0 : Stand p l e ({ frames := 0, cells := 0, slots := 0, locals := 0 } : Room) s m #[(.int p1), (.int p2)] below meth c s₁ [] 0 0 := Stand.of_body Bd
 have e0 : s₁.heap = h0 := by rw [← hh, Bd.state]; rfl
 have N0 := Fr.nil n0
 obtain ⟨PP, hPs, pre0⟩ : ∃ PP : State → Prop, (∀ t, PP t → Steps p.tables e below (s₁.setTop (entryFrame m #[(.int p1), (.int p2)] 2)) t) ∧ own_pr p e below PP s₁ (mkF m 0 #[.val (.int p1), .val (.int p2)] []) := ⟨_, fun _ κ => κ, fun τ κ => castTop (ef_mx m p1 p2) κ⟩
 have pre1 : own_pr p e below PP s₁ (mkF m 2 #[.val (.int p1), .val (.int p2)] [(.int p2), (.int p1)]) := fun τ κ => pre0 τ (by
  show own_st p e below s₁ (mkF m 0 #[.val (.int p1), .val (.int p2)] []) _
  refine XS.iloadN X0.here hx rfl (hb hby d31_0) rfl ?_
  refine XS.iloadN X0.here hx rfl (hb hby d31_1) rfl ?_
  exact κ)
 by_cases hc2 : p2 < p1
 ·have pre2 : own_pr p e below PP s₁ (mkF m 10 #[.val (.int p1), .val (.int p2)] [(.int p2)]) := fun τ κ => pre1 τ (by
   show own_st p e below s₁ (mkF m 2 #[.val (.int p1), .val (.int p2)] [(.int p2), (.int p1)]) _
   refine XS.icmpYes X0.here hx rfl (pc0 := 2) (pc' := 9) rfl (hb hby d31_2) rfl (tlt hc2).2.2.1 (by decide) (by decide) ?_
   refine XS.iloadN X0.here hx rfl (hb hby d31_9) rfl ?_
   exact κ)
  obtain ⟨fs3, hr3, hrun3, hended3, hW3, hsame3⟩ := X0.leave (v := some (.int p2)) (fun h => by rw [Bd.returns] at h; cases h)
  refine ⟨_, _, hPs _ (pre2 _ ?_), hrun3, hended3, _, _, rfl, ?_, ⟨_, rfl⟩, hW3, hsame3.mono (by decide) (by decide)⟩
  ·show own_st p e below s₁ (mkF m 10 #[.val (.int p1), .val (.int p2)] [(.int p2)]) _
   exact retOut X0 hx (t := .int) Bd.returns rfl (Or.inl ⟨rfl, Or.inl rfl, _, rfl⟩) (hb hby d31_10) hr3
  ·show Qmn Z p1 p2 r h0 n0 _ s₁.heap _
   rw [e0]
   exact ⟨by rw [← hr]; unfold own_min; rw [if_pos hc2], N0, rfl⟩
 have pre4 : own_pr p e below PP s₁ (mkF m 10 #[.val (.int p1), .val (.int p2)] [(.int p1)]) := fun τ κ => pre1 τ (by
  show own_st p e below s₁ (mkF m 2 #[.val (.int p1), .val (.int p2)] [(.int p2), (.int p1)]) _
  refine XS.icmpNo X0.here hx rfl (hb hby d31_2) rfl (flt hc2).2.2.1 ?_
  refine XS.iloadN X0.here hx rfl (hb hby d31_5) rfl ?_
  refine XS.goto X0.here hx rfl (pc0 := 6) (pc' := 10) rfl (hb hby d31_6) (by decide) (by decide) ?_
  exact κ)
 obtain ⟨fs5, hr5, hrun5, hended5, hW5, hsame5⟩ := X0.leave (v := some (.int p1)) (fun h => by rw [Bd.returns] at h; cases h)
 refine ⟨_, _, hPs _ (pre4 _ ?_), hrun5, hended5, _, _, rfl, ?_, ⟨_, rfl⟩, hW5, hsame5.mono (by decide) (by decide)⟩
 ·show own_st p e below s₁ (mkF m 10 #[.val (.int p1), .val (.int p2)] [(.int p1)]) _
  exact retOut X0 hx (t := .int) Bd.returns rfl (Or.inl ⟨rfl, Or.inl rfl, _, rfl⟩) (hb hby d31_10) hr5
 ·show Qmn Z p1 p2 r h0 n0 _ s₁.heap _
  rw [e0]
  exact ⟨by rw [← hr]; unfold own_min; rw [if_neg hc2], N0, rfl⟩

theorem d25_0 : own_D own_c5 0 (.iload_n 0) 1 := by decide +kernel
theorem d25_1 : own_D own_c5 1 (.ifCond .lt 8) 3 := by decide +kernel
theorem d25_4 : own_D own_c5 4 (.iload_n 0) 1 := by decide +kernel
theorem d25_5 : own_D own_c5 5 (.iload_n 1) 1 := by decide +kernel
theorem d25_6 : own_D own_c5 6 (.if_icmp .lt 10) 3 := by decide +kernel
theorem d25_16 : own_D own_c5 16 (.iload_n 0) 1 := by decide +kernel
theorem d25_17 : own_D own_c5 17 (.ireturn) 1 := by decide +kernel

theorem pd_pki : parseMethodDescriptor "(IILjava/util/function/BiFunction;)I" = some ⟨[.int, .int, (.object "java/util/function/BiFunction")], some .int⟩ := by decide +kernel

theorem ef_pki (m : MethodId) (x0 : Int32) (x1 : Int32) (x2 : Value) (hx2 : x2.isRef = true) : entryFrame m #[(.int x0), (.int x1), x2] 3 = mkF m 0 #[.val (.int x0), .val (.int x1), .val x2] [] := by
 rcases ref_cases hx2 with rfl | ⟨_, rfl⟩ <;> first | (simp [entryFrame, mkF, argsToLocals, Value.category]; done) | rfl
def Qpki (Z : State) (p1 p2 : Int32) (fm : Value) (h0 : Heap) (n0 : Nat) (v : Option Value) (h : Heap) (L : List Loc) : Prop := v = some (.int p1) ∧ Fr n0 L ∧ h = h0
theorem rmpki (l : Launch) (Z : State) (a0 : Array Value) (hw : own_W Z a0) (ws : List Jvm.Cond) (p1 p2 : Int32) (fm : Value) (h0 : Heap) (n0 : Nat) (Z0 : n0 ≤ h0.size) (hfm : fm.isRef = true) (hp1 : ¬ p1 < (0 : Int32)) (hp2 : p1 < p2) :
  own_M l Z own_z26 own_c5 3 (some .int) ({ frames := 0, cells := 0, slots := 0, locals := 0 } : Room) ws #[(.int p1), (.int p2), fm] h0 (Qpki Z p1 p2 fm h0 n0) := by
 refine MetFree.of_bodySF (plainFor_of_name pn_k3) hisR ?_
 intro p e s m args below meth c s₁ Bd hml0 hP hK
 obtain ⟨rfl, hZ, hh⟩ := hP
 have hx := Bd.exec
 have hby := Bd.bytes
 have hml : c.maxLocals = 3 := hml0
 have hown : s.vm.findClass "jdk/internal/util/Preconditions" = some m.cls := findClass_of_methodNamed Bd.named
 have X0 : Stand p l e ({ frames := 0, cells := 0, slots := 0, locals := 0 } : Room) s m #[(.int p1), (.int p2), fm] below meth c s₁ [] 0 0 := Stand.of_body Bd
 have e0 : s₁.heap = h0 := by rw [← hh, Bd.state]; rfl
 have N0 := Fr.nil n0
 obtain ⟨PP, hPs, pre0⟩ : ∃ PP : State → Prop, (∀ t, PP t → Steps p.tables e below (s₁.setTop (entryFrame m #[(.int p1), (.int p2), fm] 3)) t) ∧ own_pr p e below PP s₁ (mkF m 0 #[.val (.int p1), .val (.int p2), .val fm] []) := ⟨_, fun _ κ => κ, fun τ κ => castTop (ef_pki m p1 p2 fm hfm) κ⟩
 have pre1 : own_pr p e below PP s₁ (mkF m 17 #[.val (.int p1), .val (.int p2), .val fm] [(.int p1)]) := fun τ κ => pre0 τ (by
  show own_st p e below s₁ (mkF m 0 #[.val (.int p1), .val (.int p2), .val fm] []) _
  refine XS.iloadN X0.here hx rfl (hb hby d25_0) rfl ?_
  refine XS.ifNo X0.here hx rfl (hb hby d25_1) rfl ((if0 _ _).trans (flt hp1).1) ?_
  refine XS.iloadN X0.here hx rfl (hb hby d25_4) rfl ?_
  refine XS.iloadN X0.here hx rfl (hb hby d25_5) rfl ?_
  refine XS.icmpYes X0.here hx rfl (pc0 := 6) (pc' := 16) rfl (hb hby d25_6) rfl (tlt hp2).1 (by decide) (by decide) ?_
  refine XS.iloadN X0.here hx rfl (hb hby d25_16) rfl ?_
  exact κ)
 obtain ⟨fs2, hr2, hrun2, hended2, hW2, hsame2⟩ := X0.leave (v := some (.int p1)) (fun h => by rw [Bd.returns] at h; cases h)
 refine ⟨_, _, hPs _ (pre1 _ ?_), hrun2, hended2, _, _, rfl, ?_, ⟨_, rfl⟩, hW2, hsame2.mono (by decide) (by decide)⟩
 ·show own_st p e below s₁ (mkF m 17 #[.val (.int p1), .val (.int p2), .val fm] [(.int p1)]) _
  exact retOut X0 hx (t := .int) Bd.returns rfl (Or.inl ⟨rfl, Or.inl rfl, _, rfl⟩) (hb hby d25_17) hr2
 ·show Qpki Z p1 p2 fm h0 n0 _ s₁.heap _
  rw [e0]
  exact ⟨rfl, N0, rfl⟩

theorem d24_0 : own_D own_c6 0 (.iload_n 0) 1 := by decide +kernel
theorem d24_1 : own_D own_c6 1 (.iload_n 1) 1 := by decide +kernel
theorem d24_2 : own_D own_c6 2 (.getstatic 1053) 3 := by decide +kernel
theorem d24_5 : own_D own_c6 5 (.invokestatic 1059) 3 := by decide +kernel
theorem d24_8 : own_D own_c6 8 (.pop) 1 := by decide +kernel
theorem d24_9 : own_D own_c6 9 (.return_) 1 := by decide +kernel

theorem pd_ki : parseMethodDescriptor "(II)V" = some ⟨[.int, .int], none⟩ := by decide +kernel

def Qki (Z : State) (p1 p2 : Int32) (h0 : Heap) (n0 : Nat) (v : Option Value) (h : Heap) (L : List Loc) : Prop := v = none ∧ Fr n0 L ∧ h = h0
theorem rmki (l : Launch) (Z : State) (a0 : Array Value) (hw : own_W Z a0) (ws : List Jvm.Cond) (p1 p2 : Int32) (h0 : Heap) (n0 : Nat) (Z0 : n0 ≤ h0.size) (EN : own_env Z h0) (hp1 : ¬ p1 < (0 : Int32)) (hp2 : p1 < p2) :
  own_M l Z own_z25 own_c6 2 none ({ frames := 1, cells := 0, slots := 0, locals := 16 } : Room) ws #[(.int p1), (.int p2)] h0 (Qki Z p1 p2 h0 n0) := by
 refine MetFree.of_bodySF (plainFor_of_name pn_k2) hisR ?_
 intro p e s m args below meth c s₁ Bd hml0 hP hK
 obtain ⟨rfl, hZ, hh⟩ := hP
 have hx := Bd.exec
 have hby := Bd.bytes
 have hml : c.maxLocals = 2 := hml0
 have hown : s.vm.findClass "java/lang/String" = some m.cls := findClass_of_methodNamed Bd.named
 have X0 : Stand p l e ({ frames := 1, cells := 0, slots := 0, locals := 16 } : Room) s m #[(.int p1), (.int p2)] below meth c s₁ [] 0 0 := Stand.of_body Bd
 have e0 : s₁.heap = h0 := by rw [← hh, Bd.state]; rfl
 have N0 := Fr.nil n0
 obtain ⟨PP, hPs, pre0⟩ : ∃ PP : State → Prop, (∀ t, PP t → Steps p.tables e below (s₁.setTop (entryFrame m #[(.int p1), (.int p2)] 2)) t) ∧ own_pr p e below PP s₁ (mkF m 0 #[.val (.int p1), .val (.int p2)] []) := ⟨_, fun _ κ => κ, fun τ κ => castTop (ef_mx m p1 p2) κ⟩
 obtain ⟨z, fm, Sz, hz, Sf, hfm, Sa, Sh, Sl⟩ := EN
 obtain ⟨T1, X1, e1, st1⟩ := getS2 X0 hx hZ hown (host := "") (Or.inl (wd135 hw)) Via.refl e0 Sf (g := (mkF m 2 #[.val (.int p1), .val (.int p2)] [(.int p2), (.int p1)])) rfl (hb hby d24_2)
 obtain ⟨_, T2, Lc2, X2, hQ2, st2⟩ := own_cS X1 hx hZ (y := own_z26) hown (wd137 hw) (wd138 hw) (wd136 hw) (wd139 hw) (by decide) (rmpki l Z a0 hw [] p1 p2 fm h0 n0 Z0 hfm hp1 hp2) 0 (by decide) (g := (mkF m 5 #[.val (.int p1), .val (.int p2)] [fm, (.int p2), (.int p1)])) rfl hml.symm [(.int p1), (.int p2), fm] [] (lenOf pd_pki rfl) rfl rfl (hb hby d24_5) e1 rfl
 obtain ⟨rfl, N2q, q2⟩ := hQ2
 have N2 := Fr.app N0 N2q
 have pre3 : own_pr p e below PP T2 (mkF m 9 #[.val (.int p1), .val (.int p2)] []) := fun τ κ => pre0 τ (by
  show own_st p e below s₁ (mkF m 0 #[.val (.int p1), .val (.int p2)] []) _
  refine XS.iloadN X0.here hx rfl (hb hby d24_0) rfl ?_
  refine XS.iloadN X0.here hx rfl (hb hby d24_1) rfl ?_
  refine st1 _ ?_
  refine st2 _ ?_
  refine XS.pop X2.here hx rfl (hb hby d24_8) rfl rfl ?_
  exact κ)
 obtain ⟨fs4, hr4, hrun4, hended4, hW4, hsame4⟩ := X2.leave (v := none) (fun _ => rfl)
 refine ⟨_, _, hPs _ (pre3 _ ?_), hrun4, hended4, _, _, rfl, ?_, ⟨_, rfl⟩, hW4, hsame4.mono (by decide) (by decide)⟩
 ·show own_st p e below T2 (mkF m 9 #[.val (.int p1), .val (.int p2)] []) _
  exact X2.returnOut hx Bd.returns (hb hby d24_9) hr4
 ·show Qki Z p1 p2 h0 n0 _ T2.heap _
  rw [q2]
  exact ⟨rfl, N2, rfl⟩

theorem d52_0 : own_D own_c7 0 (.aload_n 0) 1 := by decide +kernel
theorem d52_1 : own_D own_c7 1 (.arraylength) 1 := by decide +kernel
theorem d52_2 : own_D own_c7 2 (.iconst 1) 1 := by decide +kernel
theorem d52_3 : own_D own_c7 3 (.ishr) 1 := by decide +kernel
theorem d52_4 : own_D own_c7 4 (.ireturn) 1 := by decide +kernel

theorem pd_ul : parseMethodDescriptor "([B)I" = some ⟨[(.array .byte)], some .int⟩ := by decide +kernel

theorem ef_ul (m : MethodId) (x0 : Addr)  : entryFrame m #[(.ref x0)] 1 = mkF m 0 #[.val (.ref x0)] [] := by first | (simp [entryFrame, mkF, argsToLocals, Value.category]; done) | rfl
def Qul (Z : State) (a1 : Addr) (k1 : ClassId) (vs : List Value) (NZ : Int32) (h0 : Heap) (n0 : Nat) (v : Option Value) (h : Heap) (L : List Loc) : Prop := v = some (.int (NZ >>> ((1 : Int32) &&& 31))) ∧ Fr n0 L ∧ h = h0
theorem rmul (l : Launch) (Z : State) (a0 : Array Value) (hw : own_W Z a0) (ws : List Jvm.Cond) (a1 : Addr) (k1 : ClassId) (vs : List Value) (NZ : Int32) (h0 : Heap) (n0 : Nat) (Z0 : n0 ≤ h0.size) (As : Arv Z h0 a1 k1 .byte NZ vs (.int 0)) :
  own_M l Z own_z54 own_c7 1 (some .int) ({ frames := 0, cells := 0, slots := 0, locals := 0 } : Room) ws #[(.ref a1)] h0 (Qul Z a1 k1 vs NZ h0 n0) := by
 refine MetFree.of_bodySF (plainFor_of_name pn_k5) hisR ?_
 intro p e s m args below meth c s₁ Bd hml0 hP hK
 obtain ⟨rfl, hZ, hh⟩ := hP
 have hx := Bd.exec
 have hby := Bd.bytes
 have hml : c.maxLocals = 1 := hml0
 have hown : s.vm.findClass "java/lang/StringUTF16" = some m.cls := findClass_of_methodNamed Bd.named
 have X0 : Stand p l e ({ frames := 0, cells := 0, slots := 0, locals := 0 } : Room) s m #[(.ref a1)] below meth c s₁ [] 0 0 := Stand.of_body Bd
 have e0 : s₁.heap = h0 := by rw [← hh, Bd.state]; rfl
 have N0 := Fr.nil n0
 obtain ⟨PP, hPs, pre0⟩ : ∃ PP : State → Prop, (∀ t, PP t → Steps p.tables e below (s₁.setTop (entryFrame m #[(.ref a1)] 1)) t) ∧ own_pr p e below PP s₁ (mkF m 0 #[.val (.ref a1)] []) := ⟨_, fun _ κ => κ, fun τ κ => castTop (ef_ul m a1) κ⟩
 have Vc1 := As
 obtain ⟨cl1, Ar1, qq1, sz1, nn1, Ha1, Gf1⟩ := Vc1
 have pre2 : own_pr p e below PP s₁ (mkF m 4 #[.val (.ref a1)] [(.int (NZ >>> ((1 : Int32) &&& 31)))]) := fun τ κ => pre0 τ (by
  show own_st p e below s₁ (mkF m 0 #[.val (.ref a1)] []) _
  refine XS.aloadN X0.here hx rfl (hb hby d52_0) rfl rfl ?_
  refine X0.arraylength hx (by rw [e0]; exact Ar1.1) (State.isArrayOf_alike hZ.alike Ar1.2.1) (g := (mkF m 1 #[.val (.ref a1)] [(.ref a1)])) rfl rfl (hb hby d52_1) _ ?_
  rw [len_of sz1 nn1]
  refine XS.iconst X0.here hx rfl (hb hby d52_2) ?_
  refine XS.ishr X0.here hx rfl (hb hby d52_3) rfl ?_
  exact κ)
 obtain ⟨fs3, hr3, hrun3, hended3, hW3, hsame3⟩ := X0.leave (v := some (.int (NZ >>> ((1 : Int32) &&& 31)))) (fun h => by rw [Bd.returns] at h; cases h)
 refine ⟨_, _, hPs _ (pre2 _ ?_), hrun3, hended3, _, _, rfl, ?_, ⟨_, rfl⟩, hW3, hsame3.mono (by decide) (by decide)⟩
 ·show own_st p e below s₁ (mkF m 4 #[.val (.ref a1)] [(.int (NZ >>> ((1 : Int32) &&& 31)))]) _
  exact retOut X0 hx (t := .int) Bd.returns rfl (Or.inl ⟨rfl, Or.inl rfl, _, rfl⟩) (hb hby d52_4) hr3
 ·show Qul Z a1 k1 vs NZ h0 n0 _ s₁.heap _
  rw [e0]
  exact ⟨rfl, N0, rfl⟩

theorem d51_0 : own_D own_c8 0 (.iload_n 0) 1 := by decide +kernel
theorem d51_1 : own_D own_c8 1 (.aload_n 1) 1 := by decide +kernel
theorem d51_2 : own_D own_c8 2 (.invokestatic 48) 3 := by decide +kernel
theorem d51_5 : own_D own_c8 5 (.invokestatic 414) 3 := by decide +kernel
theorem d51_8 : own_D own_c8 8 (.return_) 1 := by decide +kernel

theorem pd_uk : parseMethodDescriptor "(I[B)V" = some ⟨[.int, (.array .byte)], none⟩ := by decide +kernel

theorem ef_uk (m : MethodId) (x0 : Int32) (x1 : Addr)  : entryFrame m #[(.int x0), (.ref x1)] 2 = mkF m 0 #[.val (.int x0), .val (.ref x1)] [] := by first | (simp [entryFrame, mkF, argsToLocals, Value.category]; done) | rfl
def Quk (Z : State) (a1 : Addr) (k1 : ClassId) (vs : List Value) (NZ p1 : Int32) (h0 : Heap) (n0 : Nat) (v : Option Value) (h : Heap) (L : List Loc) : Prop := v = none ∧ Fr n0 L ∧ h = h0
theorem rmuk (l : Launch) (Z : State) (a0 : Array Value) (hw : own_W Z a0) (ws : List Jvm.Cond) (a1 : Addr) (k1 : ClassId) (vs : List Value) (NZ p1 : Int32) (h0 : Heap) (n0 : Nat) (Z0 : n0 ≤ h0.size) (As : Arv Z h0 a1 k1 .byte NZ vs (.int 0)) (EN : own_env Z h0) (hp1 : ¬ p1 < (0 : Int32)) (hp2 : p1 < (NZ >>> ((1 : Int32) &&& 31))) :
  own_M l Z own_z53 own_c8 2 none ({ frames := 2, cells := 0, slots := 0, locals := 29 } : Room) ws #[(.int p1), (.ref a1)] h0 (Quk Z a1 k1 vs NZ p1 h0 n0) := by
 refine MetFree.of_bodySF (plainFor_of_name pn_k5) hisR ?_
 intro p e s m args below meth c s₁ Bd hml0 hP hK
 obtain ⟨rfl, hZ, hh⟩ := hP
 have hx := Bd.exec
 have hby := Bd.bytes
 have hml : c.maxLocals = 2 := hml0
 have hown : s.vm.findClass "java/lang/StringUTF16" = some m.cls := findClass_of_methodNamed Bd.named
 have X0 : Stand p l e ({ frames := 2, cells := 0, slots := 0, locals := 29 } : Room) s m #[(.int p1), (.ref a1)] below meth c s₁ [] 0 0 := Stand.of_body Bd
 have e0 : s₁.heap = h0 := by rw [← hh, Bd.state]; rfl
 have N0 := Fr.nil n0
 obtain ⟨PP, hPs, pre0⟩ : ∃ PP : State → Prop, (∀ t, PP t → Steps p.tables e below (s₁.setTop (entryFrame m #[(.int p1), (.ref a1)] 2)) t) ∧ own_pr p e below PP s₁ (mkF m 0 #[.val (.int p1), .val (.ref a1)] []) := ⟨_, fun _ κ => κ, fun τ κ => castTop (ef_uk m p1 a1) κ⟩
 obtain ⟨_, T1, Lc1, X1, hQ1, st1⟩ := own_cS X0 hx hZ (y := own_z54) hown (wd247 hw) (wd248 hw) (wd110 hw) (wd249 hw) (by decide) (rmul l Z a0 hw [] a1 k1 vs NZ h0 n0 Z0 As) 1 (by decide) (g := (mkF m 2 #[.val (.int p1), .val (.ref a1)] [(.ref a1), (.int p1)])) rfl hml.symm [(.ref a1)] [(.int p1)] (lenOf pd_ul rfl) rfl rfl (hb hby d51_2) e0 rfl
 obtain ⟨rfl, N1q, q1⟩ := hQ1
 have N1 := Fr.app N0 N1q
 obtain ⟨_, T2, Lc2, X2, hQ2, st2⟩ := own_cS X1 hx hZ (y := own_z25) hown (wd250 hw) (wd133 hw) (wd8 hw) (wd134 hw) (by decide) (rmki l Z a0 hw [] p1 (NZ >>> ((1 : Int32) &&& 31)) h0 n0 Z0 EN hp1 hp2) 0 (by decide) (g := (mkF m 5 #[.val (.int p1), .val (.ref a1)] [(.int (NZ >>> ((1 : Int32) &&& 31))), (.int p1)])) rfl hml.symm [(.int p1), (.int (NZ >>> ((1 : Int32) &&& 31)))] [] (lenOf pd_ki rfl) rfl rfl (hb hby d51_5) q1 rfl
 obtain ⟨rfl, N2q, q2⟩ := hQ2
 have N2 := Fr.app N1 N2q
 have pre3 : own_pr p e below PP T2 (mkF m 8 #[.val (.int p1), .val (.ref a1)] []) := fun τ κ => pre0 τ (by
  show own_st p e below s₁ (mkF m 0 #[.val (.int p1), .val (.ref a1)] []) _
  refine XS.iloadN X0.here hx rfl (hb hby d51_0) rfl ?_
  refine XS.aloadN X0.here hx rfl (hb hby d51_1) rfl rfl ?_
  refine st1 _ ?_
  refine st2 _ ?_
  exact κ)
 obtain ⟨fs4, hr4, hrun4, hended4, hW4, hsame4⟩ := X2.leave (v := none) (fun _ => rfl)
 refine ⟨_, _, hPs _ (pre3 _ ?_), hrun4, hended4, _, _, rfl, ?_, ⟨_, rfl⟩, hW4, hsame4.mono (by decide) (by decide)⟩
 ·show own_st p e below T2 (mkF m 8 #[.val (.int p1), .val (.ref a1)] []) _
  exact X2.returnOut hx Bd.returns (hb hby d51_8) hr4
 ·show Quk Z a1 k1 vs NZ p1 h0 n0 _ T2.heap _
  rw [q2]
  exact ⟨rfl, N2, rfl⟩

theorem d22_0 : own_D own_c9 0 (.getstatic 38) 3 := by decide +kernel
theorem d22_3 : own_D own_c9 3 (.ifCond .eq 14) 3 := by decide +kernel
theorem d22_6 : own_D own_c9 6 (.aload_n 0) 1 := by decide +kernel
theorem d22_7 : own_D own_c9 7 (.getfield 15) 3 := by decide +kernel
theorem d22_10 : own_D own_c9 10 (.ifCond .ne 7) 3 := by decide +kernel
theorem d22_13 : own_D own_c9 13 (.iconst 1) 1 := by decide +kernel
theorem d22_14 : own_D own_c9 14 (.goto 4) 3 := by decide +kernel
theorem d22_17 : own_D own_c9 17 (.iconst 0) 1 := by decide +kernel
theorem d22_18 : own_D own_c9 18 (.ireturn) 1 := by decide +kernel

theorem pd_l1 : parseMethodDescriptor "()Z" = some ⟨[], some .boolean⟩ := by decide +kernel

def Ql1 (Z : State) (a1 : Addr) (h0 : Heap) (n0 : Nat) (v : Option Value) (h : Heap) (L : List Loc) : Prop := v = some (.int (1 : Int32)) ∧ Fr n0 L ∧ h = h0
theorem rml1 (l : Launch) (Z : State) (a0 : Array Value) (hw : own_W Z a0) (ws : List Jvm.Cond) (a1 : Addr) (h0 : Heap) (n0 : Nat) (Z0 : n0 ≤ h0.size) (EN : own_env Z h0) (C1 : Fld Z h0 a1 "java/lang/String" "coder" "B" (.int 0)) :
  own_M l Z own_z23 own_c9 1 (some .boolean) ({ frames := 0, cells := 0, slots := 0, locals := 0 } : Room) ws #[(.ref a1)] h0 (Ql1 Z a1 h0 n0) := by
 refine MetFree.of_bodySF (plainFor_of_name pn_k2) hisR ?_
 intro p e s m args below meth c s₁ Bd hml0 hP hK
 obtain ⟨rfl, hZ, hh⟩ := hP
 have hx := Bd.exec
 have hby := Bd.bytes
 have hml : c.maxLocals = 1 := hml0
 have hown : s.vm.findClass "java/lang/String" = some m.cls := findClass_of_methodNamed Bd.named
 have X0 : Stand p l e ({ frames := 0, cells := 0, slots := 0, locals := 0 } : Room) s m #[(.ref a1)] below meth c s₁ [] 0 0 := Stand.of_body Bd
 have e0 : s₁.heap = h0 := by rw [← hh, Bd.state]; rfl
 have N0 := Fr.nil n0
 obtain ⟨PP, hPs, pre0⟩ : ∃ PP : State → Prop, (∀ t, PP t → Steps p.tables e below (s₁.setTop (entryFrame m #[(.ref a1)] 1)) t) ∧ own_pr p e below PP s₁ (mkF m 0 #[.val (.ref a1)] []) := ⟨_, fun _ κ => κ, fun τ κ => castTop (ef_ul m a1) κ⟩
 obtain ⟨z, fm, Sz, hz, Sf, hfm, Sa, Sh, Sl⟩ := EN
 obtain ⟨T1, X1, e1, st1⟩ := getS2 X0 hx hZ hown (host := "") (Or.inl (wd45 hw)) Via.refl e0 Sz (g := (mkF m 0 #[.val (.ref a1)] [])) rfl (hb hby d22_0)
 obtain ⟨T2, X2, e2, st2⟩ := getF X1 hx hZ hown (host := "") (Or.inl (wd27 hw)) Via.refl e1 C1 (g := (mkF m 7 #[.val (.ref a1)] [(.ref a1)])) rfl rfl (hb hby d22_7)
 have pre3 : own_pr p e below PP T2 (mkF m 18 #[.val (.ref a1)] [(.int (1 : Int32))]) := fun τ κ => pre0 τ (by
  show own_st p e below s₁ (mkF m 0 #[.val (.ref a1)] []) _
  refine st1 _ ?_
  refine XS.ifNo X1.here hx rfl (hb hby d22_3) rfl ((if0 _ _).trans (feq hz).1) ?_
  refine XS.aloadN X1.here hx rfl (hb hby d22_6) rfl rfl ?_
  refine st2 _ ?_
  refine XS.ifNo X2.here hx rfl (hb hby d22_10) rfl ((if0 _ _).trans (teq (by decide : (0 : Int32) = (0 : Int32))).2) ?_
  refine XS.iconst X2.here hx rfl (hb hby d22_13) ?_
  refine XS.goto X2.here hx rfl (pc0 := 14) (pc' := 18) rfl (hb hby d22_14) (by decide) (by decide) ?_
  exact κ)
 obtain ⟨fs4, hr4, hrun4, hended4, hW4, hsame4⟩ := X2.leave (v := some (.int (1 : Int32))) (fun h => by rw [Bd.returns] at h; cases h)
 refine ⟨_, _, hPs _ (pre3 _ ?_), hrun4, hended4, _, _, rfl, ?_, ⟨_, rfl⟩, hW4, hsame4.mono (by decide) (by decide)⟩
 ·show own_st p e below T2 (mkF m 18 #[.val (.ref a1)] [(.int (1 : Int32))]) _
  exact retN X2 hx (t := .boolean) Bd.returns (by simp) (hb hby d22_18) hr4
 ·show Ql1 Z a1 h0 n0 _ T2.heap _
  rw [e2]
  exact ⟨rfl, N0, rfl⟩

theorem d7_0 : own_D own_c10 0 (.getstatic 38) 3 := by decide +kernel
theorem d7_3 : own_D own_c10 3 (.ifCond .eq 10) 3 := by decide +kernel
theorem d7_6 : own_D own_c10 6 (.aload_n 0) 1 := by decide +kernel
theorem d7_7 : own_D own_c10 7 (.getfield 15) 3 := by decide +kernel
theorem d7_10 : own_D own_c10 10 (.goto 4) 3 := by decide +kernel
theorem d7_14 : own_D own_c10 14 (.ireturn) 1 := by decide +kernel

theorem pd_cd0 : parseMethodDescriptor "()B" = some ⟨[], some .byte⟩ := by decide +kernel

def Qcd0 (Z : State) (a1 : Addr) (h0 : Heap) (n0 : Nat) (v : Option Value) (h : Heap) (L : List Loc) : Prop := v = some (.int (0 : Int32)) ∧ Fr n0 L ∧ h = h0
theorem rmcd0 (l : Launch) (Z : State) (a0 : Array Value) (hw : own_W Z a0) (ws : List Jvm.Cond) (a1 : Addr) (h0 : Heap) (n0 : Nat) (Z0 : n0 ≤ h0.size) (EN : own_env Z h0) (C1 : Fld Z h0 a1 "java/lang/String" "coder" "B" (.int 0)) :
  own_M l Z own_z6 own_c10 1 (some .byte) ({ frames := 0, cells := 0, slots := 0, locals := 0 } : Room) ws #[(.ref a1)] h0 (Qcd0 Z a1 h0 n0) := by
 refine MetFree.of_bodySF (plainFor_of_name pn_k2) hisR ?_
 intro p e s m args below meth c s₁ Bd hml0 hP hK
 obtain ⟨rfl, hZ, hh⟩ := hP
 have hx := Bd.exec
 have hby := Bd.bytes
 have hml : c.maxLocals = 1 := hml0
 have hown : s.vm.findClass "java/lang/String" = some m.cls := findClass_of_methodNamed Bd.named
 have X0 : Stand p l e ({ frames := 0, cells := 0, slots := 0, locals := 0 } : Room) s m #[(.ref a1)] below meth c s₁ [] 0 0 := Stand.of_body Bd
 have e0 : s₁.heap = h0 := by rw [← hh, Bd.state]; rfl
 have N0 := Fr.nil n0
 obtain ⟨PP, hPs, pre0⟩ : ∃ PP : State → Prop, (∀ t, PP t → Steps p.tables e below (s₁.setTop (entryFrame m #[(.ref a1)] 1)) t) ∧ own_pr p e below PP s₁ (mkF m 0 #[.val (.ref a1)] []) := ⟨_, fun _ κ => κ, fun τ κ => castTop (ef_ul m a1) κ⟩
 obtain ⟨z, fm, Sz, hz, Sf, hfm, Sa, Sh, Sl⟩ := EN
 obtain ⟨T1, X1, e1, st1⟩ := getS2 X0 hx hZ hown (host := "") (Or.inl (wd45 hw)) Via.refl e0 Sz (g := (mkF m 0 #[.val (.ref a1)] [])) rfl (hb hby d7_0)
 obtain ⟨T2, X2, e2, st2⟩ := getF X1 hx hZ hown (host := "") (Or.inl (wd27 hw)) Via.refl e1 C1 (g := (mkF m 7 #[.val (.ref a1)] [(.ref a1)])) rfl rfl (hb hby d7_7)
 have pre3 : own_pr p e below PP T2 (mkF m 14 #[.val (.ref a1)] [(.int (0 : Int32))]) := fun τ κ => pre0 τ (by
  show own_st p e below s₁ (mkF m 0 #[.val (.ref a1)] []) _
  refine st1 _ ?_
  refine XS.ifNo X1.here hx rfl (hb hby d7_3) rfl ((if0 _ _).trans (feq hz).1) ?_
  refine XS.aloadN X1.here hx rfl (hb hby d7_6) rfl rfl ?_
  refine st2 _ ?_
  refine XS.goto X2.here hx rfl (pc0 := 10) (pc' := 14) rfl (hb hby d7_10) (by decide) (by decide) ?_
  exact κ)
 obtain ⟨fs4, hr4, hrun4, hended4, hW4, hsame4⟩ := X2.leave (v := some (.int (0 : Int32))) (fun h => by rw [Bd.returns] at h; cases h)
 refine ⟨_, _, hPs _ (pre3 _ ?_), hrun4, hended4, _, _, rfl, ?_, ⟨_, rfl⟩, hW4, hsame4.mono (by decide) (by decide)⟩
 ·show own_st p e below T2 (mkF m 14 #[.val (.ref a1)] [(.int (0 : Int32))]) _
  exact retN X2 hx (t := .byte) Bd.returns (by simp) (hb hby d7_14) hr4
 ·show Qcd0 Z a1 h0 n0 _ T2.heap _
  rw [e2]
  exact ⟨rfl, N0, rfl⟩


def Ql1w (Z : State) (a1 : Addr) (h0 : Heap) (n0 : Nat) (v : Option Value) (h : Heap) (L : List Loc) : Prop := v = some (.int (0 : Int32)) ∧ Fr n0 L ∧ h = h0
theorem rml1w (l : Launch) (Z : State) (a0 : Array Value) (hw : own_W Z a0) (ws : List Jvm.Cond) (a1 : Addr) (h0 : Heap) (n0 : Nat) (Z0 : n0 ≤ h0.size) (EN : own_env Z h0) (C1 : Fld Z h0 a1 "java/lang/String" "coder" "B" (.int 1)) :
  own_M l Z own_z23 own_c9 1 (some .boolean) ({ frames := 0, cells := 0, slots := 0, locals := 0 } : Room) ws #[(.ref a1)] h0 (Ql1w Z a1 h0 n0) := by
 refine MetFree.of_bodySF (plainFor_of_name pn_k2) hisR ?_
 intro p e s m args below meth c s₁ Bd hml0 hP hK
 obtain ⟨rfl, hZ, hh⟩ := hP
 have hx := Bd.exec
 have hby := Bd.bytes
 have hml : c.maxLocals = 1 := hml0
 have hown : s.vm.findClass "java/lang/String" = some m.cls := findClass_of_methodNamed Bd.named
 have X0 : Stand p l e ({ frames := 0, cells := 0, slots := 0, locals := 0 } : Room) s m #[(.ref a1)] below meth c s₁ [] 0 0 := Stand.of_body Bd
 have e0 : s₁.heap = h0 := by rw [← hh, Bd.state]; rfl
 have N0 := Fr.nil n0
 obtain ⟨PP, hPs, pre0⟩ : ∃ PP : State → Prop, (∀ t, PP t → Steps p.tables e below (s₁.setTop (entryFrame m #[(.ref a1)] 1)) t) ∧ own_pr p e below PP s₁ (mkF m 0 #[.val (.ref a1)] []) := ⟨_, fun _ κ => κ, fun τ κ => castTop (ef_ul m a1) κ⟩
 obtain ⟨z, fm, Sz, hz, Sf, hfm, Sa, Sh, Sl⟩ := EN
 obtain ⟨T1, X1, e1, st1⟩ := getS2 X0 hx hZ hown (host := "") (Or.inl (wd45 hw)) Via.refl e0 Sz (g := (mkF m 0 #[.val (.ref a1)] [])) rfl (hb hby d22_0)
 obtain ⟨T2, X2, e2, st2⟩ := getF X1 hx hZ hown (host := "") (Or.inl (wd27 hw)) Via.refl e1 C1 (g := (mkF m 7 #[.val (.ref a1)] [(.ref a1)])) rfl rfl (hb hby d22_7)
 have pre3 : own_pr p e below PP T2 (mkF m 18 #[.val (.ref a1)] [(.int (0 : Int32))]) := fun τ κ => pre0 τ (by
  show own_st p e below s₁ (mkF m 0 #[.val (.ref a1)] []) _
  refine st1 _ ?_
  refine XS.ifNo X1.here hx rfl (hb hby d22_3) rfl ((if0 _ _).trans (feq hz).1) ?_
  refine XS.aloadN X1.here hx rfl (hb hby d22_6) rfl rfl ?_
  refine st2 _ ?_
  refine XS.ifYes X2.here hx rfl (pc0 := 10) (pc' := 17) rfl (hb hby d22_10) rfl ((if0 _ _).trans (feq (by decide : ¬ ((1 : Int32) = (0 : Int32)))).2) (by decide) (by decide) ?_
  refine XS.iconst X2.here hx rfl (hb hby d22_17) ?_
  exact κ)
 obtain ⟨fs4, hr4, hrun4, hended4, hW4, hsame4⟩ := X2.leave (v := some (.int (0 : Int32))) (fun h => by rw [Bd.returns] at h; cases h)
 refine ⟨_, _, hPs _ (pre3 _ ?_), hrun4, hended4, _, _, rfl, ?_, ⟨_, rfl⟩, hW4, hsame4.mono (by decide) (by decide)⟩
 ·show own_st p e below T2 (mkF m 18 #[.val (.ref a1)] [(.int (0 : Int32))]) _
  exact retN X2 hx (t := .boolean) Bd.returns (by simp) (hb hby d22_18) hr4
 ·show Ql1w Z a1 h0 n0 _ T2.heap _
  rw [e2]
  exact ⟨rfl, N0, rfl⟩


def Qcd1 (Z : State) (a1 : Addr) (h0 : Heap) (n0 : Nat) (v : Option Value) (h : Heap) (L : List Loc) : Prop := v = some (.int (1 : Int32)) ∧ Fr n0 L ∧ h = h0
theorem rmcd1 (l : Launch) (Z : State) (a0 : Array Value) (hw : own_W Z a0) (ws : List Jvm.Cond) (a1 : Addr) (h0 : Heap) (n0 : Nat) (Z0 : n0 ≤ h0.size) (EN : own_env Z h0) (C1 : Fld Z h0 a1 "java/lang/String" "coder" "B" (.int 1)) :
  own_M l Z own_z6 own_c10 1 (some .byte) ({ frames := 0, cells := 0, slots := 0, locals := 0 } : Room) ws #[(.ref a1)] h0 (Qcd1 Z a1 h0 n0) := by
 refine MetFree.of_bodySF (plainFor_of_name pn_k2) hisR ?_
 intro p e s m args below meth c s₁ Bd hml0 hP hK
 obtain ⟨rfl, hZ, hh⟩ := hP
 have hx := Bd.exec
 have hby := Bd.bytes
 have hml : c.maxLocals = 1 := hml0
 have hown : s.vm.findClass "java/lang/String" = some m.cls := findClass_of_methodNamed Bd.named
 have X0 : Stand p l e ({ frames := 0, cells := 0, slots := 0, locals := 0 } : Room) s m #[(.ref a1)] below meth c s₁ [] 0 0 := Stand.of_body Bd
 have e0 : s₁.heap = h0 := by rw [← hh, Bd.state]; rfl
 have N0 := Fr.nil n0
 obtain ⟨PP, hPs, pre0⟩ : ∃ PP : State → Prop, (∀ t, PP t → Steps p.tables e below (s₁.setTop (entryFrame m #[(.ref a1)] 1)) t) ∧ own_pr p e below PP s₁ (mkF m 0 #[.val (.ref a1)] []) := ⟨_, fun _ κ => κ, fun τ κ => castTop (ef_ul m a1) κ⟩
 obtain ⟨z, fm, Sz, hz, Sf, hfm, Sa, Sh, Sl⟩ := EN
 obtain ⟨T1, X1, e1, st1⟩ := getS2 X0 hx hZ hown (host := "") (Or.inl (wd45 hw)) Via.refl e0 Sz (g := (mkF m 0 #[.val (.ref a1)] [])) rfl (hb hby d7_0)
 obtain ⟨T2, X2, e2, st2⟩ := getF X1 hx hZ hown (host := "") (Or.inl (wd27 hw)) Via.refl e1 C1 (g := (mkF m 7 #[.val (.ref a1)] [(.ref a1)])) rfl rfl (hb hby d7_7)
 have pre3 : own_pr p e below PP T2 (mkF m 14 #[.val (.ref a1)] [(.int (1 : Int32))]) := fun τ κ => pre0 τ (by
  show own_st p e below s₁ (mkF m 0 #[.val (.ref a1)] []) _
  refine st1 _ ?_
  refine XS.ifNo X1.here hx rfl (hb hby d7_3) rfl ((if0 _ _).trans (feq hz).1) ?_
  refine XS.aloadN X1.here hx rfl (hb hby d7_6) rfl rfl ?_
  refine st2 _ ?_
  refine XS.goto X2.here hx rfl (pc0 := 10) (pc' := 14) rfl (hb hby d7_10) (by decide) (by decide) ?_
  exact κ)
 obtain ⟨fs4, hr4, hrun4, hended4, hW4, hsame4⟩ := X2.leave (v := some (.int (1 : Int32))) (fun h => by rw [Bd.returns] at h; cases h)
 refine ⟨_, _, hPs _ (pre3 _ ?_), hrun4, hended4, _, _, rfl, ?_, ⟨_, rfl⟩, hW4, hsame4.mono (by decide) (by decide)⟩
 ·show own_st p e below T2 (mkF m 14 #[.val (.ref a1)] [(.int (1 : Int32))]) _
  exact retN X2 hx (t := .byte) Bd.returns (by simp) (hb hby d7_14) hr4
 ·show Qcd1 Z a1 h0 n0 _ T2.heap _
  rw [e2]
  exact ⟨rfl, N0, rfl⟩

theorem d6_0 : own_D own_c11 0 (.aload_n 0) 1 := by decide +kernel
theorem d6_1 : own_D own_c11 1 (.getfield 9) 3 := by decide +kernel
theorem d6_4 : own_D own_c11 4 (.arraylength) 1 := by decide +kernel
theorem d6_5 : own_D own_c11 5 (.aload_n 0) 1 := by decide +kernel
theorem d6_6 : own_D own_c11 6 (.invokevirtual 335) 3 := by decide +kernel
theorem d6_9 : own_D own_c11 9 (.ishr) 1 := by decide +kernel
theorem d6_10 : own_D own_c11 10 (.ireturn) 1 := by decide +kernel

theorem pd_sl : parseMethodDescriptor "()I" = some ⟨[], some .int⟩ := by decide +kernel

def Qsl (Z : State) (x : Addr) (cs : List Int32) (cd : Int32) (h0 : Heap) (n0 : Nat) (v : Option Value) (h : Heap) (L : List Loc) : Prop := v = some (.int (Int32.ofNat cs.length)) ∧ Fr n0 L ∧ h = h0
theorem rmsl (l : Launch) (Z : State) (a0 : Array Value) (hw : own_W Z a0) (ws : List Jvm.Cond) (x : Addr) (cs : List Int32) (cd : Int32) (h0 : Heap) (n0 : Nat) (Z0 : n0 ≤ h0.size) (SX : own_s Z h0 x cs cd) (EN : own_env Z h0) (hle : cs.length < 20) :
  own_M l Z own_z5 own_c11 1 (some .int) ({ frames := 1, cells := 0, slots := 0, locals := 13 } : Room) ws #[(.ref x)] h0 (Qsl Z x cs cd h0 n0) := by
 refine MetFree.of_bodySF (plainFor_of_name pn_k2) hisR ?_
 intro p e s m args below meth c s₁ Bd hml0 hP hK
 obtain ⟨rfl, hZ, hh⟩ := hP
 have hx := Bd.exec
 have hby := Bd.bytes
 have hml : c.maxLocals = 1 := hml0
 have hown : s.vm.findClass "java/lang/String" = some m.cls := findClass_of_methodNamed Bd.named
 have X0 : Stand p l e ({ frames := 1, cells := 0, slots := 0, locals := 13 } : Room) s m #[(.ref x)] below meth c s₁ [] 0 0 := Stand.of_body Bd
 have e0 : s₁.heap = h0 := by rw [← hh, Bd.state]; rfl
 have N0 := Fr.nil n0
 obtain ⟨PP, hPs, pre0⟩ : ∃ PP : State → Prop, (∀ t, PP t → Steps p.tables e below (s₁.setTop (entryFrame m #[(.ref x)] 1)) t) ∧ own_pr p e below PP s₁ (mkF m 0 #[.val (.ref x)] []) := ⟨_, fun _ κ => κ, fun τ κ => castTop (ef_ul m x) κ⟩
 have SX0 := SX
 obtain ⟨tv, kb, N, vs, Ex, Vv, Cc, Kk, hcd⟩ := SX0
 rcases hcd with ⟨hcz, rfl, rfl, hxx⟩ | ⟨hcz, rfl, rfl, hxx⟩
 ·have Cz := Cc
  rw [hcz] at Cz
  obtain ⟨T1, X1, e1, st1⟩ := getF X0 hx hZ hown (host := "") (Or.inl (wd26 hw)) Via.refl e0 Vv (g := (mkF m 1 #[.val (.ref x)] [(.ref x)])) rfl rfl (hb hby d6_1)
  have Vc2 := Kk
  obtain ⟨cl2, Ar2, qq2, sz2, nn2, Ha2, Gf2⟩ := Vc2
  obtain ⟨_, T3, Lc3, X3, hQ3, st3⟩ := own_cV X1 hx hZ (y := own_z6) (z := own_z6) hown (wd40 hw) (wd41 hw) (wd43 hw) rfl (wd43 hw) (wd42 hw) (wd44 hw) (wd8 hw) (by decide) (rmcd0 l Z a0 hw [] x h0 n0 Z0 EN Cz) Ex 1 (by decide) (g := (mkF m 6 #[.val (.ref x)] [(.ref x), (.int (Int32.ofNat cs.length))])) rfl hml.symm [] [(.int (Int32.ofNat cs.length))] (lenOf pd_cd0 rfl) rfl rfl (hb hby d6_6) e1 rfl
  obtain ⟨rfl, N3q, q3⟩ := hQ3
  have N3 := Fr.app N0 N3q
  have pre4 : own_pr p e below PP T3 (mkF m 10 #[.val (.ref x)] [(.int ((Int32.ofNat cs.length) >>> ((0 : Int32) &&& 31)))]) := fun τ κ => pre0 τ (by
   show own_st p e below s₁ (mkF m 0 #[.val (.ref x)] []) _
   refine XS.aloadN X0.here hx rfl (hb hby d6_0) rfl rfl ?_
   refine st1 _ ?_
   refine X1.arraylength hx (by rw [e1]; exact Ar2.1) (State.isArrayOf_alike hZ.alike Ar2.2.1) (g := (mkF m 4 #[.val (.ref x)] [(.ref tv)])) rfl rfl (hb hby d6_4) _ ?_
   rw [len_of sz2 nn2]
   refine XS.aloadN X1.here hx rfl (hb hby d6_5) rfl rfl ?_
   refine st3 _ ?_
   refine XS.ishr X3.here hx rfl (hb hby d6_9) rfl ?_
   exact κ)
  obtain ⟨fs5, hr5, hrun5, hended5, hW5, hsame5⟩ := X3.leave (v := some (.int ((Int32.ofNat cs.length) >>> ((0 : Int32) &&& 31)))) (fun h => by rw [Bd.returns] at h; cases h)
  refine ⟨_, _, hPs _ (pre4 _ ?_), hrun5, hended5, _, _, rfl, ?_, ⟨_, rfl⟩, hW5, hsame5.mono (by decide) (by decide)⟩
  ·show own_st p e below T3 (mkF m 10 #[.val (.ref x)] [(.int ((Int32.ofNat cs.length) >>> ((0 : Int32) &&& 31)))]) _
   exact retOut X3 hx (t := .int) Bd.returns rfl (Or.inl ⟨rfl, Or.inl rfl, _, rfl⟩) (hb hby d6_10) hr5
  ·show Qsl Z x cs cd h0 n0 _ T3.heap _
   rw [q3]
   exact ⟨by rw [own_sh0], N3, rfl⟩
 ·have Cz := Cc
  rw [hcz] at Cz
  obtain ⟨T6, X6, e6, st6⟩ := getF X0 hx hZ hown (host := "") (Or.inl (wd26 hw)) Via.refl e0 Vv (g := (mkF m 1 #[.val (.ref x)] [(.ref x)])) rfl rfl (hb hby d6_1)
  have Vc7 := Kk
  obtain ⟨cl7, Ar7, qq7, sz7, nn7, Ha7, Gf7⟩ := Vc7
  obtain ⟨_, T8, Lc8, X8, hQ8, st8⟩ := own_cV X6 hx hZ (y := own_z6) (z := own_z6) hown (wd40 hw) (wd41 hw) (wd43 hw) rfl (wd43 hw) (wd42 hw) (wd44 hw) (wd8 hw) (by decide) (rmcd1 l Z a0 hw [] x h0 n0 Z0 EN Cz) Ex 1 (by decide) (g := (mkF m 6 #[.val (.ref x)] [(.ref x), (.int (Int32.ofNat (2 * cs.length)))])) rfl hml.symm [] [(.int (Int32.ofNat (2 * cs.length)))] (lenOf pd_cd0 rfl) rfl rfl (hb hby d6_6) e6 rfl
  obtain ⟨rfl, N8q, q8⟩ := hQ8
  have N8 := Fr.app N0 N8q
  have pre9 : own_pr p e below PP T8 (mkF m 10 #[.val (.ref x)] [(.int ((Int32.ofNat (2 * cs.length)) >>> ((1 : Int32) &&& 31)))]) := fun τ κ => pre0 τ (by
   show own_st p e below s₁ (mkF m 0 #[.val (.ref x)] []) _
   refine XS.aloadN X0.here hx rfl (hb hby d6_0) rfl rfl ?_
   refine st6 _ ?_
   refine X6.arraylength hx (by rw [e6]; exact Ar7.1) (State.isArrayOf_alike hZ.alike Ar7.2.1) (g := (mkF m 4 #[.val (.ref x)] [(.ref tv)])) rfl rfl (hb hby d6_4) _ ?_
   rw [len_of sz7 nn7]
   refine XS.aloadN X6.here hx rfl (hb hby d6_5) rfl rfl ?_
   refine st8 _ ?_
   refine XS.ishr X8.here hx rfl (hb hby d6_9) rfl ?_
   exact κ)
  obtain ⟨fs10, hr10, hrun10, hended10, hW10, hsame10⟩ := X8.leave (v := some (.int ((Int32.ofNat (2 * cs.length)) >>> ((1 : Int32) &&& 31)))) (fun h => by rw [Bd.returns] at h; cases h)
  refine ⟨_, _, hPs _ (pre9 _ ?_), hrun10, hended10, _, _, rfl, ?_, ⟨_, rfl⟩, hW10, hsame10.mono (by decide) (by decide)⟩
  ·show own_st p e below T8 (mkF m 10 #[.val (.ref x)] [(.int ((Int32.ofNat (2 * cs.length)) >>> ((1 : Int32) &&& 31)))]) _
   exact retOut X8 hx (t := .int) Bd.returns rfl (Or.inl ⟨rfl, Or.inl rfl, _, rfl⟩) (hb hby d6_10) hr10
  ·show Qsl Z x cs cd h0 n0 _ T8.heap _
   rw [q8]
   exact ⟨by rw [own_shr _ (by omega)], N8, rfl⟩

def own_rd (cl : Cell) (j y : Int32) : Prop := ¬ (j < 0 ∨ cl.slots.size ≤ j.toNatClampNeg) ∧ cl.slots[j.toNatClampNeg]? = some (.int y)
theorem own_rdOf {c : Cell} {z j y : Int32} {vs : List Value} {dv : Value} (S : c.slots.size = z.toNatClampNeg) (H : Has c vs dv) (q : ¬ j < 0 ∧ j < z) (u : vs.getD j.toNatClampNeg dv = .int y) : own_rd c j y := ⟨inb_of S q, Has.at H (inb_of S q) u⟩

theorem d49_0 : own_D own_c12 0 (.getstatic 44) 3 := by decide +kernel
theorem d49_3 : own_D own_c12 3 (.ifCond .ne 25) 3 := by decide +kernel
theorem d49_28 : own_D own_c12 28 (.iload_n 1) 1 := by decide +kernel
theorem d49_29 : own_D own_c12 29 (.iconst 1) 1 := by decide +kernel
theorem d49_30 : own_D own_c12 30 (.ishl) 1 := by decide +kernel
theorem d49_31 : own_D own_c12 31 (.istore_n 1) 1 := by decide +kernel
theorem d49_32 : own_D own_c12 32 (.aload_n 0) 1 := by decide +kernel
theorem d49_33 : own_D own_c12 33 (.iload_n 1) 1 := by decide +kernel
theorem d49_34 : own_D own_c12 34 (.iinc 1 1) 3 := by decide +kernel
theorem d49_37 : own_D own_c12 37 (.baload) 1 := by decide +kernel
theorem d49_38 : own_D own_c12 38 (.sipush 255) 3 := by decide +kernel
theorem d49_41 : own_D own_c12 41 (.iand) 1 := by decide +kernel
theorem d49_42 : own_D own_c12 42 (.getstatic 59) 3 := by decide +kernel
theorem d49_45 : own_D own_c12 45 (.ishl) 1 := by decide +kernel
theorem d49_46 : own_D own_c12 46 (.aload_n 0) 1 := by decide +kernel
theorem d49_47 : own_D own_c12 47 (.iload_n 1) 1 := by decide +kernel
theorem d49_48 : own_D own_c12 48 (.baload) 1 := by decide +kernel
theorem d49_49 : own_D own_c12 49 (.sipush 255) 3 := by decide +kernel
theorem d49_52 : own_D own_c12 52 (.iand) 1 := by decide +kernel
theorem d49_53 : own_D own_c12 53 (.getstatic 63) 3 := by decide +kernel
theorem d49_56 : own_D own_c12 56 (.ishl) 1 := by decide +kernel
theorem d49_57 : own_D own_c12 57 (.ior) 1 := by decide +kernel
theorem d49_58 : own_D own_c12 58 (.i2c) 1 := by decide +kernel
theorem d49_59 : own_D own_c12 59 (.ireturn) 1 := by decide +kernel

theorem pd_gc : parseMethodDescriptor "([BI)C" = some ⟨[(.array .byte), .int], some .char⟩ := by decide +kernel

theorem ef_gc (m : MethodId) (x0 : Addr) (x1 : Int32)  : entryFrame m #[(.ref x0), (.int x1)] 2 = mkF m 0 #[.val (.ref x0), .val (.int x1)] [] := by first | (simp [entryFrame, mkF, argsToLocals, Value.category]; done) | rfl
def Qgc (Z : State) (a1 : Addr) (cl : Cell) (p1 y0 y1 r : Int32) (h0 : Heap) (n0 : Nat) (v : Option Value) (h : Heap) (L : List Loc) : Prop := v = some (.int r) ∧ Fr n0 L ∧ h = h0
theorem rmgc (l : Launch) (Z : State) (a0 : Array Value) (hw : own_W Z a0) (ws : List Jvm.Cond) (a1 : Addr) (cl : Cell) (p1 y0 y1 r : Int32) (h0 : Heap) (n0 : Nat) (Z0 : n0 ≤ h0.size) (EN : own_env Z h0) (hr : own_gc y0 y1 = r) (A : Arr Z h0 a1 cl .byte) (r0 : own_rd cl (p1 <<< ((1 : Int32) &&& 31)) y0) (r1 : own_rd cl ((p1 <<< ((1 : Int32) &&& 31)) + (1 : Int32)) y1) :
  own_M l Z own_z51 own_c12 2 (some .char) ({ frames := 0, cells := 0, slots := 0, locals := 0 } : Room) ws #[(.ref a1), (.int p1)] h0 (Qgc Z a1 cl p1 y0 y1 r h0 n0) := by
 refine MetFree.of_bodySF (plainFor_of_name pn_k5) hisR ?_
 intro p e s m args below meth c s₁ Bd hml0 hP hK
 obtain ⟨rfl, hZ, hh⟩ := hP
 have hx := Bd.exec
 have hby := Bd.bytes
 have hml : c.maxLocals = 2 := hml0
 have hown : s.vm.findClass "java/lang/StringUTF16" = some m.cls := findClass_of_methodNamed Bd.named
 have X0 : Stand p l e ({ frames := 0, cells := 0, slots := 0, locals := 0 } : Room) s m #[(.ref a1), (.int p1)] below meth c s₁ [] 0 0 := Stand.of_body Bd
 have e0 : s₁.heap = h0 := by rw [← hh, Bd.state]; rfl
 have N0 := Fr.nil n0
 obtain ⟨PP, hPs, pre0⟩ : ∃ PP : State → Prop, (∀ t, PP t → Steps p.tables e below (s₁.setTop (entryFrame m #[(.ref a1), (.int p1)] 2)) t) ∧ own_pr p e below PP s₁ (mkF m 0 #[.val (.ref a1), .val (.int p1)] []) := ⟨_, fun _ κ => κ, fun τ κ => castTop (ef_gc m a1 p1) κ⟩
 obtain ⟨z, fm, Sz, hz, Sf, hfm, Sa, Sh, Sl⟩ := EN
 obtain ⟨T1, X1, e1, st1⟩ := getS2 X0 hx hZ hown (host := "") (Or.inl (wd235 hw)) Via.refl e0 Sa (g := (mkF m 0 #[.val (.ref a1), .val (.int p1)] [])) rfl (hb hby d49_0)
 obtain ⟨T2, X2, e2, st2⟩ := getS2 X1 hx hZ hown (host := "") (Or.inl (wd236 hw)) Via.refl e1 Sh (g := (mkF m 42 #[.val (.ref a1), .val (.int ((p1 <<< ((1 : Int32) &&& 31)) + (1 : Int32)))] [(.int (y0 &&& (255 : Int32)))])) rfl (hb hby d49_42)
 obtain ⟨T3, X3, e3, st3⟩ := getS2 X2 hx hZ hown (host := "") (Or.inl (wd237 hw)) Via.refl e2 Sl (g := (mkF m 53 #[.val (.ref a1), .val (.int ((p1 <<< ((1 : Int32) &&& 31)) + (1 : Int32)))] [(.int (y1 &&& (255 : Int32))), (.int ((y0 &&& (255 : Int32)) <<< ((0 : Int32) &&& 31)))])) rfl (hb hby d49_53)
 have pre4 : own_pr p e below PP T3 (mkF m 59 #[.val (.ref a1), .val (.int ((p1 <<< ((1 : Int32) &&& 31)) + (1 : Int32)))] [(.int ((((y0 &&& (255 : Int32)) <<< ((0 : Int32) &&& 31)) ||| ((y1 &&& (255 : Int32)) <<< ((8 : Int32) &&& 31))).toUInt32.toUInt16.toUInt32.toInt32))]) := fun τ κ => pre0 τ (by
  show own_st p e below s₁ (mkF m 0 #[.val (.ref a1), .val (.int p1)] []) _
  refine st1 _ ?_
  refine XS.ifYes X1.here hx rfl (pc0 := 3) (pc' := 28) rfl (hb hby d49_3) rfl ((if0 _ _).trans (feq (by decide : ¬ ((1 : Int32) = (0 : Int32)))).2) (by decide) (by decide) ?_
  refine XS.iloadN X1.here hx rfl (hb hby d49_28) rfl ?_
  refine XS.iconst X1.here hx rfl (hb hby d49_29) ?_
  refine XS.ishl X1.here hx rfl (hb hby d49_30) rfl ?_
  refine XS.istoreN X1.here hx rfl (hb hby d49_31) rfl (l' := #[.val (.ref a1), .val (.int (p1 <<< ((1 : Int32) &&& 31)))]) rfl ?_
  refine XS.aloadN X1.here hx rfl (hb hby d49_32) rfl rfl ?_
  refine XS.iloadN X1.here hx rfl (hb hby d49_33) rfl ?_
  refine XS.iinc X1.here hx rfl (hb hby d49_34) rfl (l' := #[.val (.ref a1), .val (.int ((p1 <<< ((1 : Int32) &&& 31)) + (1 : Int32)))]) rfl ?_
  refine X1.baloadBytes hx (j := (p1 <<< ((1 : Int32) &&& 31))) (v := (.int y0)) (by rw [e1]; exact A.1) (State.isArrayOf_alike hZ.alike A.2.1) A.2.2 r0.1 r0.2 (g := (mkF m 37 #[.val (.ref a1), .val (.int ((p1 <<< ((1 : Int32) &&& 31)) + (1 : Int32)))] [(.int (p1 <<< ((1 : Int32) &&& 31))), (.ref a1)])) rfl rfl (hb hby d49_37) _ ?_
  refine XS.sipush X1.here hx rfl (hb hby d49_38) ?_
  refine XS.iand X1.here hx rfl (hb hby d49_41) rfl ?_
  refine st2 _ ?_
  refine XS.ishl X2.here hx rfl (hb hby d49_45) rfl ?_
  refine XS.aloadN X2.here hx rfl (hb hby d49_46) rfl rfl ?_
  refine XS.iloadN X2.here hx rfl (hb hby d49_47) rfl ?_
  refine X2.baloadBytes hx (j := ((p1 <<< ((1 : Int32) &&& 31)) + (1 : Int32))) (v := (.int y1)) (by rw [e2]; exact A.1) (State.isArrayOf_alike hZ.alike A.2.1) A.2.2 r1.1 r1.2 (g := (mkF m 48 #[.val (.ref a1), .val (.int ((p1 <<< ((1 : Int32) &&& 31)) + (1 : Int32)))] [(.int ((p1 <<< ((1 : Int32) &&& 31)) + (1 : Int32))), (.ref a1), (.int ((y0 &&& (255 : Int32)) <<< ((0 : Int32) &&& 31)))])) rfl rfl (hb hby d49_48) _ ?_
  refine XS.sipush X2.here hx rfl (hb hby d49_49) ?_
  refine XS.iand X2.here hx rfl (hb hby d49_52) rfl ?_
  refine st3 _ ?_
  refine XS.ishl X3.here hx rfl (hb hby d49_56) rfl ?_
  refine XS.ior X3.here hx rfl (hb hby d49_57) rfl ?_
  refine XS.i2c X3.here hx rfl (hb hby d49_58) rfl ?_
  exact κ)
 obtain ⟨fs5, hr5, hrun5, hended5, hW5, hsame5⟩ := X3.leave (v := some (.int ((((y0 &&& (255 : Int32)) <<< ((0 : Int32) &&& 31)) ||| ((y1 &&& (255 : Int32)) <<< ((8 : Int32) &&& 31))).toUInt32.toUInt16.toUInt32.toInt32))) (fun h => by rw [Bd.returns] at h; cases h)
 refine ⟨_, _, hPs _ (pre4 _ ?_), hrun5, hended5, _, _, rfl, ?_, ⟨_, rfl⟩, hW5, hsame5.mono (by decide) (by decide)⟩
 ·show own_st p e below T3 (mkF m 59 #[.val (.ref a1), .val (.int ((p1 <<< ((1 : Int32) &&& 31)) + (1 : Int32)))] [(.int ((((y0 &&& (255 : Int32)) <<< ((0 : Int32) &&& 31)) ||| ((y1 &&& (255 : Int32)) <<< ((8 : Int32) &&& 31))).toUInt32.toUInt16.toUInt32.toInt32))]) _
  exact retOut X3 hx (t := .char) Bd.returns (own_narc (by first | exact own_bc _ | (unfold own_b; decide))) (Or.inl ⟨rfl, by simp, _, rfl⟩) (hb hby d49_59) hr5
 ·show Qgc Z a1 cl p1 y0 y1 r h0 n0 _ T3.heap _
  rw [e3]
  exact ⟨by rw [← hr]; rfl, N0, rfl⟩

theorem d48_0 : own_D own_c13 0 (.getstatic 44) 3 := by decide +kernel
theorem d48_3 : own_D own_c13 3 (.ifCond .ne 25) 3 := by decide +kernel
theorem d48_28 : own_D own_c13 28 (.iload_n 1) 1 := by decide +kernel
theorem d48_29 : own_D own_c13 29 (.iconst 1) 1 := by decide +kernel
theorem d48_30 : own_D own_c13 30 (.ishl) 1 := by decide +kernel
theorem d48_31 : own_D own_c13 31 (.istore_n 1) 1 := by decide +kernel
theorem d48_32 : own_D own_c13 32 (.aload_n 0) 1 := by decide +kernel
theorem d48_33 : own_D own_c13 33 (.iload_n 1) 1 := by decide +kernel
theorem d48_34 : own_D own_c13 34 (.iinc 1 1) 3 := by decide +kernel
theorem d48_37 : own_D own_c13 37 (.iload_n 2) 1 := by decide +kernel
theorem d48_38 : own_D own_c13 38 (.getstatic 59) 3 := by decide +kernel
theorem d48_41 : own_D own_c13 41 (.ishr) 1 := by decide +kernel
theorem d48_42 : own_D own_c13 42 (.i2b) 1 := by decide +kernel
theorem d48_43 : own_D own_c13 43 (.bastore) 1 := by decide +kernel
theorem d48_44 : own_D own_c13 44 (.aload_n 0) 1 := by decide +kernel
theorem d48_45 : own_D own_c13 45 (.iload_n 1) 1 := by decide +kernel
theorem d48_46 : own_D own_c13 46 (.iload_n 2) 1 := by decide +kernel
theorem d48_47 : own_D own_c13 47 (.getstatic 63) 3 := by decide +kernel
theorem d48_50 : own_D own_c13 50 (.ishr) 1 := by decide +kernel
theorem d48_51 : own_D own_c13 51 (.i2b) 1 := by decide +kernel
theorem d48_52 : own_D own_c13 52 (.bastore) 1 := by decide +kernel
theorem d48_53 : own_D own_c13 53 (.return_) 1 := by decide +kernel

theorem pd_pc : parseMethodDescriptor "([BII)V" = some ⟨[(.array .byte), .int, .int], none⟩ := by decide +kernel

theorem ef_pc (m : MethodId) (x0 : Addr) (x1 : Int32) (x2 : Int32)  : entryFrame m #[(.ref x0), (.int x1), (.int x2)] 3 = mkF m 0 #[.val (.ref x0), .val (.int x1), .val (.int x2)] [] := by first | (simp [entryFrame, mkF, argsToLocals, Value.category]; done) | rfl
def Qpc (Z : State) (a1 : Addr) (k1 : ClassId) (z1 : Int32) (vs : List Value) (m0 : Nat) (p1 p2 : Int32) (h0 : Heap) (n0 : Nat) (v : Option Value) (h : Heap) (L : List Loc) : Prop := v = none ∧ Fr n0 L ∧ Keep h0 h [a1] ∧ Arv Z h a1 k1 .byte z1 ((vs.set m0 (.int (own_lo8 p2))).set (m0 + 1) (.int (own_hi8 p2))) (.int 0)
theorem rmpc (l : Launch) (Z : State) (a0 : Array Value) (hw : own_W Z a0) (ws : List Jvm.Cond) (a1 : Addr) (k1 : ClassId) (z1 : Int32) (vs : List Value) (m0 : Nat) (p1 p2 : Int32) (h0 : Heap) (n0 : Nat) (Z0 : n0 ≤ h0.size) (EN : own_env Z h0) (Va : Arv Z h0 a1 k1 .byte z1 vs (.int 0)) (g1 : n0 ≤ a1) (i0 : ¬ (p1 <<< ((1 : Int32) &&& 31)) < 0 ∧ (p1 <<< ((1 : Int32) &&& 31)) < z1) (i1 : ¬ ((p1 <<< ((1 : Int32) &&& 31)) + (1 : Int32)) < 0 ∧ ((p1 <<< ((1 : Int32) &&& 31)) + (1 : Int32)) < z1) (j0 : ((p1 <<< ((1 : Int32) &&& 31))).toNatClampNeg = m0) (j1 : ((p1 <<< ((1 : Int32) &&& 31)) + (1 : Int32)).toNatClampNeg = m0 + 1) (l0 : m0 < vs.length) (l1 : m0 + 1 < vs.length) :
  own_M l Z own_z50 own_c13 3 none ({ frames := 0, cells := 0, slots := 0, locals := 0 } : Room) ws #[(.ref a1), (.int p1), (.int p2)] h0 (Qpc Z a1 k1 z1 vs m0 p1 p2 h0 n0) := by
 refine MetFree.of_bodySF (plainFor_of_name pn_k5) hisR ?_
 intro p e s m args below meth c s₁ Bd hml0 hP hK
 obtain ⟨rfl, hZ, hh⟩ := hP
 have hx := Bd.exec
 have hby := Bd.bytes
 have hml : c.maxLocals = 3 := hml0
 have hown : s.vm.findClass "java/lang/StringUTF16" = some m.cls := findClass_of_methodNamed Bd.named
 have X0 : Stand p l e ({ frames := 0, cells := 0, slots := 0, locals := 0 } : Room) s m #[(.ref a1), (.int p1), (.int p2)] below meth c s₁ [] 0 0 := Stand.of_body Bd
 have e0 : s₁.heap = h0 := by rw [← hh, Bd.state]; rfl
 have N0 := Fr.nil n0
 obtain ⟨PP, hPs, pre0⟩ : ∃ PP : State → Prop, (∀ t, PP t → Steps p.tables e below (s₁.setTop (entryFrame m #[(.ref a1), (.int p1), (.int p2)] 3)) t) ∧ own_pr p e below PP s₁ (mkF m 0 #[.val (.ref a1), .val (.int p1), .val (.int p2)] []) := ⟨_, fun _ κ => κ, fun τ κ => castTop (ef_pc m a1 p1 p2) κ⟩
 obtain ⟨z, fm, Sz, hz, Sf, hfm, Sa, Sh, Sl⟩ := EN
 obtain ⟨T1, X1, e1, st1⟩ := getS2 X0 hx hZ hown (host := "") (Or.inl (wd235 hw)) Via.refl e0 Sa (g := (mkF m 0 #[.val (.ref a1), .val (.int p1), .val (.int p2)] [])) rfl (hb hby d48_0)
 obtain ⟨T2, X2, e2, st2⟩ := getS2 X1 hx hZ hown (host := "") (Or.inl (wd236 hw)) Via.refl e1 Sh (g := (mkF m 38 #[.val (.ref a1), .val (.int ((p1 <<< ((1 : Int32) &&& 31)) + (1 : Int32))), .val (.int p2)] [(.int p2), (.int (p1 <<< ((1 : Int32) &&& 31))), (.ref a1)])) rfl (hb hby d48_38)
 have Vc3 := Va
 obtain ⟨cl3, Ar3, qq3, sz3, nn3, Ha3, Gf3⟩ := Vc3
 have hin3 : ¬ ((p1 <<< ((1 : Int32) &&& 31)) < 0 ∨ cl3.slots.size ≤ ((p1 <<< ((1 : Int32) &&& 31))).toNatClampNeg) := inb_of sz3 i0
 obtain ⟨T4, h4, X4, e4, W4, st4⟩ := stB X2 hx hZ e2 Ar3 (j := (p1 <<< ((1 : Int32) &&& 31))) hin3 (g := (mkF m 43 #[.val (.ref a1), .val (.int ((p1 <<< ((1 : Int32) &&& 31)) + (1 : Int32))), .val (.int p2)] [(.int ((p2 >>> ((0 : Int32) &&& 31)).toInt8.toInt32)), (.int (p1 <<< ((1 : Int32) &&& 31))), (.ref a1)])) rfl rfl (hb hby d48_43)
 have N4 := Fr.snoc X4 N0 g1
 have Va_4 := Arv.set Ar3 qq3 sz3 nn3 Ha3 Gf3 (fits_nar_byte _) W4 m0 j0 (by first | exact l0 | (rw [List.length_set]; exact l1))
 have Sa_4 := Sa.wr W4
 have Sh_4 := Sh.wr W4
 have Sl_4 := Sl.wr W4
 obtain ⟨T5, X5, e5, st5⟩ := getS2 X4 hx hZ hown (host := "") (Or.inl (wd237 hw)) Via.refl e4 Sl_4 (g := (mkF m 47 #[.val (.ref a1), .val (.int ((p1 <<< ((1 : Int32) &&& 31)) + (1 : Int32))), .val (.int p2)] [(.int p2), (.int ((p1 <<< ((1 : Int32) &&& 31)) + (1 : Int32))), (.ref a1)])) rfl (hb hby d48_47)
 have Vc6 := Va_4
 obtain ⟨cl6, Ar6, qq6, sz6, nn6, Ha6, Gf6⟩ := Vc6
 have hin6 : ¬ (((p1 <<< ((1 : Int32) &&& 31)) + (1 : Int32)) < 0 ∨ cl6.slots.size ≤ (((p1 <<< ((1 : Int32) &&& 31)) + (1 : Int32))).toNatClampNeg) := inb_of sz6 i1
 obtain ⟨T7, h7, X7, e7, W7, st7⟩ := stB X5 hx hZ e5 Ar6 (j := ((p1 <<< ((1 : Int32) &&& 31)) + (1 : Int32))) hin6 (g := (mkF m 52 #[.val (.ref a1), .val (.int ((p1 <<< ((1 : Int32) &&& 31)) + (1 : Int32))), .val (.int p2)] [(.int ((p2 >>> ((8 : Int32) &&& 31)).toInt8.toInt32)), (.int ((p1 <<< ((1 : Int32) &&& 31)) + (1 : Int32))), (.ref a1)])) rfl rfl (hb hby d48_52)
 have N7 := Fr.snoc X7 N4 g1
 have Va_7 := Arv.set Ar6 qq6 sz6 nn6 Ha6 Gf6 (fits_nar_byte _) W7 (m0 + 1) j1 (by first | exact l0 | (rw [List.length_set]; exact l1))
 have Sa_7 := Sa_4.wr W7
 have Sh_7 := Sh_4.wr W7
 have Sl_7 := Sl_4.wr W7
 have pre8 : own_pr p e below PP T7 (mkF m 53 #[.val (.ref a1), .val (.int ((p1 <<< ((1 : Int32) &&& 31)) + (1 : Int32))), .val (.int p2)] []) := fun τ κ => pre0 τ (by
  show own_st p e below s₁ (mkF m 0 #[.val (.ref a1), .val (.int p1), .val (.int p2)] []) _
  refine st1 _ ?_
  refine XS.ifYes X1.here hx rfl (pc0 := 3) (pc' := 28) rfl (hb hby d48_3) rfl ((if0 _ _).trans (feq (by decide : ¬ ((1 : Int32) = (0 : Int32)))).2) (by decide) (by decide) ?_
  refine XS.iloadN X1.here hx rfl (hb hby d48_28) rfl ?_
  refine XS.iconst X1.here hx rfl (hb hby d48_29) ?_
  refine XS.ishl X1.here hx rfl (hb hby d48_30) rfl ?_
  refine XS.istoreN X1.here hx rfl (hb hby d48_31) rfl (l' := #[.val (.ref a1), .val (.int (p1 <<< ((1 : Int32) &&& 31))), .val (.int p2)]) rfl ?_
  refine XS.aloadN X1.here hx rfl (hb hby d48_32) rfl rfl ?_
  refine XS.iloadN X1.here hx rfl (hb hby d48_33) rfl ?_
  refine XS.iinc X1.here hx rfl (hb hby d48_34) rfl (l' := #[.val (.ref a1), .val (.int ((p1 <<< ((1 : Int32) &&& 31)) + (1 : Int32))), .val (.int p2)]) rfl ?_
  refine XS.iloadN X1.here hx rfl (hb hby d48_37) rfl ?_
  refine st2 _ ?_
  refine XS.ishr X2.here hx rfl (hb hby d48_41) rfl ?_
  refine XS.i2b X2.here hx rfl (hb hby d48_42) rfl ?_
  refine st4 _ ?_
  refine XS.aloadN X4.here hx rfl (hb hby d48_44) rfl rfl ?_
  refine XS.iloadN X4.here hx rfl (hb hby d48_45) rfl ?_
  refine XS.iloadN X4.here hx rfl (hb hby d48_46) rfl ?_
  refine st5 _ ?_
  refine XS.ishr X5.here hx rfl (hb hby d48_50) rfl ?_
  refine XS.i2b X5.here hx rfl (hb hby d48_51) rfl ?_
  refine st7 _ ?_
  exact κ)
 obtain ⟨fs9, hr9, hrun9, hended9, hW9, hsame9⟩ := X7.leave (v := none) (fun _ => rfl)
 refine ⟨_, _, hPs _ (pre8 _ ?_), hrun9, hended9, _, _, rfl, ?_, ⟨_, rfl⟩, hW9, hsame9.mono (by decide) (by decide)⟩
 ·show own_st p e below T7 (mkF m 53 #[.val (.ref a1), .val (.int ((p1 <<< ((1 : Int32) &&& 31)) + (1 : Int32))), .val (.int p2)] []) _
  exact X7.returnOut hx Bd.returns (hb hby d48_53) hr9
 ·show Qpc Z a1 k1 z1 vs m0 p1 p2 h0 n0 _ T7.heap _
  rw [e7]
  refine ⟨rfl, N7, (Keep.of_wr W4).wr W7 (Or.inl (List.mem_singleton.mpr rfl)), ?_⟩
  have q := Va_7
  rw [own_lo, own_lo, own_sh0] at q
  exact q

theorem d23_0 : own_D own_c14 0 (.iload_n 1) 1 := by decide +kernel
theorem d23_1 : own_D own_c14 1 (.aload_n 0) 1 := by decide +kernel
theorem d23_2 : own_D own_c14 2 (.arraylength) 1 := by decide +kernel
theorem d23_3 : own_D own_c14 3 (.invokestatic 9) 3 := by decide +kernel
theorem d23_6 : own_D own_c14 6 (.aload_n 0) 1 := by decide +kernel
theorem d23_7 : own_D own_c14 7 (.iload_n 1) 1 := by decide +kernel
theorem d23_8 : own_D own_c14 8 (.baload) 1 := by decide +kernel
theorem d23_9 : own_D own_c14 9 (.sipush 255) 3 := by decide +kernel
theorem d23_12 : own_D own_c14 12 (.iand) 1 := by decide +kernel
theorem d23_13 : own_D own_c14 13 (.i2c) 1 := by decide +kernel
theorem d23_14 : own_D own_c14 14 (.ireturn) 1 := by decide +kernel


def Qlch (Z : State) (a1 : Addr) (k1 : ClassId) (n p1 y r : Int32) (vs : List Value) (h0 : Heap) (n0 : Nat) (v : Option Value) (h : Heap) (L : List Loc) : Prop := v = some (.int r) ∧ Fr n0 L ∧ h = h0
theorem rmlch (l : Launch) (Z : State) (a0 : Array Value) (hw : own_W Z a0) (ws : List Jvm.Cond) (a1 : Addr) (k1 : ClassId) (n p1 y r : Int32) (vs : List Value) (h0 : Heap) (n0 : Nat) (Z0 : n0 ≤ h0.size) (EN : own_env Z h0) (As : Arv Z h0 a1 k1 .byte n vs (.int 0)) (hin : ¬ p1 < 0 ∧ p1 < n) (hy : vs.getD p1.toNatClampNeg (.int 0) = .int y) (hr : (y &&& (255 : Int32)).toUInt32.toUInt16.toUInt32.toInt32 = r) :
  own_M l Z own_z24 own_c14 2 (some .char) ({ frames := 2, cells := 0, slots := 0, locals := 29 } : Room) ws #[(.ref a1), (.int p1)] h0 (Qlch Z a1 k1 n p1 y r vs h0 n0) := by
 refine MetFree.of_bodySF (plainFor_of_name pn_k4) hisR ?_
 intro p e s m args below meth c s₁ Bd hml0 hP hK
 obtain ⟨rfl, hZ, hh⟩ := hP
 have hx := Bd.exec
 have hby := Bd.bytes
 have hml : c.maxLocals = 2 := hml0
 have hown : s.vm.findClass "java/lang/StringLatin1" = some m.cls := findClass_of_methodNamed Bd.named
 have X0 : Stand p l e ({ frames := 2, cells := 0, slots := 0, locals := 29 } : Room) s m #[(.ref a1), (.int p1)] below meth c s₁ [] 0 0 := Stand.of_body Bd
 have e0 : s₁.heap = h0 := by rw [← hh, Bd.state]; rfl
 have N0 := Fr.nil n0
 obtain ⟨PP, hPs, pre0⟩ : ∃ PP : State → Prop, (∀ t, PP t → Steps p.tables e below (s₁.setTop (entryFrame m #[(.ref a1), (.int p1)] 2)) t) ∧ own_pr p e below PP s₁ (mkF m 0 #[.val (.ref a1), .val (.int p1)] []) := ⟨_, fun _ κ => κ, fun τ κ => castTop (ef_gc m a1 p1) κ⟩
 have Vc1 := As
 obtain ⟨cl1, Ar1, qq1, sz1, nn1, Ha1, Gf1⟩ := Vc1
 obtain ⟨_, T2, Lc2, X2, hQ2, st2⟩ := own_cS X0 hx hZ (y := own_z25) hown (wd132 hw) (wd133 hw) (wd8 hw) (wd134 hw) (by decide) (rmki l Z a0 hw [] p1 n h0 n0 Z0 EN hin.1 hin.2) 0 (by decide) (g := (mkF m 3 #[.val (.ref a1), .val (.int p1)] [(.int n), (.int p1)])) rfl hml.symm [(.int p1), (.int n)] [] (lenOf pd_ki rfl) rfl rfl (hb hby d23_3) e0 rfl
 obtain ⟨rfl, N2q, q2⟩ := hQ2
 have N2 := Fr.app N0 N2q
 have Vc3 := As
 obtain ⟨cl3, Ar3, qq3, sz3, nn3, Ha3, Gf3⟩ := Vc3
 have hin3 : ¬ (p1 < 0 ∨ cl3.slots.size ≤ (p1).toNatClampNeg) := inb_of sz3 hin
 have pre4 : own_pr p e below PP T2 (mkF m 14 #[.val (.ref a1), .val (.int p1)] [(.int ((y &&& (255 : Int32)).toUInt32.toUInt16.toUInt32.toInt32))]) := fun τ κ => pre0 τ (by
  show own_st p e below s₁ (mkF m 0 #[.val (.ref a1), .val (.int p1)] []) _
  refine XS.iloadN X0.here hx rfl (hb hby d23_0) rfl ?_
  refine XS.aloadN X0.here hx rfl (hb hby d23_1) rfl rfl ?_
  refine X0.arraylength hx (by rw [e0]; exact Ar1.1) (State.isArrayOf_alike hZ.alike Ar1.2.1) (g := (mkF m 2 #[.val (.ref a1), .val (.int p1)] [(.ref a1), (.int p1)])) rfl rfl (hb hby d23_2) _ ?_
  rw [len_of sz1 nn1]
  refine st2 _ ?_
  refine XS.aloadN X2.here hx rfl (hb hby d23_6) rfl rfl ?_
  refine XS.iloadN X2.here hx rfl (hb hby d23_7) rfl ?_
  refine X2.baloadBytes hx (j := p1) (v := (.int y)) (by rw [q2]; exact Ar3.1) (State.isArrayOf_alike hZ.alike Ar3.2.1) Ar3.2.2 hin3 (Has.at Ha3 hin3 hy) (g := (mkF m 8 #[.val (.ref a1), .val (.int p1)] [(.int p1), (.ref a1)])) rfl rfl (hb hby d23_8) _ ?_
  refine XS.sipush X2.here hx rfl (hb hby d23_9) ?_
  refine XS.iand X2.here hx rfl (hb hby d23_12) rfl ?_
  refine XS.i2c X2.here hx rfl (hb hby d23_13) rfl ?_
  exact κ)
 obtain ⟨fs5, hr5, hrun5, hended5, hW5, hsame5⟩ := X2.leave (v := some (.int ((y &&& (255 : Int32)).toUInt32.toUInt16.toUInt32.toInt32))) (fun h => by rw [Bd.returns] at h; cases h)
 refine ⟨_, _, hPs _ (pre4 _ ?_), hrun5, hended5, _, _, rfl, ?_, ⟨_, rfl⟩, hW5, hsame5.mono (by decide) (by decide)⟩
 ·show own_st p e below T2 (mkF m 14 #[.val (.ref a1), .val (.int p1)] [(.int ((y &&& (255 : Int32)).toUInt32.toUInt16.toUInt32.toInt32))]) _
  exact retOut X2 hx (t := .char) Bd.returns (own_narc (by first | exact own_bc _ | (unfold own_b; decide))) (Or.inl ⟨rfl, by simp, _, rfl⟩) (hb hby d23_14) hr5
 ·show Qlch Z a1 k1 n p1 y r vs h0 n0 _ T2.heap _
  rw [q2]
  exact ⟨by rw [← hr], N2, rfl⟩

theorem d50_0 : own_D own_c15 0 (.iload_n 1) 1 := by decide +kernel
theorem d50_1 : own_D own_c15 1 (.aload_n 0) 1 := by decide +kernel
theorem d50_2 : own_D own_c15 2 (.invokestatic 67) 3 := by decide +kernel
theorem d50_5 : own_D own_c15 5 (.aload_n 0) 1 := by decide +kernel
theorem d50_6 : own_D own_c15 6 (.iload_n 1) 1 := by decide +kernel
theorem d50_7 : own_D own_c15 7 (.invokestatic 71) 3 := by decide +kernel
theorem d50_10 : own_D own_c15 10 (.ireturn) 1 := by decide +kernel


def Quch (Z : State) (a1 : Addr) (k1 : ClassId) (n p1 y0 y1 r : Int32) (vs : List Value) (h0 : Heap) (n0 : Nat) (v : Option Value) (h : Heap) (L : List Loc) : Prop := v = some (.int r) ∧ Fr n0 L ∧ h = h0
theorem rmuch (l : Launch) (Z : State) (a0 : Array Value) (hw : own_W Z a0) (ws : List Jvm.Cond) (a1 : Addr) (k1 : ClassId) (n p1 y0 y1 r : Int32) (vs : List Value) (h0 : Heap) (n0 : Nat) (Z0 : n0 ≤ h0.size) (EN : own_env Z h0) (As : Arv Z h0 a1 k1 .byte n vs (.int 0)) (hbr : own_b r) (hin : ¬ p1 < 0 ∧ p1 < (n >>> ((1 : Int32) &&& 31))) (i0 : ¬ (p1 <<< ((1 : Int32) &&& 31)) < 0 ∧ (p1 <<< ((1 : Int32) &&& 31)) < n) (i1 : ¬ ((p1 <<< ((1 : Int32) &&& 31)) + (1 : Int32)) < 0 ∧ ((p1 <<< ((1 : Int32) &&& 31)) + (1 : Int32)) < n) (v0 : vs.getD ((p1 <<< ((1 : Int32) &&& 31))).toNatClampNeg (.int 0) = .int y0) (v1 : vs.getD ((p1 <<< ((1 : Int32) &&& 31)) + (1 : Int32)).toNatClampNeg (.int 0) = .int y1) (hr : own_gc y0 y1 = r) :
  own_M l Z own_z52 own_c15 2 (some .char) ({ frames := 3, cells := 0, slots := 0, locals := 42 } : Room) ws #[(.ref a1), (.int p1)] h0 (Quch Z a1 k1 n p1 y0 y1 r vs h0 n0) := by
 refine MetFree.of_bodySF (plainFor_of_name pn_k5) hisR ?_
 intro p e s m args below meth c s₁ Bd hml0 hP hK
 obtain ⟨rfl, hZ, hh⟩ := hP
 have hx := Bd.exec
 have hby := Bd.bytes
 have hml : c.maxLocals = 2 := hml0
 have hown : s.vm.findClass "java/lang/StringUTF16" = some m.cls := findClass_of_methodNamed Bd.named
 have X0 : Stand p l e ({ frames := 3, cells := 0, slots := 0, locals := 42 } : Room) s m #[(.ref a1), (.int p1)] below meth c s₁ [] 0 0 := Stand.of_body Bd
 have e0 : s₁.heap = h0 := by rw [← hh, Bd.state]; rfl
 have N0 := Fr.nil n0
 obtain ⟨PP, hPs, pre0⟩ : ∃ PP : State → Prop, (∀ t, PP t → Steps p.tables e below (s₁.setTop (entryFrame m #[(.ref a1), (.int p1)] 2)) t) ∧ own_pr p e below PP s₁ (mkF m 0 #[.val (.ref a1), .val (.int p1)] []) := ⟨_, fun _ κ => κ, fun τ κ => castTop (ef_gc m a1 p1) κ⟩
 obtain ⟨_, T1, Lc1, X1, hQ1, st1⟩ := own_cS X0 hx hZ (y := own_z53) hown (wd244 hw) (wd245 hw) (wd110 hw) (wd246 hw) (by decide) (rmuk l Z a0 hw [] a1 k1 vs n p1 h0 n0 Z0 As EN hin.1 hin.2) 0 (by decide) (g := (mkF m 2 #[.val (.ref a1), .val (.int p1)] [(.ref a1), (.int p1)])) rfl hml.symm [(.int p1), (.ref a1)] [] (lenOf pd_uk rfl) rfl rfl (hb hby d50_2) e0 rfl
 obtain ⟨rfl, N1q, q1⟩ := hQ1
 have N1 := Fr.app N0 N1q
 have Vc2 := As
 obtain ⟨cl2, Ar2, qq2, sz2, nn2, Ha2, Gf2⟩ := Vc2
 have r0_2 : own_rd cl2 (p1 <<< ((1 : Int32) &&& 31)) y0 := own_rdOf sz2 Ha2 i0 v0
 have r1_2 : own_rd cl2 ((p1 <<< ((1 : Int32) &&& 31)) + (1 : Int32)) y1 := own_rdOf sz2 Ha2 i1 v1
 obtain ⟨_, T3, Lc3, X3, hQ3, st3⟩ := own_cS X1 hx hZ (y := own_z51) hown (wd238 hw) (wd239 hw) (wd110 hw) (wd240 hw) (by decide) (rmgc l Z a0 hw [] a1 cl2 p1 y0 y1 r h0 n0 Z0 EN hr Ar2 r0_2 r1_2) 0 (by decide) (g := (mkF m 7 #[.val (.ref a1), .val (.int p1)] [(.int p1), (.ref a1)])) rfl hml.symm [(.ref a1), (.int p1)] [] (lenOf pd_gc rfl) rfl rfl (hb hby d50_7) q1 rfl
 obtain ⟨rfl, N3q, q3⟩ := hQ3
 have N3 := Fr.app N1 N3q
 have pre4 : own_pr p e below PP T3 (mkF m 10 #[.val (.ref a1), .val (.int p1)] [(.int r)]) := fun τ κ => pre0 τ (by
  show own_st p e below s₁ (mkF m 0 #[.val (.ref a1), .val (.int p1)] []) _
  refine XS.iloadN X0.here hx rfl (hb hby d50_0) rfl ?_
  refine XS.aloadN X0.here hx rfl (hb hby d50_1) rfl rfl ?_
  refine st1 _ ?_
  refine XS.aloadN X1.here hx rfl (hb hby d50_5) rfl rfl ?_
  refine XS.iloadN X1.here hx rfl (hb hby d50_6) rfl ?_
  refine st3 _ ?_
  exact κ)
 obtain ⟨fs5, hr5, hrun5, hended5, hW5, hsame5⟩ := X3.leave (v := some (.int r)) (fun h => by rw [Bd.returns] at h; cases h)
 refine ⟨_, _, hPs _ (pre4 _ ?_), hrun5, hended5, _, _, rfl, ?_, ⟨_, rfl⟩, hW5, hsame5.mono (by decide) (by decide)⟩
 ·show own_st p e below T3 (mkF m 10 #[.val (.ref a1), .val (.int p1)] [(.int r)]) _
  exact retOut X3 hx (t := .char) Bd.returns (own_narc hbr) (Or.inl ⟨rfl, by simp, _, rfl⟩) (hb hby d50_10) hr5
 ·show Quch Z a1 k1 n p1 y0 y1 r vs h0 n0 _ T3.heap _
  rw [q3]
  exact ⟨rfl, N3, rfl⟩

theorem own_mem (cs : List Int32) (j : Nat) (h : j < cs.length) : cs.getD j 0 ∈ cs := by
 rw [List.getD_eq_getElem?_getD, List.getElem?_eq_getElem h]; exact List.getElem_mem h
theorem own_nl2 : ∀ n < 64, ∀ j < n, Int32.ofNat j < Int32.ofNat n := by decide +kernel

theorem d21_0 : own_D own_c16 0 (.aload_n 0) 1 := by decide +kernel
theorem d21_1 : own_D own_c16 1 (.invokevirtual 492) 3 := by decide +kernel
theorem d21_4 : own_D own_c16 4 (.ifCond .eq 12) 3 := by decide +kernel
theorem d21_7 : own_D own_c16 7 (.aload_n 0) 1 := by decide +kernel
theorem d21_8 : own_D own_c16 8 (.getfield 9) 3 := by decide +kernel
theorem d21_11 : own_D own_c16 11 (.iload_n 1) 1 := by decide +kernel
theorem d21_12 : own_D own_c16 12 (.invokestatic 495) 3 := by decide +kernel
theorem d21_15 : own_D own_c16 15 (.ireturn) 1 := by decide +kernel
theorem d21_16 : own_D own_c16 16 (.aload_n 0) 1 := by decide +kernel
theorem d21_17 : own_D own_c16 17 (.getfield 9) 3 := by decide +kernel
theorem d21_20 : own_D own_c16 20 (.iload_n 1) 1 := by decide +kernel
theorem d21_21 : own_D own_c16 21 (.invokestatic 498) 3 := by decide +kernel
theorem d21_24 : own_D own_c16 24 (.ireturn) 1 := by decide +kernel


def Qch (Z : State) (x : Addr) (cs : List Int32) (cd ch : Int32) (j : Nat) (h0 : Heap) (n0 : Nat) (v : Option Value) (h : Heap) (L : List Loc) : Prop := v = some (.int ch) ∧ Fr n0 L ∧ h = h0
theorem rmch (l : Launch) (Z : State) (a0 : Array Value) (hw : own_W Z a0) (ws : List Jvm.Cond) (x : Addr) (cs : List Int32) (cd ch : Int32) (j : Nat) (h0 : Heap) (n0 : Nat) (Z0 : n0 ≤ h0.size) (SX : own_s Z h0 x cs cd) (EN : own_env Z h0) (hle : cs.length < 20) (hj : j < cs.length) (hc : cs.getD j 0 = ch) (hbc : own_b ch) :
  own_M l Z own_z22 own_c16 2 (some .char) ({ frames := 4, cells := 0, slots := 0, locals := 55 } : Room) ws #[(.ref x), (.int (Int32.ofNat j))] h0 (Qch Z x cs cd ch j h0 n0) := by
 refine MetFree.of_bodySF (plainFor_of_name pn_k2) hisR ?_
 intro p e s m args below meth c s₁ Bd hml0 hP hK
 obtain ⟨rfl, hZ, hh⟩ := hP
 have hx := Bd.exec
 have hby := Bd.bytes
 have hml : c.maxLocals = 2 := hml0
 have hown : s.vm.findClass "java/lang/String" = some m.cls := findClass_of_methodNamed Bd.named
 have X0 : Stand p l e ({ frames := 4, cells := 0, slots := 0, locals := 55 } : Room) s m #[(.ref x), (.int (Int32.ofNat j))] below meth c s₁ [] 0 0 := Stand.of_body Bd
 have e0 : s₁.heap = h0 := by rw [← hh, Bd.state]; rfl
 have N0 := Fr.nil n0
 obtain ⟨PP, hPs, pre0⟩ : ∃ PP : State → Prop, (∀ t, PP t → Steps p.tables e below (s₁.setTop (entryFrame m #[(.ref x), (.int (Int32.ofNat j))] 2)) t) ∧ own_pr p e below PP s₁ (mkF m 0 #[.val (.ref x), .val (.int (Int32.ofNat j))] []) := ⟨_, fun _ κ => κ, fun τ κ => castTop (ef_gc m x (Int32.ofNat j)) κ⟩
 have SX0 := SX
 obtain ⟨tv, kb, N, vs, Ex, Vv, Cc, Kk, hcd⟩ := SX0
 rcases hcd with ⟨hcz, rfl, rfl, hxx⟩ | ⟨hcz, rfl, rfl, hxx⟩
 ·have Cz := Cc
  rw [hcz] at Cz
  obtain ⟨_, T1, Lc1, X1, hQ1, st1⟩ := own_cV X0 hx hZ (y := own_z23) (z := own_z23) hown (wd123 hw) (wd124 hw) (wd126 hw) rfl (wd126 hw) (wd125 hw) (wd127 hw) (wd8 hw) (by decide) (rml1 l Z a0 hw [] x h0 n0 Z0 EN Cz) Ex 0 (by decide) (g := (mkF m 1 #[.val (.ref x), .val (.int (Int32.ofNat j))] [(.ref x)])) rfl hml.symm [] [] (lenOf pd_l1 rfl) rfl rfl (hb hby d21_1) e0 rfl
  obtain ⟨rfl, N1q, q1⟩ := hQ1
  have N1 := Fr.app N0 N1q
  obtain ⟨T2, X2, e2, st2⟩ := getF X1 hx hZ hown (host := "") (Or.inl (wd26 hw)) Via.refl q1 Vv (g := (mkF m 8 #[.val (.ref x), .val (.int (Int32.ofNat j))] [(.ref x)])) rfl rfl (hb hby d21_8)
  obtain ⟨_, T3, Lc3, X3, hQ3, st3⟩ := own_cS X2 hx hZ (y := own_z24) hown (wd128 hw) (wd129 hw) (wd130 hw) (wd131 hw) (by decide) (rmlch l Z a0 hw [] tv kb _ (Int32.ofNat j) (own_lo8 ch) ch _ h0 n0 Z0 EN Kk ⟨own_n0 j (by omega), own_nlt _ (by omega) j hj⟩ (by rw [own_nn j (by omega), own_ml cs j hj, hc]) (own_c255 hbc (hxx ch (by rw [← hc]; exact own_mem cs j hj)))) 0 (by decide) (g := (mkF m 12 #[.val (.ref x), .val (.int (Int32.ofNat j))] [(.int (Int32.ofNat j)), (.ref tv)])) rfl hml.symm [(.ref tv), (.int (Int32.ofNat j))] [] (lenOf pd_gc rfl) rfl rfl (hb hby d21_12) e2 rfl
  obtain ⟨rfl, N3q, q3⟩ := hQ3
  have N3 := Fr.app N1 N3q
  have pre4 : own_pr p e below PP T3 (mkF m 15 #[.val (.ref x), .val (.int (Int32.ofNat j))] [(.int ch)]) := fun τ κ => pre0 τ (by
   show own_st p e below s₁ (mkF m 0 #[.val (.ref x), .val (.int (Int32.ofNat j))] []) _
   refine XS.aloadN X0.here hx rfl (hb hby d21_0) rfl rfl ?_
   refine st1 _ ?_
   refine XS.ifNo X1.here hx rfl (hb hby d21_4) rfl ((if0 _ _).trans (feq (by decide : ¬ ((1 : Int32) = (0 : Int32)))).1) ?_
   refine XS.aloadN X1.here hx rfl (hb hby d21_7) rfl rfl ?_
   refine st2 _ ?_
   refine XS.iloadN X2.here hx rfl (hb hby d21_11) rfl ?_
   refine st3 _ ?_
   exact κ)
  obtain ⟨fs5, hr5, hrun5, hended5, hW5, hsame5⟩ := X3.leave (v := some (.int ch)) (fun h => by rw [Bd.returns] at h; cases h)
  refine ⟨_, _, hPs _ (pre4 _ ?_), hrun5, hended5, _, _, rfl, ?_, ⟨_, rfl⟩, hW5, hsame5.mono (by decide) (by decide)⟩
  ·show own_st p e below T3 (mkF m 15 #[.val (.ref x), .val (.int (Int32.ofNat j))] [(.int ch)]) _
   exact retOut X3 hx (t := .char) Bd.returns (own_narc hbc) (Or.inl ⟨rfl, by simp, _, rfl⟩) (hb hby d21_15) hr5
  ·show Qch Z x cs cd ch j h0 n0 _ T3.heap _
   rw [q3]
   exact ⟨rfl, N3, rfl⟩
 ·have Cz := Cc
  rw [hcz] at Cz
  obtain ⟨_, T6, Lc6, X6, hQ6, st6⟩ := own_cV X0 hx hZ (y := own_z23) (z := own_z23) hown (wd123 hw) (wd124 hw) (wd126 hw) rfl (wd126 hw) (wd125 hw) (wd127 hw) (wd8 hw) (by decide) (rml1w l Z a0 hw [] x h0 n0 Z0 EN Cz) Ex 0 (by decide) (g := (mkF m 1 #[.val (.ref x), .val (.int (Int32.ofNat j))] [(.ref x)])) rfl hml.symm [] [] (lenOf pd_l1 rfl) rfl rfl (hb hby d21_1) e0 rfl
  obtain ⟨rfl, N6q, q6⟩ := hQ6
  have N6 := Fr.app N0 N6q
  obtain ⟨T7, X7, e7, st7⟩ := getF X6 hx hZ hown (host := "") (Or.inl (wd26 hw)) Via.refl q6 Vv (g := (mkF m 17 #[.val (.ref x), .val (.int (Int32.ofNat j))] [(.ref x)])) rfl rfl (hb hby d21_17)
  have hJ : (Int32.ofNat j <<< ((1 : Int32) &&& 31)) = Int32.ofNat (2 * j) := own_shl j (by omega)
  have hJ1 : ((Int32.ofNat j <<< ((1 : Int32) &&& 31)) + (1 : Int32)) = Int32.ofNat (2 * j + 1) := by rw [hJ]; exact own_s1 _ (by omega)
  obtain ⟨_, T8, Lc8, X8, hQ8, st8⟩ := own_cS X7 hx hZ (y := own_z52) hown (wd241 hw) (wd242 hw) (wd110 hw) (wd243 hw) (by decide) (rmuch l Z a0 hw [] tv kb _ (Int32.ofNat j) (own_lo8 ch) (own_hi8 ch) ch _ h0 n0 Z0 EN Kk hbc ⟨own_n0 j (by omega), by rw [own_shr _ (by omega)]; exact own_nlt _ (by omega) j hj⟩ (by rw [hJ]; exact ⟨own_n0 _ (by omega), own_nl2 _ (by omega) _ (by omega)⟩) (by rw [hJ1]; exact ⟨own_n0 _ (by omega), own_nl2 _ (by omega) _ (by omega)⟩) (by rw [hJ, own_nn _ (by omega), own_wlo _ cs j hj, hc]) (by rw [hJ1, own_nn _ (by omega), own_whi _ cs j hj, hc]) (own_gcv hbc)) 0 (by decide) (g := (mkF m 21 #[.val (.ref x), .val (.int (Int32.ofNat j))] [(.int (Int32.ofNat j)), (.ref tv)])) rfl hml.symm [(.ref tv), (.int (Int32.ofNat j))] [] (lenOf pd_gc rfl) rfl rfl (hb hby d21_21) e7 rfl
  obtain ⟨rfl, N8q, q8⟩ := hQ8
  have N8 := Fr.app N6 N8q
  have pre9 : own_pr p e below PP T8 (mkF m 24 #[.val (.ref x), .val (.int (Int32.ofNat j))] [(.int ch)]) := fun τ κ => pre0 τ (by
   show own_st p e below s₁ (mkF m 0 #[.val (.ref x), .val (.int (Int32.ofNat j))] []) _
   refine XS.aloadN X0.here hx rfl (hb hby d21_0) rfl rfl ?_
   refine st6 _ ?_
   refine XS.ifYes X6.here hx rfl (pc0 := 4) (pc' := 16) rfl (hb hby d21_4) rfl ((if0 _ _).trans (teq (by decide : (0 : Int32) = (0 : Int32))).1) (by decide) (by decide) ?_
   refine XS.aloadN X6.here hx rfl (hb hby d21_16) rfl rfl ?_
   refine st7 _ ?_
   refine XS.iloadN X7.here hx rfl (hb hby d21_20) rfl ?_
   refine st8 _ ?_
   exact κ)
  obtain ⟨fs10, hr10, hrun10, hended10, hW10, hsame10⟩ := X8.leave (v := some (.int ch)) (fun h => by rw [Bd.returns] at h; cases h)
  refine ⟨_, _, hPs _ (pre9 _ ?_), hrun10, hended10, _, _, rfl, ?_, ⟨_, rfl⟩, hW10, hsame10.mono (by decide) (by decide)⟩
  ·show own_st p e below T8 (mkF m 24 #[.val (.ref x), .val (.int (Int32.ofNat j))] [(.int ch)]) _
   exact retOut X8 hx (t := .char) Bd.returns (own_narc hbc) (Or.inl ⟨rfl, by simp, _, rfl⟩) (hb hby d21_24) hr10
  ·show Qch Z x cs cd ch j h0 n0 _ T8.heap _
   rw [q8]
   exact ⟨rfl, N8, rfl⟩

theorem d47_0 : own_D own_c17 0 (.iload_n 0) 1 := by decide +kernel
theorem d47_1 : own_D own_c17 1 (.ifCond .ge 11) 3 := by decide +kernel
theorem d47_12 : own_D own_c17 12 (.iload_n 0) 1 := by decide +kernel
theorem d47_13 : own_D own_c17 13 (.ldc 20) 2 := by decide +kernel
theorem d47_15 : own_D own_c17 15 (.if_icmp .lt 40) 3 := by decide +kernel
theorem d47_55 : own_D own_c17 55 (.iload_n 0) 1 := by decide +kernel
theorem d47_56 : own_D own_c17 56 (.iconst 1) 1 := by decide +kernel
theorem d47_57 : own_D own_c17 57 (.ishl) 1 := by decide +kernel
theorem d47_58 : own_D own_c17 58 (.ireturn) 1 := by decide +kernel

theorem pd_bl1 : parseMethodDescriptor "(I)I" = some ⟨[.int], some .int⟩ := by decide +kernel

def Qbl1 (Z : State)  (h0 : Heap) (n0 : Nat) (v : Option Value) (h : Heap) (L : List Loc) : Prop := v = some (.int (2 : Int32)) ∧ Fr n0 L ∧ h = h0
theorem rmbl1 (l : Launch) (Z : State) (a0 : Array Value) (hw : own_W Z a0) (ws : List Jvm.Cond)  (h0 : Heap) (n0 : Nat) (Z0 : n0 ≤ h0.size)  :
  own_M l Z own_z49 own_c17 1 (some .int) ({ frames := 0, cells := 0, slots := 0, locals := 0 } : Room) ws #[(.int (1 : Int32))] h0 (Qbl1 Z  h0 n0) := by
 refine MetFree.of_bodySF (plainFor_of_name pn_k5) hisR ?_
 intro p e s m args below meth c s₁ Bd hml0 hP hK
 obtain ⟨rfl, hZ, hh⟩ := hP
 have hx := Bd.exec
 have hby := Bd.bytes
 have hml : c.maxLocals = 1 := hml0
 have hown : s.vm.findClass "java/lang/StringUTF16" = some m.cls := findClass_of_methodNamed Bd.named
 have X0 : Stand p l e ({ frames := 0, cells := 0, slots := 0, locals := 0 } : Room) s m #[(.int (1 : Int32))] below meth c s₁ [] 0 0 := Stand.of_body Bd
 have e0 : s₁.heap = h0 := by rw [← hh, Bd.state]; rfl
 have N0 := Fr.nil n0
 obtain ⟨PP, hPs, pre0⟩ : ∃ PP : State → Prop, (∀ t, PP t → Steps p.tables e below (s₁.setTop (entryFrame m #[(.int (1 : Int32))] 1)) t) ∧ own_pr p e below PP s₁ (mkF m 0 #[.val (.int (1 : Int32))] []) := ⟨_, fun _ κ => κ, fun τ κ => castTop (ef_sp m (1 : Int32)) κ⟩
 have pre1 : own_pr p e below PP s₁ (mkF m 58 #[.val (.int (1 : Int32))] [(.int (2 : Int32))]) := fun τ κ => pre0 τ (by
  show own_st p e below s₁ (mkF m 0 #[.val (.int (1 : Int32))] []) _
  refine XS.iloadN X0.here hx rfl (hb hby d47_0) rfl ?_
  refine XS.ifYes X0.here hx rfl (pc0 := 1) (pc' := 12) rfl (hb hby d47_1) rfl ((if0 _ _).trans (flt (by decide : ¬ ((1 : Int32) < (0 : Int32)))).2.1) (by decide) (by decide) ?_
  refine XS.iloadN X0.here hx rfl (hb hby d47_12) rfl ?_
  refine X0.ldcI hx hown (mvT hZ (wd231 hw)) (g := (mkF m 13 #[.val (.int (1 : Int32))] [(.int (1 : Int32))])) rfl (hb hby d47_13) ?_
  refine XS.icmpYes X0.here hx rfl (pc0 := 15) (pc' := 55) rfl (hb hby d47_15) rfl (tlt (by decide : (1 : Int32) < (1073741823 : Int32))).1 (by decide) (by decide) ?_
  refine XS.iloadN X0.here hx rfl (hb hby d47_55) rfl ?_
  refine XS.iconst X0.here hx rfl (hb hby d47_56) ?_
  refine XS.ishl X0.here hx rfl (hb hby d47_57) rfl ?_
  show own_st p e below s₁ (mkF m 58 #[.val (.int (1 : Int32))] [(.int ((1 : Int32) <<< ((1 : Int32) &&& 31)))]) _
  rw [show ((1 : Int32) <<< ((1 : Int32) &&& 31)) = (2 : Int32) from by decide]
  exact κ)
 obtain ⟨fs2, hr2, hrun2, hended2, hW2, hsame2⟩ := X0.leave (v := some (.int (2 : Int32))) (fun h => by rw [Bd.returns] at h; cases h)
 refine ⟨_, _, hPs _ (pre1 _ ?_), hrun2, hended2, _, _, rfl, ?_, ⟨_, rfl⟩, hW2, hsame2.mono (by decide) (by decide)⟩
 ·show own_st p e below s₁ (mkF m 58 #[.val (.int (1 : Int32))] [(.int (2 : Int32))]) _
  exact retOut X0 hx (t := .int) Bd.returns rfl (Or.inl ⟨rfl, Or.inl rfl, _, rfl⟩) (hb hby d47_58) hr2
 ·show Qbl1 Z  h0 n0 _ s₁.heap _
  rw [e0]
  exact ⟨rfl, N0, rfl⟩

theorem d46_0 : own_D own_c18 0 (.iload_n 0) 1 := by decide +kernel
theorem d46_1 : own_D own_c18 1 (.invokestatic 11) 3 := by decide +kernel
theorem d46_4 : own_D own_c18 4 (.newarray .byte) 2 := by decide +kernel
theorem d46_6 : own_D own_c18 6 (.areturn) 1 := by decide +kernel

theorem pd_bf1 : parseMethodDescriptor "(I)[B" = some ⟨[.int], some (.array .byte)⟩ := by decide +kernel

def Qbf1 (Z : State)  (h0 : Heap) (n0 : Nat) (v : Option Value) (h : Heap) (L : List Loc) : Prop := ∃ b kb, v = some (.ref b) ∧ Fr n0 L ∧ Ext h0 h ∧ h0.size ≤ b ∧ Arv Z h b kb .byte (2 : Int32) [(.int 0), (.int 0)] (.int 0)
theorem rmbf1 (l : Launch) (Z : State) (a0 : Array Value) (hw : own_W Z a0) (ws : List Jvm.Cond)  (h0 : Heap) (n0 : Nat) (Z0 : n0 ≤ h0.size)  :
  own_M l Z own_z48 own_c18 1 (some (.array .byte)) ({ frames := 1, cells := 1, slots := 2, locals := 12 } : Room) ws #[(.int (1 : Int32))] h0 (Qbf1 Z  h0 n0) := by
 refine MetFree.of_bodySF (plainFor_of_name pn_k5) hisR ?_
 intro p e s m args below meth c s₁ Bd hml0 hP hK
 obtain ⟨rfl, hZ, hh⟩ := hP
 have hx := Bd.exec
 have hby := Bd.bytes
 have hml : c.maxLocals = 1 := hml0
 have hown : s.vm.findClass "java/lang/StringUTF16" = some m.cls := findClass_of_methodNamed Bd.named
 have X0 : Stand p l e ({ frames := 1, cells := 1, slots := 2, locals := 12 } : Room) s m #[(.int (1 : Int32))] below meth c s₁ [] 0 0 := Stand.of_body Bd
 have e0 : s₁.heap = h0 := by rw [← hh, Bd.state]; rfl
 have N0 := Fr.nil n0
 obtain ⟨PP, hPs, pre0⟩ : ∃ PP : State → Prop, (∀ t, PP t → Steps p.tables e below (s₁.setTop (entryFrame m #[(.int (1 : Int32))] 1)) t) ∧ own_pr p e below PP s₁ (mkF m 0 #[.val (.int (1 : Int32))] []) := ⟨_, fun _ κ => κ, fun τ κ => castTop (ef_sp m (1 : Int32)) κ⟩
 obtain ⟨_, T1, Lc1, X1, hQ1, st1⟩ := own_cS X0 hx hZ (y := own_z49) hown (wd228 hw) (wd229 hw) (wd110 hw) (wd230 hw) (by decide) (rmbl1 l Z a0 hw [] h0 n0 Z0) 0 (by decide) (g := (mkF m 1 #[.val (.int (1 : Int32))] [(.int (1 : Int32))])) rfl hml.symm [(.int (1 : Int32))] [] (lenOf pd_bl1 rfl) rfl rfl (hb hby d46_1) e0 rfl
 obtain ⟨rfl, N1q, q1⟩ := hQ1
 have N1 := Fr.app N0 N1q
 obtain ⟨T2, h2, k2, X2, e2, E2, A2, st2⟩ := newP (aty := .byte) X1 hx hZ (wd21 hw) q1 (g := (mkF m 4 #[.val (.int (1 : Int32))] [(.int (2 : Int32))])) rfl (hb hby d46_4) rfl (by decide) (cap := 2) (by decide) (by decide) (by decide) (by decide)
 obtain ⟨b2, gb2⟩ : ∃ z, z = h0.size := ⟨_, rfl⟩
 rw [← gb2] at A2 st2
 have gn2 : n0 ≤ b2 := Nat.le_trans Z0 (Nat.le_of_eq gb2.symm)
 have sz2_b : h0.size ≤ b2 := Nat.le_trans (Keep.refl h0 []).1 (Nat.le_of_eq gb2.symm)
 have K2 := (Keep.refl h0 []).ext E2
 have V2 : Arv Z h2 b2 k2 .byte (2 : Int32) [(.int (0 : Int32)), (.int (0 : Int32))] (.int (0 : Int32)) := (Arv.new A2 (by decide)).pad (pad_rep [] (.int (0 : Int32)) 2)
 have pre3 : own_pr p e below PP T2 (mkF m 6 #[.val (.int (1 : Int32))] [(.ref b2)]) := fun τ κ => pre0 τ (by
  show own_st p e below s₁ (mkF m 0 #[.val (.int (1 : Int32))] []) _
  refine XS.iloadN X0.here hx rfl (hb hby d46_0) rfl ?_
  refine st1 _ ?_
  refine st2 _ ?_
  exact κ)
 obtain ⟨fs4, hr4, hrun4, hended4, hW4, hsame4⟩ := X2.leave (v := some (.ref b2)) (fun h => by rw [Bd.returns] at h; cases h)
 refine ⟨_, _, hPs _ (pre3 _ ?_), hrun4, hended4, _, _, rfl, ?_, ⟨_, rfl⟩, hW4, hsame4.mono (by decide) (by decide)⟩
 ·show own_st p e below T2 (mkF m 6 #[.val (.int (1 : Int32))] [(.ref b2)]) _
  exact retOut X2 hx (t := (.array .byte)) Bd.returns rfl (Or.inr (Or.inr (Or.inr (Or.inr ⟨rfl, rfl, rfl⟩)))) (hb hby d46_6) hr4
 ·show Qbf1 Z  h0 n0 _ T2.heap _
  rw [e2]
  exact ⟨_, _, rfl, N1, own_ext K2, sz2_b, V2⟩


def Qbl2 (Z : State)  (h0 : Heap) (n0 : Nat) (v : Option Value) (h : Heap) (L : List Loc) : Prop := v = some (.int (4 : Int32)) ∧ Fr n0 L ∧ h = h0
theorem rmbl2 (l : Launch) (Z : State) (a0 : Array Value) (hw : own_W Z a0) (ws : List Jvm.Cond)  (h0 : Heap) (n0 : Nat) (Z0 : n0 ≤ h0.size)  :
  own_M l Z own_z49 own_c17 1 (some .int) ({ frames := 0, cells := 0, slots := 0, locals := 0 } : Room) ws #[(.int (2 : Int32))] h0 (Qbl2 Z  h0 n0) := by
 refine MetFree.of_bodySF (plainFor_of_name pn_k5) hisR ?_
 intro p e s m args below meth c s₁ Bd hml0 hP hK
 obtain ⟨rfl, hZ, hh⟩ := hP
 have hx := Bd.exec
 have hby := Bd.bytes
 have hml : c.maxLocals = 1 := hml0
 have hown : s.vm.findClass "java/lang/StringUTF16" = some m.cls := findClass_of_methodNamed Bd.named
 have X0 : Stand p l e ({ frames := 0, cells := 0, slots := 0, locals := 0 } : Room) s m #[(.int (2 : Int32))] below meth c s₁ [] 0 0 := Stand.of_body Bd
 have e0 : s₁.heap = h0 := by rw [← hh, Bd.state]; rfl
 have N0 := Fr.nil n0
 obtain ⟨PP, hPs, pre0⟩ : ∃ PP : State → Prop, (∀ t, PP t → Steps p.tables e below (s₁.setTop (entryFrame m #[(.int (2 : Int32))] 1)) t) ∧ own_pr p e below PP s₁ (mkF m 0 #[.val (.int (2 : Int32))] []) := ⟨_, fun _ κ => κ, fun τ κ => castTop (ef_sp m (2 : Int32)) κ⟩
 have pre1 : own_pr p e below PP s₁ (mkF m 58 #[.val (.int (2 : Int32))] [(.int (4 : Int32))]) := fun τ κ => pre0 τ (by
  show own_st p e below s₁ (mkF m 0 #[.val (.int (2 : Int32))] []) _
  refine XS.iloadN X0.here hx rfl (hb hby d47_0) rfl ?_
  refine XS.ifYes X0.here hx rfl (pc0 := 1) (pc' := 12) rfl (hb hby d47_1) rfl ((if0 _ _).trans (flt (by decide : ¬ ((2 : Int32) < (0 : Int32)))).2.1) (by decide) (by decide) ?_
  refine XS.iloadN X0.here hx rfl (hb hby d47_12) rfl ?_
  refine X0.ldcI hx hown (mvT hZ (wd231 hw)) (g := (mkF m 13 #[.val (.int (2 : Int32))] [(.int (2 : Int32))])) rfl (hb hby d47_13) ?_
  refine XS.icmpYes X0.here hx rfl (pc0 := 15) (pc' := 55) rfl (hb hby d47_15) rfl (tlt (by decide : (2 : Int32) < (1073741823 : Int32))).1 (by decide) (by decide) ?_
  refine XS.iloadN X0.here hx rfl (hb hby d47_55) rfl ?_
  refine XS.iconst X0.here hx rfl (hb hby d47_56) ?_
  refine XS.ishl X0.here hx rfl (hb hby d47_57) rfl ?_
  show own_st p e below s₁ (mkF m 58 #[.val (.int (2 : Int32))] [(.int ((2 : Int32) <<< ((1 : Int32) &&& 31)))]) _
  rw [show ((2 : Int32) <<< ((1 : Int32) &&& 31)) = (4 : Int32) from by decide]
  exact κ)
 obtain ⟨fs2, hr2, hrun2, hended2, hW2, hsame2⟩ := X0.leave (v := some (.int (4 : Int32))) (fun h => by rw [Bd.returns] at h; cases h)
 refine ⟨_, _, hPs _ (pre1 _ ?_), hrun2, hended2, _, _, rfl, ?_, ⟨_, rfl⟩, hW2, hsame2.mono (by decide) (by decide)⟩
 ·show own_st p e below s₁ (mkF m 58 #[.val (.int (2 : Int32))] [(.int (4 : Int32))]) _
  exact retOut X0 hx (t := .int) Bd.returns rfl (Or.inl ⟨rfl, Or.inl rfl, _, rfl⟩) (hb hby d47_58) hr2
 ·show Qbl2 Z  h0 n0 _ s₁.heap _
  rw [e0]
  exact ⟨rfl, N0, rfl⟩


def Qbf2 (Z : State)  (h0 : Heap) (n0 : Nat) (v : Option Value) (h : Heap) (L : List Loc) : Prop := ∃ b kb, v = some (.ref b) ∧ Fr n0 L ∧ Ext h0 h ∧ h0.size ≤ b ∧ Arv Z h b kb .byte (4 : Int32) [(.int 0), (.int 0), (.int 0), (.int 0)] (.int 0)
theorem rmbf2 (l : Launch) (Z : State) (a0 : Array Value) (hw : own_W Z a0) (ws : List Jvm.Cond)  (h0 : Heap) (n0 : Nat) (Z0 : n0 ≤ h0.size)  :
  own_M l Z own_z48 own_c18 1 (some (.array .byte)) ({ frames := 1, cells := 1, slots := 4, locals := 12 } : Room) ws #[(.int (2 : Int32))] h0 (Qbf2 Z  h0 n0) := by
 refine MetFree.of_bodySF (plainFor_of_name pn_k5) hisR ?_
 intro p e s m args below meth c s₁ Bd hml0 hP hK
 obtain ⟨rfl, hZ, hh⟩ := hP
 have hx := Bd.exec
 have hby := Bd.bytes
 have hml : c.maxLocals = 1 := hml0
 have hown : s.vm.findClass "java/lang/StringUTF16" = some m.cls := findClass_of_methodNamed Bd.named
 have X0 : Stand p l e ({ frames := 1, cells := 1, slots := 4, locals := 12 } : Room) s m #[(.int (2 : Int32))] below meth c s₁ [] 0 0 := Stand.of_body Bd
 have e0 : s₁.heap = h0 := by rw [← hh, Bd.state]; rfl
 have N0 := Fr.nil n0
 obtain ⟨PP, hPs, pre0⟩ : ∃ PP : State → Prop, (∀ t, PP t → Steps p.tables e below (s₁.setTop (entryFrame m #[(.int (2 : Int32))] 1)) t) ∧ own_pr p e below PP s₁ (mkF m 0 #[.val (.int (2 : Int32))] []) := ⟨_, fun _ κ => κ, fun τ κ => castTop (ef_sp m (2 : Int32)) κ⟩
 obtain ⟨_, T1, Lc1, X1, hQ1, st1⟩ := own_cS X0 hx hZ (y := own_z49) hown (wd228 hw) (wd229 hw) (wd110 hw) (wd230 hw) (by decide) (rmbl2 l Z a0 hw [] h0 n0 Z0) 0 (by decide) (g := (mkF m 1 #[.val (.int (2 : Int32))] [(.int (2 : Int32))])) rfl hml.symm [(.int (2 : Int32))] [] (lenOf pd_bl1 rfl) rfl rfl (hb hby d46_1) e0 rfl
 obtain ⟨rfl, N1q, q1⟩ := hQ1
 have N1 := Fr.app N0 N1q
 obtain ⟨T2, h2, k2, X2, e2, E2, A2, st2⟩ := newP (aty := .byte) X1 hx hZ (wd21 hw) q1 (g := (mkF m 4 #[.val (.int (2 : Int32))] [(.int (4 : Int32))])) rfl (hb hby d46_4) rfl (by decide) (cap := 4) (by decide) (by decide) (by decide) (by decide)
 obtain ⟨b2, gb2⟩ : ∃ z, z = h0.size := ⟨_, rfl⟩
 rw [← gb2] at A2 st2
 have gn2 : n0 ≤ b2 := Nat.le_trans Z0 (Nat.le_of_eq gb2.symm)
 have sz2_b : h0.size ≤ b2 := Nat.le_trans (Keep.refl h0 []).1 (Nat.le_of_eq gb2.symm)
 have K2 := (Keep.refl h0 []).ext E2
 have V2 : Arv Z h2 b2 k2 .byte (4 : Int32) [(.int (0 : Int32)), (.int (0 : Int32)), (.int (0 : Int32)), (.int (0 : Int32))] (.int (0 : Int32)) := (Arv.new A2 (by decide)).pad (pad_rep [] (.int (0 : Int32)) 4)
 have pre3 : own_pr p e below PP T2 (mkF m 6 #[.val (.int (2 : Int32))] [(.ref b2)]) := fun τ κ => pre0 τ (by
  show own_st p e below s₁ (mkF m 0 #[.val (.int (2 : Int32))] []) _
  refine XS.iloadN X0.here hx rfl (hb hby d46_0) rfl ?_
  refine st1 _ ?_
  refine st2 _ ?_
  exact κ)
 obtain ⟨fs4, hr4, hrun4, hended4, hW4, hsame4⟩ := X2.leave (v := some (.ref b2)) (fun h => by rw [Bd.returns] at h; cases h)
 refine ⟨_, _, hPs _ (pre3 _ ?_), hrun4, hended4, _, _, rfl, ?_, ⟨_, rfl⟩, hW4, hsame4.mono (by decide) (by decide)⟩
 ·show own_st p e below T2 (mkF m 6 #[.val (.int (2 : Int32))] [(.ref b2)]) _
  exact retOut X2 hx (t := (.array .byte)) Bd.returns rfl (Or.inr (Or.inr (Or.inr (Or.inr ⟨rfl, rfl, rfl⟩)))) (hb hby d46_6) hr4
 ·show Qbf2 Z  h0 n0 _ T2.heap _
  rw [e2]
  exact ⟨_, _, rfl, N1, own_ext K2, sz2_b, V2⟩


def Qbl3 (Z : State)  (h0 : Heap) (n0 : Nat) (v : Option Value) (h : Heap) (L : List Loc) : Prop := v = some (.int (6 : Int32)) ∧ Fr n0 L ∧ h = h0
theorem rmbl3 (l : Launch) (Z : State) (a0 : Array Value) (hw : own_W Z a0) (ws : List Jvm.Cond)  (h0 : Heap) (n0 : Nat) (Z0 : n0 ≤ h0.size)  :
  own_M l Z own_z49 own_c17 1 (some .int) ({ frames := 0, cells := 0, slots := 0, locals := 0 } : Room) ws #[(.int (3 : Int32))] h0 (Qbl3 Z  h0 n0) := by
 refine MetFree.of_bodySF (plainFor_of_name pn_k5) hisR ?_
 intro p e s m args below meth c s₁ Bd hml0 hP hK
 obtain ⟨rfl, hZ, hh⟩ := hP
 have hx := Bd.exec
 have hby := Bd.bytes
 have hml : c.maxLocals = 1 := hml0
 have hown : s.vm.findClass "java/lang/StringUTF16" = some m.cls := findClass_of_methodNamed Bd.named
 have X0 : Stand p l e ({ frames := 0, cells := 0, slots := 0, locals := 0 } : Room) s m #[(.int (3 : Int32))] below meth c s₁ [] 0 0 := Stand.of_body Bd
 have e0 : s₁.heap = h0 := by rw [← hh, Bd.state]; rfl
 have N0 := Fr.nil n0
 obtain ⟨PP, hPs, pre0⟩ : ∃ PP : State → Prop, (∀ t, PP t → Steps p.tables e below (s₁.setTop (entryFrame m #[(.int (3 : Int32))] 1)) t) ∧ own_pr p e below PP s₁ (mkF m 0 #[.val (.int (3 : Int32))] []) := ⟨_, fun _ κ => κ, fun τ κ => castTop (ef_sp m (3 : Int32)) κ⟩
 have pre1 : own_pr p e below PP s₁ (mkF m 58 #[.val (.int (3 : Int32))] [(.int (6 : Int32))]) := fun τ κ => pre0 τ (by
  show own_st p e below s₁ (mkF m 0 #[.val (.int (3 : Int32))] []) _
  refine XS.iloadN X0.here hx rfl (hb hby d47_0) rfl ?_
  refine XS.ifYes X0.here hx rfl (pc0 := 1) (pc' := 12) rfl (hb hby d47_1) rfl ((if0 _ _).trans (flt (by decide : ¬ ((3 : Int32) < (0 : Int32)))).2.1) (by decide) (by decide) ?_
  refine XS.iloadN X0.here hx rfl (hb hby d47_12) rfl ?_
  refine X0.ldcI hx hown (mvT hZ (wd231 hw)) (g := (mkF m 13 #[.val (.int (3 : Int32))] [(.int (3 : Int32))])) rfl (hb hby d47_13) ?_
  refine XS.icmpYes X0.here hx rfl (pc0 := 15) (pc' := 55) rfl (hb hby d47_15) rfl (tlt (by decide : (3 : Int32) < (1073741823 : Int32))).1 (by decide) (by decide) ?_
  refine XS.iloadN X0.here hx rfl (hb hby d47_55) rfl ?_
  refine XS.iconst X0.here hx rfl (hb hby d47_56) ?_
  refine XS.ishl X0.here hx rfl (hb hby d47_57) rfl ?_
  show own_st p e below s₁ (mkF m 58 #[.val (.int (3 : Int32))] [(.int ((3 : Int32) <<< ((1 : Int32) &&& 31)))]) _
  rw [show ((3 : Int32) <<< ((1 : Int32) &&& 31)) = (6 : Int32) from by decide]
  exact κ)
 obtain ⟨fs2, hr2, hrun2, hended2, hW2, hsame2⟩ := X0.leave (v := some (.int (6 : Int32))) (fun h => by rw [Bd.returns] at h; cases h)
 refine ⟨_, _, hPs _ (pre1 _ ?_), hrun2, hended2, _, _, rfl, ?_, ⟨_, rfl⟩, hW2, hsame2.mono (by decide) (by decide)⟩
 ·show own_st p e below s₁ (mkF m 58 #[.val (.int (3 : Int32))] [(.int (6 : Int32))]) _
  exact retOut X0 hx (t := .int) Bd.returns rfl (Or.inl ⟨rfl, Or.inl rfl, _, rfl⟩) (hb hby d47_58) hr2
 ·show Qbl3 Z  h0 n0 _ s₁.heap _
  rw [e0]
  exact ⟨rfl, N0, rfl⟩


def Qbf3 (Z : State)  (h0 : Heap) (n0 : Nat) (v : Option Value) (h : Heap) (L : List Loc) : Prop := ∃ b kb, v = some (.ref b) ∧ Fr n0 L ∧ Ext h0 h ∧ h0.size ≤ b ∧ Arv Z h b kb .byte (6 : Int32) [(.int 0), (.int 0), (.int 0), (.int 0), (.int 0), (.int 0)] (.int 0)
theorem rmbf3 (l : Launch) (Z : State) (a0 : Array Value) (hw : own_W Z a0) (ws : List Jvm.Cond)  (h0 : Heap) (n0 : Nat) (Z0 : n0 ≤ h0.size)  :
  own_M l Z own_z48 own_c18 1 (some (.array .byte)) ({ frames := 1, cells := 1, slots := 6, locals := 12 } : Room) ws #[(.int (3 : Int32))] h0 (Qbf3 Z  h0 n0) := by
 refine MetFree.of_bodySF (plainFor_of_name pn_k5) hisR ?_
 intro p e s m args below meth c s₁ Bd hml0 hP hK
 obtain ⟨rfl, hZ, hh⟩ := hP
 have hx := Bd.exec
 have hby := Bd.bytes
 have hml : c.maxLocals = 1 := hml0
 have hown : s.vm.findClass "java/lang/StringUTF16" = some m.cls := findClass_of_methodNamed Bd.named
 have X0 : Stand p l e ({ frames := 1, cells := 1, slots := 6, locals := 12 } : Room) s m #[(.int (3 : Int32))] below meth c s₁ [] 0 0 := Stand.of_body Bd
 have e0 : s₁.heap = h0 := by rw [← hh, Bd.state]; rfl
 have N0 := Fr.nil n0
 obtain ⟨PP, hPs, pre0⟩ : ∃ PP : State → Prop, (∀ t, PP t → Steps p.tables e below (s₁.setTop (entryFrame m #[(.int (3 : Int32))] 1)) t) ∧ own_pr p e below PP s₁ (mkF m 0 #[.val (.int (3 : Int32))] []) := ⟨_, fun _ κ => κ, fun τ κ => castTop (ef_sp m (3 : Int32)) κ⟩
 obtain ⟨_, T1, Lc1, X1, hQ1, st1⟩ := own_cS X0 hx hZ (y := own_z49) hown (wd228 hw) (wd229 hw) (wd110 hw) (wd230 hw) (by decide) (rmbl3 l Z a0 hw [] h0 n0 Z0) 0 (by decide) (g := (mkF m 1 #[.val (.int (3 : Int32))] [(.int (3 : Int32))])) rfl hml.symm [(.int (3 : Int32))] [] (lenOf pd_bl1 rfl) rfl rfl (hb hby d46_1) e0 rfl
 obtain ⟨rfl, N1q, q1⟩ := hQ1
 have N1 := Fr.app N0 N1q
 obtain ⟨T2, h2, k2, X2, e2, E2, A2, st2⟩ := newP (aty := .byte) X1 hx hZ (wd21 hw) q1 (g := (mkF m 4 #[.val (.int (3 : Int32))] [(.int (6 : Int32))])) rfl (hb hby d46_4) rfl (by decide) (cap := 6) (by decide) (by decide) (by decide) (by decide)
 obtain ⟨b2, gb2⟩ : ∃ z, z = h0.size := ⟨_, rfl⟩
 rw [← gb2] at A2 st2
 have gn2 : n0 ≤ b2 := Nat.le_trans Z0 (Nat.le_of_eq gb2.symm)
 have sz2_b : h0.size ≤ b2 := Nat.le_trans (Keep.refl h0 []).1 (Nat.le_of_eq gb2.symm)
 have K2 := (Keep.refl h0 []).ext E2
 have V2 : Arv Z h2 b2 k2 .byte (6 : Int32) [(.int (0 : Int32)), (.int (0 : Int32)), (.int (0 : Int32)), (.int (0 : Int32)), (.int (0 : Int32)), (.int (0 : Int32))] (.int (0 : Int32)) := (Arv.new A2 (by decide)).pad (pad_rep [] (.int (0 : Int32)) 6)
 have pre3 : own_pr p e below PP T2 (mkF m 6 #[.val (.int (3 : Int32))] [(.ref b2)]) := fun τ κ => pre0 τ (by
  show own_st p e below s₁ (mkF m 0 #[.val (.int (3 : Int32))] []) _
  refine XS.iloadN X0.here hx rfl (hb hby d46_0) rfl ?_
  refine st1 _ ?_
  refine st2 _ ?_
  exact κ)
 obtain ⟨fs4, hr4, hrun4, hended4, hW4, hsame4⟩ := X2.leave (v := some (.ref b2)) (fun h => by rw [Bd.returns] at h; cases h)
 refine ⟨_, _, hPs _ (pre3 _ ?_), hrun4, hended4, _, _, rfl, ?_, ⟨_, rfl⟩, hW4, hsame4.mono (by decide) (by decide)⟩
 ·show own_st p e below T2 (mkF m 6 #[.val (.int (3 : Int32))] [(.ref b2)]) _
  exact retOut X2 hx (t := (.array .byte)) Bd.returns rfl (Or.inr (Or.inr (Or.inr (Or.inr ⟨rfl, rfl, rfl⟩)))) (hb hby d46_6) hr4
 ·show Qbf3 Z  h0 n0 _ T2.heap _
  rw [e2]
  exact ⟨_, _, rfl, N1, own_ext K2, sz2_b, V2⟩

theorem d45_0 : own_D own_c19 0 (.iload_n 2) 1 := by decide +kernel
theorem d45_1 : own_D own_c19 1 (.invokestatic 107) 3 := by decide +kernel
theorem d45_4 : own_D own_c19 4 (.astore_n 3) 1 := by decide +kernel
theorem d45_5 : own_D own_c19 5 (.iconst 0) 1 := by decide +kernel
theorem d45_6 : own_D own_c19 6 (.istore 4) 2 := by decide +kernel
theorem d45_8 : own_D own_c19 8 (.iload 4) 2 := by decide +kernel
theorem d45_10 : own_D own_c19 10 (.iload_n 2) 1 := by decide +kernel
theorem d45_11 : own_D own_c19 11 (.if_icmp .ge 21) 3 := by decide +kernel
theorem d45_14 : own_D own_c19 14 (.aload_n 3) 1 := by decide +kernel
theorem d45_15 : own_D own_c19 15 (.iload 4) 2 := by decide +kernel
theorem d45_17 : own_D own_c19 17 (.aload_n 0) 1 := by decide +kernel
theorem d45_18 : own_D own_c19 18 (.iload_n 1) 1 := by decide +kernel
theorem d45_19 : own_D own_c19 19 (.caload) 1 := by decide +kernel
theorem d45_20 : own_D own_c19 20 (.invokestatic 111) 3 := by decide +kernel
theorem d45_23 : own_D own_c19 23 (.iinc 1 1) 3 := by decide +kernel
theorem d45_26 : own_D own_c19 26 (.iinc 4 1) 3 := by decide +kernel
theorem d45_29 : own_D own_c19 29 (.goto (-21)) 3 := by decide +kernel
theorem d45_32 : own_D own_c19 32 (.aload_n 3) 1 := by decide +kernel
theorem d45_33 : own_D own_c19 33 (.areturn) 1 := by decide +kernel

theorem pd_tb1 : parseMethodDescriptor "([CII)[B" = some ⟨[(.array .char), .int, .int], some (.array .byte)⟩ := by decide +kernel

theorem ef_tb1 (m : MethodId) (x0 : Addr) (x1 : Int32) (x2 : Int32)  : entryFrame m #[(.ref x0), (.int x1), (.int x2)] 5 = mkF m 0 #[.val (.ref x0), .val (.int x1), .val (.int x2), .unset, .unset] [] := by first | (simp [entryFrame, mkF, argsToLocals, Value.category]; done) | rfl
def Qtb1 (Z : State) (a1 : Addr) (kc : ClassId) (c0 : Int32) (h0 : Heap) (n0 : Nat) (v : Option Value) (h : Heap) (L : List Loc) : Prop := ∃ b kb, v = some (.ref b) ∧ Fr n0 L ∧ Ext h0 h ∧ Arv Z h b kb .byte (2 : Int32) (own_wb [c0]) (.int 0)
theorem rmtb1 (l : Launch) (Z : State) (a0 : Array Value) (hw : own_W Z a0) (ws : List Jvm.Cond) (a1 : Addr) (kc : ClassId) (c0 : Int32) (h0 : Heap) (n0 : Nat) (Z0 : n0 ≤ h0.size) (Ac : Arv Z h0 a1 kc .char (1 : Int32) ([c0].map Value.int) (.int 0)) (EN : own_env Z h0) :
  own_M l Z own_z47 own_c19 5 (some (.array .byte)) ({ frames := 2, cells := 1, slots := 2, locals := 24 } : Room) ws #[(.ref a1), (.int (0 : Int32)), (.int (1 : Int32))] h0 (Qtb1 Z a1 kc c0 h0 n0) := by
 refine MetFree.of_bodySF (plainFor_of_name pn_k5) hisR ?_
 intro p e s m args below meth c s₁ Bd hml0 hP hK
 obtain ⟨rfl, hZ, hh⟩ := hP
 have hx := Bd.exec
 have hby := Bd.bytes
 have hml : c.maxLocals = 5 := hml0
 have hown : s.vm.findClass "java/lang/StringUTF16" = some m.cls := findClass_of_methodNamed Bd.named
 have X0 : Stand p l e ({ frames := 2, cells := 1, slots := 2, locals := 24 } : Room) s m #[(.ref a1), (.int (0 : Int32)), (.int (1 : Int32))] below meth c s₁ [] 0 0 := Stand.of_body Bd
 have e0 : s₁.heap = h0 := by rw [← hh, Bd.state]; rfl
 have N0 := Fr.nil n0
 obtain ⟨PP, hPs, pre0⟩ : ∃ PP : State → Prop, (∀ t, PP t → Steps p.tables e below (s₁.setTop (entryFrame m #[(.ref a1), (.int (0 : Int32)), (.int (1 : Int32))] 5)) t) ∧ own_pr p e below PP s₁ (mkF m 0 #[.val (.ref a1), .val (.int (0 : Int32)), .val (.int (1 : Int32)), .unset, .unset] []) := ⟨_, fun _ κ => κ, fun τ κ => castTop (ef_tb1 m a1 (0 : Int32) (1 : Int32)) κ⟩
 obtain ⟨_, T1, Lc1, X1, hQ1, st1⟩ := own_cS X0 hx hZ (y := own_z48) hown (wd225 hw) (wd226 hw) (wd110 hw) (wd227 hw) (by decide) (rmbf1 l Z a0 hw [] h0 n0 Z0) 0 (by decide) (g := (mkF m 1 #[.val (.ref a1), .val (.int (0 : Int32)), .val (.int (1 : Int32)), .unset, .unset] [(.int (1 : Int32))])) rfl hml.symm [(.int (1 : Int32))] [] (lenOf pd_bf1 rfl) rfl rfl (hb hby d45_1) e0 rfl
 obtain ⟨b1, kb1, rfl, N1q, E1, gz1, V1⟩ := hQ1
 have N1 := Fr.app N0 N1q
 have Ac_1 := Ac.ext E1
 have EN_1 := EN.ext E1
 have K1 := (Keep.refl h0 []).ext E1
 have nab : a1 ≠ b1 := Nat.ne_of_lt (Nat.lt_of_lt_of_le Ac.lt gz1)
 have Vc2 := Ac_1
 obtain ⟨cl2, Ar2, qq2, sz2, nn2, Ha2, Gf2⟩ := Vc2
 have hin2 : ¬ ((0 : Int32) < 0 ∨ cl2.slots.size ≤ ((0 : Int32)).toNatClampNeg) := inb_of sz2 ⟨by decide, by decide⟩
 obtain ⟨_, T3, Lc3, X3, hQ3, st3⟩ := own_cS X1 hx hZ (y := own_z50) hown (wd232 hw) (wd233 hw) (wd110 hw) (wd234 hw) (by decide) (rmpc l Z a0 hw [] b1 kb1 (2 : Int32) [.int 0, .int 0] 0 (0 : Int32) c0 T1.heap n0 (Nat.le_trans Z0 E1.1) EN_1 V1 (Nat.le_trans Z0 gz1) ⟨by decide, by decide⟩ ⟨by decide, by decide⟩ (by decide) (by decide) (Nat.le_of_ble_eq_true rfl) (Nat.le_of_ble_eq_true rfl)) 0 (by decide) (g := (mkF m 20 #[.val (.ref a1), .val (.int (0 : Int32)), .val (.int (1 : Int32)), .val (.ref b1), .val (.int (0 : Int32))] [(.int c0), (.int (0 : Int32)), (.ref b1)])) rfl hml.symm [(.ref b1), (.int (0 : Int32)), (.int c0)] [] (lenOf pd_pc rfl) rfl rfl (hb hby d45_20) rfl rfl
 obtain ⟨rfl, N3q, Kp3, Vn3⟩ := hQ3
 have N3 := Fr.app N1 N3q
 have Ac_3 := Ac_1.keep Kp3 (ninS nab nin0)
 have EN_3 := EN_1.keep Kp3 V1.nostat
 have K3 := K1.trans Kp3 (fun x hx => by cases List.mem_singleton.mp hx; exact Or.inr gz1)
 have Vx3 : Arv Z T3.heap b1 kb1 .byte (2 : Int32) [.int (own_lo8 c0), .int (own_hi8 c0)] (.int 0) := Vn3
 have pre4 : own_pr p e below PP T3 (mkF m 33 #[.val (.ref a1), .val (.int (1 : Int32)), .val (.int (1 : Int32)), .val (.ref b1), .val (.int (1 : Int32))] [(.ref b1)]) := fun τ κ => pre0 τ (by
  show own_st p e below s₁ (mkF m 0 #[.val (.ref a1), .val (.int (0 : Int32)), .val (.int (1 : Int32)), .unset, .unset] []) _
  refine XS.iloadN X0.here hx rfl (hb hby d45_0) rfl ?_
  refine st1 _ ?_
  refine XS.astoreN X1.here hx rfl (hb hby d45_4) rfl rfl (l' := #[.val (.ref a1), .val (.int (0 : Int32)), .val (.int (1 : Int32)), .val (.ref b1), .unset]) rfl ?_
  refine XS.iconst X1.here hx rfl (hb hby d45_5) ?_
  refine XS.istore X1.here hx rfl (hb hby d45_6) rfl (l' := #[.val (.ref a1), .val (.int (0 : Int32)), .val (.int (1 : Int32)), .val (.ref b1), .val (.int (0 : Int32))]) rfl ?_
  refine XS.iload X1.here hx rfl (hb hby d45_8) rfl ?_
  refine XS.iloadN X1.here hx rfl (hb hby d45_10) rfl ?_
  refine XS.icmpNo X1.here hx rfl (hb hby d45_11) rfl (tlt (by decide : (0 : Int32) < (1 : Int32))).2.1 ?_
  refine XS.aloadN X1.here hx rfl (hb hby d45_14) rfl rfl ?_
  refine XS.iload X1.here hx rfl (hb hby d45_15) rfl ?_
  refine XS.aloadN X1.here hx rfl (hb hby d45_17) rfl rfl ?_
  refine XS.iloadN X1.here hx rfl (hb hby d45_18) rfl ?_
  refine X1.caload hx (j := (0 : Int32)) (v := (.int c0)) Ar2.1 (State.isArrayOf_alike hZ.alike Ar2.2.1) Ar2.2.2 hin2 (Has.at Ha2 hin2 rfl) (g := (mkF m 19 #[.val (.ref a1), .val (.int (0 : Int32)), .val (.int (1 : Int32)), .val (.ref b1), .val (.int (0 : Int32))] [(.int (0 : Int32)), (.ref a1), (.int (0 : Int32)), (.ref b1)])) rfl rfl (hb hby d45_19) _ ?_
  refine st3 _ ?_
  refine XS.iinc X3.here hx rfl (hb hby d45_23) rfl (l' := #[.val (.ref a1), .val (.int ((0 : Int32) + (1 : Int32))), .val (.int (1 : Int32)), .val (.ref b1), .val (.int (0 : Int32))]) rfl ?_
  show own_st p e below T3 (mkF m 26 #[.val (.ref a1), .val (.int ((0 : Int32) + (1 : Int32))), .val (.int (1 : Int32)), .val (.ref b1), .val (.int (0 : Int32))] []) _
  rw [show ((0 : Int32) + (1 : Int32)) = (1 : Int32) from by decide]
  refine XS.iinc X3.here hx rfl (hb hby d45_26) rfl (l' := #[.val (.ref a1), .val (.int (1 : Int32)), .val (.int (1 : Int32)), .val (.ref b1), .val (.int ((0 : Int32) + (1 : Int32)))]) rfl ?_
  show own_st p e below T3 (mkF m 29 #[.val (.ref a1), .val (.int (1 : Int32)), .val (.int (1 : Int32)), .val (.ref b1), .val (.int ((0 : Int32) + (1 : Int32)))] []) _
  rw [show ((0 : Int32) + (1 : Int32)) = (1 : Int32) from by decide]
  refine XS.goto X3.here hx rfl (pc0 := 29) (pc' := 8) rfl (hb hby d45_29) (by decide) (by decide) ?_
  refine XS.iload X3.here hx rfl (hb hby d45_8) rfl ?_
  refine XS.iloadN X3.here hx rfl (hb hby d45_10) rfl ?_
  refine XS.icmpYes X3.here hx rfl (pc0 := 11) (pc' := 32) rfl (hb hby d45_11) rfl (flt (by decide : ¬ ((1 : Int32) < (1 : Int32)))).2.1 (by decide) (by decide) ?_
  refine XS.aloadN X3.here hx rfl (hb hby d45_32) rfl rfl ?_
  exact κ)
 obtain ⟨fs5, hr5, hrun5, hended5, hW5, hsame5⟩ := X3.leave (v := some (.ref b1)) (fun h => by rw [Bd.returns] at h; cases h)
 refine ⟨_, _, hPs _ (pre4 _ ?_), hrun5, hended5, _, _, rfl, ?_, ⟨_, rfl⟩, hW5, hsame5.mono (by decide) (by decide)⟩
 ·show own_st p e below T3 (mkF m 33 #[.val (.ref a1), .val (.int (1 : Int32)), .val (.int (1 : Int32)), .val (.ref b1), .val (.int (1 : Int32))] [(.ref b1)]) _
  exact retOut X3 hx (t := (.array .byte)) Bd.returns rfl (Or.inr (Or.inr (Or.inr (Or.inr ⟨rfl, rfl, rfl⟩)))) (hb hby d45_33) hr5
 ·show Qtb1 Z a1 kc c0 h0 n0 _ T3.heap _
  exact ⟨_, _, rfl, N3, own_ext K3, Vx3⟩

theorem d19_0 : own_D own_c20 0 (.iconst 0) 1 := by decide +kernel
theorem d19_1 : own_D own_c20 1 (.istore 5) 2 := by decide +kernel
theorem d19_3 : own_D own_c20 3 (.iload 5) 2 := by decide +kernel
theorem d19_5 : own_D own_c20 5 (.iload 4) 2 := by decide +kernel
theorem d19_7 : own_D own_c20 7 (.if_icmp .ge 37) 3 := by decide +kernel
theorem d19_10 : own_D own_c20 10 (.aload_n 0) 1 := by decide +kernel
theorem d19_11 : own_D own_c20 11 (.iload_n 1) 1 := by decide +kernel
theorem d19_12 : own_D own_c20 12 (.caload) 1 := by decide +kernel
theorem d19_13 : own_D own_c20 13 (.istore 6) 2 := by decide +kernel
theorem d19_15 : own_D own_c20 15 (.iload 6) 2 := by decide +kernel
theorem d19_17 : own_D own_c20 17 (.sipush 255) 3 := by decide +kernel
theorem d19_20 : own_D own_c20 20 (.if_icmp .le 6) 3 := by decide +kernel
theorem d19_23 : own_D own_c20 23 (.iload 5) 2 := by decide +kernel
theorem d19_25 : own_D own_c20 25 (.ireturn) 1 := by decide +kernel
theorem d19_26 : own_D own_c20 26 (.aload_n 2) 1 := by decide +kernel
theorem d19_27 : own_D own_c20 27 (.iload_n 3) 1 := by decide +kernel
theorem d19_28 : own_D own_c20 28 (.iload 6) 2 := by decide +kernel
theorem d19_30 : own_D own_c20 30 (.i2b) 1 := by decide +kernel
theorem d19_31 : own_D own_c20 31 (.bastore) 1 := by decide +kernel
theorem d19_32 : own_D own_c20 32 (.iinc 1 1) 3 := by decide +kernel
theorem d19_35 : own_D own_c20 35 (.iinc 3 1) 3 := by decide +kernel
theorem d19_38 : own_D own_c20 38 (.iinc 5 1) 3 := by decide +kernel
theorem d19_41 : own_D own_c20 41 (.goto (-38)) 3 := by decide +kernel
theorem d19_44 : own_D own_c20 44 (.iload 4) 2 := by decide +kernel
theorem d19_46 : own_D own_c20 46 (.ireturn) 1 := by decide +kernel

theorem pd_cp1 : parseMethodDescriptor "([CI[BII)I" = some ⟨[(.array .char), .int, (.array .byte), .int, .int], some .int⟩ := by decide +kernel

theorem ef_cp1 (m : MethodId) (x0 : Addr) (x1 : Int32) (x2 : Addr) (x3 : Int32) (x4 : Int32)  : entryFrame m #[(.ref x0), (.int x1), (.ref x2), (.int x3), (.int x4)] 7 = mkF m 0 #[.val (.ref x0), .val (.int x1), .val (.ref x2), .val (.int x3), .val (.int x4), .unset, .unset] [] := by first | (simp [entryFrame, mkF, argsToLocals, Value.category]; done) | rfl
def Qcp1 (Z : State) (a1 a2 : Addr) (kc kd : ClassId) (c0 : Int32) (h0 : Heap) (n0 : Nat) (v : Option Value) (h : Heap) (L : List Loc) : Prop := ∃ j : Int32, v = some (.int j) ∧ Fr n0 L ∧ Keep h0 h [a2] ∧ ((j = (0 : Int32) ∧ (255 : Int32) < c0) ∨ (j = (1 : Int32) ∧ (¬ (255 : Int32) < c0) ∧ Arv Z h a2 kd .byte (1 : Int32) ([c0].map fun c => Value.int (own_lo8 c)) (.int 0)))
theorem rmcp1 (l : Launch) (Z : State) (a0 : Array Value) (hw : own_W Z a0) (ws : List Jvm.Cond) (a1 a2 : Addr) (kc kd : ClassId) (c0 : Int32) (h0 : Heap) (n0 : Nat) (Z0 : n0 ≤ h0.size) (Ac : Arv Z h0 a1 kc .char (1 : Int32) ([c0].map Value.int) (.int 0)) (Vd : Arv Z h0 a2 kd .byte (1 : Int32) [.int 0] (.int 0)) (hne : a1 ≠ a2) (gd : n0 ≤ a2) :
  own_M l Z own_z20 own_c20 7 (some .int) ({ frames := 0, cells := 0, slots := 0, locals := 0 } : Room) ws #[(.ref a1), (.int (0 : Int32)), (.ref a2), (.int (0 : Int32)), (.int (1 : Int32))] h0 (Qcp1 Z a1 a2 kc kd c0 h0 n0) := by
 refine MetFree.of_bodySF (plainFor_of_name pn_k5) hisR ?_
 intro p e s m args below meth c s₁ Bd hml0 hP hK
 obtain ⟨rfl, hZ, hh⟩ := hP
 have hx := Bd.exec
 have hby := Bd.bytes
 have hml : c.maxLocals = 7 := hml0
 have hown : s.vm.findClass "java/lang/StringUTF16" = some m.cls := findClass_of_methodNamed Bd.named
 have X0 : Stand p l e ({ frames := 0, cells := 0, slots := 0, locals := 0 } : Room) s m #[(.ref a1), (.int (0 : Int32)), (.ref a2), (.int (0 : Int32)), (.int (1 : Int32))] below meth c s₁ [] 0 0 := Stand.of_body Bd
 have e0 : s₁.heap = h0 := by rw [← hh, Bd.state]; rfl
 have N0 := Fr.nil n0
 obtain ⟨PP, hPs, pre0⟩ : ∃ PP : State → Prop, (∀ t, PP t → Steps p.tables e below (s₁.setTop (entryFrame m #[(.ref a1), (.int (0 : Int32)), (.ref a2), (.int (0 : Int32)), (.int (1 : Int32))] 7)) t) ∧ own_pr p e below PP s₁ (mkF m 0 #[.val (.ref a1), .val (.int (0 : Int32)), .val (.ref a2), .val (.int (0 : Int32)), .val (.int (1 : Int32)), .unset, .unset] []) := ⟨_, fun _ κ => κ, fun τ κ => castTop (ef_cp1 m a1 (0 : Int32) a2 (0 : Int32) (1 : Int32)) κ⟩
 have Vc1 := Ac
 obtain ⟨cl1, Ar1, qq1, sz1, nn1, Ha1, Gf1⟩ := Vc1
 have hin1 : ¬ ((0 : Int32) < 0 ∨ cl1.slots.size ≤ ((0 : Int32)).toNatClampNeg) := inb_of sz1 ⟨by decide, by decide⟩
 have pre2 : own_pr p e below PP s₁ (mkF m 20 #[.val (.ref a1), .val (.int (0 : Int32)), .val (.ref a2), .val (.int (0 : Int32)), .val (.int (1 : Int32)), .val (.int (0 : Int32)), .val (.int c0)] [(.int (255 : Int32)), (.int c0)]) := fun τ κ => pre0 τ (by
  show own_st p e below s₁ (mkF m 0 #[.val (.ref a1), .val (.int (0 : Int32)), .val (.ref a2), .val (.int (0 : Int32)), .val (.int (1 : Int32)), .unset, .unset] []) _
  refine XS.iconst X0.here hx rfl (hb hby d19_0) ?_
  refine XS.istore X0.here hx rfl (hb hby d19_1) rfl (l' := #[.val (.ref a1), .val (.int (0 : Int32)), .val (.ref a2), .val (.int (0 : Int32)), .val (.int (1 : Int32)), .val (.int (0 : Int32)), .unset]) rfl ?_
  refine XS.iload X0.here hx rfl (hb hby d19_3) rfl ?_
  refine XS.iload X0.here hx rfl (hb hby d19_5) rfl ?_
  refine XS.icmpNo X0.here hx rfl (hb hby d19_7) rfl (tlt (by decide : (0 : Int32) < (1 : Int32))).2.1 ?_
  refine XS.aloadN X0.here hx rfl (hb hby d19_10) rfl rfl ?_
  refine XS.iloadN X0.here hx rfl (hb hby d19_11) rfl ?_
  refine X0.caload hx (j := (0 : Int32)) (v := (.int c0)) (by rw [e0]; exact Ar1.1) (State.isArrayOf_alike hZ.alike Ar1.2.1) Ar1.2.2 hin1 (Has.at Ha1 hin1 rfl) (g := (mkF m 12 #[.val (.ref a1), .val (.int (0 : Int32)), .val (.ref a2), .val (.int (0 : Int32)), .val (.int (1 : Int32)), .val (.int (0 : Int32)), .unset] [(.int (0 : Int32)), (.ref a1)])) rfl rfl (hb hby d19_12) _ ?_
  refine XS.istore X0.here hx rfl (hb hby d19_13) rfl (l' := #[.val (.ref a1), .val (.int (0 : Int32)), .val (.ref a2), .val (.int (0 : Int32)), .val (.int (1 : Int32)), .val (.int (0 : Int32)), .val (.int c0)]) rfl ?_
  refine XS.iload X0.here hx rfl (hb hby d19_15) rfl ?_
  refine XS.sipush X0.here hx rfl (hb hby d19_17) ?_
  exact κ)
 by_cases hc20 : (255 : Int32) < c0
 ·have pre3 : own_pr p e below PP s₁ (mkF m 25 #[.val (.ref a1), .val (.int (0 : Int32)), .val (.ref a2), .val (.int (0 : Int32)), .val (.int (1 : Int32)), .val (.int (0 : Int32)), .val (.int c0)] [(.int (0 : Int32))]) := fun τ κ => pre2 τ (by
   show own_st p e below s₁ (mkF m 20 #[.val (.ref a1), .val (.int (0 : Int32)), .val (.ref a2), .val (.int (0 : Int32)), .val (.int (1 : Int32)), .val (.int (0 : Int32)), .val (.int c0)] [(.int (255 : Int32)), (.int c0)]) _
   refine XS.icmpNo X0.here hx rfl (hb hby d19_20) rfl (tlt hc20).2.2.2 ?_
   refine XS.iload X0.here hx rfl (hb hby d19_23) rfl ?_
   exact κ)
  obtain ⟨fs4, hr4, hrun4, hended4, hW4, hsame4⟩ := X0.leave (v := some (.int (0 : Int32))) (fun h => by rw [Bd.returns] at h; cases h)
  refine ⟨_, _, hPs _ (pre3 _ ?_), hrun4, hended4, _, _, rfl, ?_, ⟨_, rfl⟩, hW4, hsame4.mono (by decide) (by decide)⟩
  ·show own_st p e below s₁ (mkF m 25 #[.val (.ref a1), .val (.int (0 : Int32)), .val (.ref a2), .val (.int (0 : Int32)), .val (.int (1 : Int32)), .val (.int (0 : Int32)), .val (.int c0)] [(.int (0 : Int32))]) _
   exact retOut X0 hx (t := .int) Bd.returns rfl (Or.inl ⟨rfl, Or.inl rfl, _, rfl⟩) (hb hby d19_25) hr4
  ·show Qcp1 Z a1 a2 kc kd c0 h0 n0 _ s₁.heap _
   rw [e0]
   exact ⟨_, rfl, N0, (Keep.refl h0 [a2]), Or.inl ⟨rfl, hc20⟩⟩
 have Vc5 := Vd
 obtain ⟨cl5, Ar5, qq5, sz5, nn5, Ha5, Gf5⟩ := Vc5
 have hin5 : ¬ ((0 : Int32) < 0 ∨ cl5.slots.size ≤ ((0 : Int32)).toNatClampNeg) := inb_of sz5 ⟨by decide, by decide⟩
 obtain ⟨T6, h6, X6, e6, W6, st6⟩ := stB X0 hx hZ e0 Ar5 (j := (0 : Int32)) hin5 (g := (mkF m 31 #[.val (.ref a1), .val (.int (0 : Int32)), .val (.ref a2), .val (.int (0 : Int32)), .val (.int (1 : Int32)), .val (.int (0 : Int32)), .val (.int c0)] [(.int (c0.toInt8.toInt32)), (.int (0 : Int32)), (.ref a2)])) rfl rfl (hb hby d19_31)
 have N6 := Fr.snoc X6 N0 gd
 have Ac_6 := Ac.other W6 hne
 have Vd_6 := Arv.set Ar5 qq5 sz5 nn5 Ha5 Gf5 (fits_nar_byte _) W6 0 rfl (Nat.le_of_ble_eq_true rfl)
 have pre7 : own_pr p e below PP T6 (mkF m 46 #[.val (.ref a1), .val (.int (1 : Int32)), .val (.ref a2), .val (.int (1 : Int32)), .val (.int (1 : Int32)), .val (.int (1 : Int32)), .val (.int c0)] [(.int (1 : Int32))]) := fun τ κ => pre2 τ (by
  show own_st p e below s₁ (mkF m 20 #[.val (.ref a1), .val (.int (0 : Int32)), .val (.ref a2), .val (.int (0 : Int32)), .val (.int (1 : Int32)), .val (.int (0 : Int32)), .val (.int c0)] [(.int (255 : Int32)), (.int c0)]) _
  refine XS.icmpYes X0.here hx rfl (pc0 := 20) (pc' := 26) rfl (hb hby d19_20) rfl (flt hc20).2.2.2 (by decide) (by decide) ?_
  refine XS.aloadN X0.here hx rfl (hb hby d19_26) rfl rfl ?_
  refine XS.iloadN X0.here hx rfl (hb hby d19_27) rfl ?_
  refine XS.iload X0.here hx rfl (hb hby d19_28) rfl ?_
  refine XS.i2b X0.here hx rfl (hb hby d19_30) rfl ?_
  refine st6 _ ?_
  refine XS.iinc X6.here hx rfl (hb hby d19_32) rfl (l' := #[.val (.ref a1), .val (.int ((0 : Int32) + (1 : Int32))), .val (.ref a2), .val (.int (0 : Int32)), .val (.int (1 : Int32)), .val (.int (0 : Int32)), .val (.int c0)]) rfl ?_
  show own_st p e below T6 (mkF m 35 #[.val (.ref a1), .val (.int ((0 : Int32) + (1 : Int32))), .val (.ref a2), .val (.int (0 : Int32)), .val (.int (1 : Int32)), .val (.int (0 : Int32)), .val (.int c0)] []) _
  rw [show ((0 : Int32) + (1 : Int32)) = (1 : Int32) from by decide]
  refine XS.iinc X6.here hx rfl (hb hby d19_35) rfl (l' := #[.val (.ref a1), .val (.int (1 : Int32)), .val (.ref a2), .val (.int ((0 : Int32) + (1 : Int32))), .val (.int (1 : Int32)), .val (.int (0 : Int32)), .val (.int c0)]) rfl ?_
  show own_st p e below T6 (mkF m 38 #[.val (.ref a1), .val (.int (1 : Int32)), .val (.ref a2), .val (.int ((0 : Int32) + (1 : Int32))), .val (.int (1 : Int32)), .val (.int (0 : Int32)), .val (.int c0)] []) _
  rw [show ((0 : Int32) + (1 : Int32)) = (1 : Int32) from by decide]
  refine XS.iinc X6.here hx rfl (hb hby d19_38) rfl (l' := #[.val (.ref a1), .val (.int (1 : Int32)), .val (.ref a2), .val (.int (1 : Int32)), .val (.int (1 : Int32)), .val (.int ((0 : Int32) + (1 : Int32))), .val (.int c0)]) rfl ?_
  show own_st p e below T6 (mkF m 41 #[.val (.ref a1), .val (.int (1 : Int32)), .val (.ref a2), .val (.int (1 : Int32)), .val (.int (1 : Int32)), .val (.int ((0 : Int32) + (1 : Int32))), .val (.int c0)] []) _
  rw [show ((0 : Int32) + (1 : Int32)) = (1 : Int32) from by decide]
  refine XS.goto X6.here hx rfl (pc0 := 41) (pc' := 3) rfl (hb hby d19_41) (by decide) (by decide) ?_
  refine XS.iload X6.here hx rfl (hb hby d19_3) rfl ?_
  refine XS.iload X6.here hx rfl (hb hby d19_5) rfl ?_
  refine XS.icmpYes X6.here hx rfl (pc0 := 7) (pc' := 44) rfl (hb hby d19_7) rfl (flt (by decide : ¬ ((1 : Int32) < (1 : Int32)))).2.1 (by decide) (by decide) ?_
  refine XS.iload X6.here hx rfl (hb hby d19_44) rfl ?_
  exact κ)
 obtain ⟨fs8, hr8, hrun8, hended8, hW8, hsame8⟩ := X6.leave (v := some (.int (1 : Int32))) (fun h => by rw [Bd.returns] at h; cases h)
 refine ⟨_, _, hPs _ (pre7 _ ?_), hrun8, hended8, _, _, rfl, ?_, ⟨_, rfl⟩, hW8, hsame8.mono (by decide) (by decide)⟩
 ·show own_st p e below T6 (mkF m 46 #[.val (.ref a1), .val (.int (1 : Int32)), .val (.ref a2), .val (.int (1 : Int32)), .val (.int (1 : Int32)), .val (.int (1 : Int32)), .val (.int c0)] [(.int (1 : Int32))]) _
  exact retOut X6 hx (t := .int) Bd.returns rfl (Or.inl ⟨rfl, Or.inl rfl, _, rfl⟩) (hb hby d19_46) hr8
 ·show Qcp1 Z a1 a2 kc kd c0 h0 n0 _ T6.heap _
  rw [e6]
  have q := Vd_6
  simp only [own_lo] at q
  exact ⟨_, rfl, N6, ((Keep.refl h0 [a2]).wr W6 (Or.inl (List.mem_singleton.mpr rfl))), Or.inr (⟨rfl, hc20, q⟩)⟩

theorem d18_0 : own_D own_c21 0 (.iload_n 2) 1 := by decide +kernel
theorem d18_1 : own_D own_c21 1 (.newarray .byte) 2 := by decide +kernel
theorem d18_3 : own_D own_c21 3 (.astore_n 3) 1 := by decide +kernel
theorem d18_4 : own_D own_c21 4 (.aload_n 0) 1 := by decide +kernel
theorem d18_5 : own_D own_c21 5 (.iload_n 1) 1 := by decide +kernel
theorem d18_6 : own_D own_c21 6 (.aload_n 3) 1 := by decide +kernel
theorem d18_7 : own_D own_c21 7 (.iconst 0) 1 := by decide +kernel
theorem d18_8 : own_D own_c21 8 (.iload_n 2) 1 := by decide +kernel
theorem d18_9 : own_D own_c21 9 (.invokestatic 115) 3 := by decide +kernel
theorem d18_12 : own_D own_c21 12 (.istore 4) 2 := by decide +kernel
theorem d18_14 : own_D own_c21 14 (.iload 4) 2 := by decide +kernel
theorem d18_16 : own_D own_c21 16 (.iload_n 2) 1 := by decide +kernel
theorem d18_17 : own_D own_c21 17 (.if_icmp .eq 40) 3 := by decide +kernel
theorem d18_20 : own_D own_c21 20 (.aload_n 0) 1 := by decide +kernel
theorem d18_21 : own_D own_c21 21 (.iload_n 1) 1 := by decide +kernel
theorem d18_22 : own_D own_c21 22 (.iload_n 2) 1 := by decide +kernel
theorem d18_23 : own_D own_c21 23 (.invokestatic 119) 3 := by decide +kernel
theorem d18_26 : own_D own_c21 26 (.astore 5) 2 := by decide +kernel
theorem d18_28 : own_D own_c21 28 (.aload 5) 2 := by decide +kernel
theorem d18_30 : own_D own_c21 30 (.iload 4) 2 := by decide +kernel
theorem d18_32 : own_D own_c21 32 (.invokestatic 71) 3 := by decide +kernel
theorem d18_35 : own_D own_c21 35 (.sipush 255) 3 := by decide +kernel
theorem d18_38 : own_D own_c21 38 (.if_icmp .gt 16) 3 := by decide +kernel
theorem d18_54 : own_D own_c21 54 (.aload 5) 2 := by decide +kernel
theorem d18_56 : own_D own_c21 56 (.areturn) 1 := by decide +kernel
theorem d18_57 : own_D own_c21 57 (.aload_n 3) 1 := by decide +kernel
theorem d18_58 : own_D own_c21 58 (.areturn) 1 := by decide +kernel


theorem ef_cz1 (m : MethodId) (x0 : Addr) (x1 : Int32) (x2 : Int32)  : entryFrame m #[(.ref x0), (.int x1), (.int x2)] 6 = mkF m 0 #[.val (.ref x0), .val (.int x1), .val (.int x2), .unset, .unset, .unset] [] := by first | (simp [entryFrame, mkF, argsToLocals, Value.category]; done) | rfl
def Qcz1 (Z : State) (a1 : Addr) (kc : ClassId) (c0 : Int32) (h0 : Heap) (n0 : Nat) (v : Option Value) (h : Heap) (L : List Loc) : Prop := ∃ b kb cd N vs, v = some (.ref b) ∧ Fr n0 L ∧ Ext h0 h ∧ Arv Z h b kb .byte N vs (.int 0) ∧ own_CodA [c0] cd N vs
theorem rmcz1 (l : Launch) (Z : State) (a0 : Array Value) (hw : own_W Z a0) (ws : List Jvm.Cond) (a1 : Addr) (kc : ClassId) (c0 : Int32) (h0 : Heap) (n0 : Nat) (Z0 : n0 ≤ h0.size) (Ac : Arv Z h0 a1 kc .char (1 : Int32) ([c0].map Value.int) (.int 0)) (EN : own_env Z h0) (hb0 : own_b c0) :
  own_M l Z own_z19 own_c21 6 (some (.array .byte)) ({ frames := 3, cells := 2, slots := 3, locals := 45 } : Room) ws #[(.ref a1), (.int (0 : Int32)), (.int (1 : Int32))] h0 (Qcz1 Z a1 kc c0 h0 n0) := by
 refine MetFree.of_bodySF (plainFor_of_name pn_k5) hisR ?_
 intro p e s m args below meth c s₁ Bd hml0 hP hK
 obtain ⟨rfl, hZ, hh⟩ := hP
 have hx := Bd.exec
 have hby := Bd.bytes
 have hml : c.maxLocals = 6 := hml0
 have hown : s.vm.findClass "java/lang/StringUTF16" = some m.cls := findClass_of_methodNamed Bd.named
 have X0 : Stand p l e ({ frames := 3, cells := 2, slots := 3, locals := 45 } : Room) s m #[(.ref a1), (.int (0 : Int32)), (.int (1 : Int32))] below meth c s₁ [] 0 0 := Stand.of_body Bd
 have e0 : s₁.heap = h0 := by rw [← hh, Bd.state]; rfl
 have N0 := Fr.nil n0
 obtain ⟨PP, hPs, pre0⟩ : ∃ PP : State → Prop, (∀ t, PP t → Steps p.tables e below (s₁.setTop (entryFrame m #[(.ref a1), (.int (0 : Int32)), (.int (1 : Int32))] 6)) t) ∧ own_pr p e below PP s₁ (mkF m 0 #[.val (.ref a1), .val (.int (0 : Int32)), .val (.int (1 : Int32)), .unset, .unset, .unset] []) := ⟨_, fun _ κ => κ, fun τ κ => castTop (ef_cz1 m a1 (0 : Int32) (1 : Int32)) κ⟩
 obtain ⟨T1, h1, k1, X1, e1, E1, A1, st1⟩ := newP (aty := .byte) X0 hx hZ (wd21 hw) e0 (g := (mkF m 1 #[.val (.ref a1), .val (.int (0 : Int32)), .val (.int (1 : Int32)), .unset, .unset, .unset] [(.int (1 : Int32))])) rfl (hb hby d18_1) rfl (by decide) (cap := 1) (by decide) (by decide) (by decide) (by decide)
 obtain ⟨b1, gb1⟩ : ∃ z, z = h0.size := ⟨_, rfl⟩
 rw [← gb1] at A1 st1
 have gn1 : n0 ≤ b1 := Nat.le_trans Z0 (Nat.le_of_eq gb1.symm)
 have sz1_b : h0.size ≤ b1 := Nat.le_trans (Keep.refl h0 []).1 (Nat.le_of_eq gb1.symm)
 have ne_a1_b1 : a1 ≠ b1 := Nat.ne_of_lt (Nat.lt_of_lt_of_le Ac.lt (Nat.le_of_eq gb1.symm))
 have Ac_1 := Ac.ext E1
 have EN_1 := EN.ext E1
 have K1 := (Keep.refl h0 []).ext E1
 have V1 : Arv Z h1 b1 k1 .byte (1 : Int32) [(.int (0 : Int32))] (.int (0 : Int32)) := (Arv.new A1 (by decide)).pad (pad_rep [] (.int (0 : Int32)) 1)
 obtain ⟨_, T2, Lc2, X2, hQ2, st2⟩ := own_cS X1 hx hZ (y := own_z20) hown (wd112 hw) (wd113 hw) (wd110 hw) (wd114 hw) (by decide) (rmcp1 l Z a0 hw [] a1 b1 kc k1 c0 h1 n0 (Nat.le_trans Z0 E1.1) Ac_1 V1 ne_a1_b1 gn1) 0 (by decide) (g := (mkF m 9 #[.val (.ref a1), .val (.int (0 : Int32)), .val (.int (1 : Int32)), .val (.ref b1), .unset, .unset] [(.int (1 : Int32)), (.int (0 : Int32)), (.ref b1), (.int (0 : Int32)), (.ref a1)])) rfl hml.symm [(.ref a1), (.int (0 : Int32)), (.ref b1), (.int (0 : Int32)), (.int (1 : Int32))] [] (lenOf pd_cp1 rfl) rfl rfl (hb hby d18_9) e1 rfl
 obtain ⟨j2, rfl, N2q, Kp2, hd2⟩ := hQ2
 have N2 := Fr.app N0 N2q
 have Ac_2 := Ac_1.keep Kp2 (ninS ne_a1_b1 nin0)
 have EN_2 := EN_1.keep Kp2 V1.nostat
 have K2 := K1.trans Kp2 (fun x hx => by cases List.mem_singleton.mp hx; exact Or.inr sz1_b)
 have pre3 : own_pr p e below PP T2 (mkF m 12 #[.val (.ref a1), .val (.int (0 : Int32)), .val (.int (1 : Int32)), .val (.ref b1), .unset, .unset] [(.int j2)]) := fun τ κ => pre0 τ (by
  show own_st p e below s₁ (mkF m 0 #[.val (.ref a1), .val (.int (0 : Int32)), .val (.int (1 : Int32)), .unset, .unset, .unset] []) _
  refine XS.iloadN X0.here hx rfl (hb hby d18_0) rfl ?_
  refine st1 _ ?_
  refine XS.astoreN X1.here hx rfl (hb hby d18_3) rfl rfl (l' := #[.val (.ref a1), .val (.int (0 : Int32)), .val (.int (1 : Int32)), .val (.ref b1), .unset, .unset]) rfl ?_
  refine XS.aloadN X1.here hx rfl (hb hby d18_4) rfl rfl ?_
  refine XS.iloadN X1.here hx rfl (hb hby d18_5) rfl ?_
  refine XS.aloadN X1.here hx rfl (hb hby d18_6) rfl rfl ?_
  refine XS.iconst X1.here hx rfl (hb hby d18_7) ?_
  refine XS.iloadN X1.here hx rfl (hb hby d18_8) rfl ?_
  refine st2 _ ?_
  exact κ)
 rcases hd2 with ⟨rfl, hcw⟩ | ⟨rfl, hcl, hvl⟩
 ·obtain ⟨_, T4, Lc4, X4, hQ4, st4⟩ := own_cS X2 hx hZ (y := own_z47) hown (wd222 hw) (wd223 hw) (wd110 hw) (wd224 hw) (by decide) (rmtb1 l Z a0 hw [] a1 kc c0 T2.heap n0 (Nat.le_trans (Nat.le_trans Z0 E1.1) Kp2.1) Ac_2 EN_2) 0 (by decide) (g := (mkF m 23 #[.val (.ref a1), .val (.int (0 : Int32)), .val (.int (1 : Int32)), .val (.ref b1), .val (.int (0 : Int32)), .unset] [(.int (1 : Int32)), (.int (0 : Int32)), (.ref a1)])) rfl hml.symm [(.ref a1), (.int (0 : Int32)), (.int (1 : Int32))] [] (lenOf pd_tb1 rfl) rfl rfl (hb hby d18_23) rfl rfl
  obtain ⟨b4, kb4, rfl, N4q, E4, V4⟩ := hQ4
  have N4 := Fr.app N2 N4q
  have Ac_4 := Ac_2.ext E4
  have EN_4 := EN_2.ext E4
  have K4 := K2.ext E4
  have Vc5 := V4
  obtain ⟨cl5, Ar5, qq5, sz5, nn5, Ha5, Gf5⟩ := Vc5
  have r0_5 : own_rd cl5 ((0 : Int32) <<< ((1 : Int32) &&& 31)) (own_lo8 c0) := own_rdOf sz5 Ha5 ⟨by decide, by decide⟩ (by rw [show (((0 : Int32) <<< ((1 : Int32) &&& 31))).toNatClampNeg = 0 from by decide]; rfl)
  have r1_5 : own_rd cl5 (((0 : Int32) <<< ((1 : Int32) &&& 31)) + (1 : Int32)) (own_hi8 c0) := own_rdOf sz5 Ha5 ⟨by decide, by decide⟩ (by rw [show ((((0 : Int32) <<< ((1 : Int32) &&& 31)) + (1 : Int32))).toNatClampNeg = 1 from by decide]; rfl)
  obtain ⟨_, T6, Lc6, X6, hQ6, st6⟩ := own_cS X4 hx hZ (y := own_z51) hown (wd238 hw) (wd239 hw) (wd110 hw) (wd240 hw) (by decide) (rmgc l Z a0 hw [] b4 cl5 (0 : Int32) (own_lo8 c0) (own_hi8 c0) c0 T4.heap n0 (Nat.le_trans (Nat.le_trans (Nat.le_trans Z0 E1.1) Kp2.1) E4.1) EN_4 (own_gcv hb0) Ar5 r0_5 r1_5) 0 (by decide) (g := (mkF m 32 #[.val (.ref a1), .val (.int (0 : Int32)), .val (.int (1 : Int32)), .val (.ref b1), .val (.int (0 : Int32)), .val (.ref b4)] [(.int (0 : Int32)), (.ref b4)])) rfl hml.symm [(.ref b4), (.int (0 : Int32))] [] (lenOf pd_gc rfl) rfl rfl (hb hby d18_32) rfl rfl
  obtain ⟨rfl, N6q, q6⟩ := hQ6
  have N6 := Fr.app N4 N6q
  have pre7 : own_pr p e below PP T6 (mkF m 56 #[.val (.ref a1), .val (.int (0 : Int32)), .val (.int (1 : Int32)), .val (.ref b1), .val (.int (0 : Int32)), .val (.ref b4)] [(.ref b4)]) := fun τ κ => pre3 τ (by
   show own_st p e below T2 (mkF m 12 #[.val (.ref a1), .val (.int (0 : Int32)), .val (.int (1 : Int32)), .val (.ref b1), .unset, .unset] [(.int (0 : Int32))]) _
   refine XS.istore X2.here hx rfl (hb hby d18_12) rfl (l' := #[.val (.ref a1), .val (.int (0 : Int32)), .val (.int (1 : Int32)), .val (.ref b1), .val (.int (0 : Int32)), .unset]) rfl ?_
   refine XS.iload X2.here hx rfl (hb hby d18_14) rfl ?_
   refine XS.iloadN X2.here hx rfl (hb hby d18_16) rfl ?_
   refine XS.icmpNo X2.here hx rfl (hb hby d18_17) rfl (feq (by decide : ¬ ((0 : Int32) = (1 : Int32)))).1 ?_
   refine XS.aloadN X2.here hx rfl (hb hby d18_20) rfl rfl ?_
   refine XS.iloadN X2.here hx rfl (hb hby d18_21) rfl ?_
   refine XS.iloadN X2.here hx rfl (hb hby d18_22) rfl ?_
   refine st4 _ ?_
   refine XS.astore X4.here hx rfl (hb hby d18_26) rfl rfl (l' := #[.val (.ref a1), .val (.int (0 : Int32)), .val (.int (1 : Int32)), .val (.ref b1), .val (.int (0 : Int32)), .val (.ref b4)]) rfl ?_
   refine XS.aload X4.here hx rfl (hb hby d18_28) rfl rfl ?_
   refine XS.iload X4.here hx rfl (hb hby d18_30) rfl ?_
   refine st6 _ ?_
   refine XS.sipush X6.here hx rfl (hb hby d18_35) ?_
   refine XS.icmpYes X6.here hx rfl (pc0 := 38) (pc' := 54) rfl (hb hby d18_38) rfl (tlt hcw).2.2.1 (by decide) (by decide) ?_
   refine XS.aload X6.here hx rfl (hb hby d18_54) rfl rfl ?_
   exact κ)
  obtain ⟨fs8, hr8, hrun8, hended8, hW8, hsame8⟩ := X6.leave (v := some (.ref b4)) (fun h => by rw [Bd.returns] at h; cases h)
  refine ⟨_, _, hPs _ (pre7 _ ?_), hrun8, hended8, _, _, rfl, ?_, ⟨_, rfl⟩, hW8, hsame8.mono (by decide) (by decide)⟩
  ·show own_st p e below T6 (mkF m 56 #[.val (.ref a1), .val (.int (0 : Int32)), .val (.int (1 : Int32)), .val (.ref b1), .val (.int (0 : Int32)), .val (.ref b4)] [(.ref b4)]) _
   exact retOut X6 hx (t := (.array .byte)) Bd.returns rfl (Or.inr (Or.inr (Or.inr (Or.inr ⟨rfl, rfl, rfl⟩)))) (hb hby d18_56) hr8
  ·show Qcz1 Z a1 kc c0 h0 n0 _ T6.heap _
   rw [q6]
   exact ⟨_, _, 1, _, _, rfl, N6, own_ext K4, V4, Or.inr ⟨rfl, rfl, rfl, ⟨c0, by simp, hcw⟩⟩⟩
 ·have pre9 : own_pr p e below PP T2 (mkF m 58 #[.val (.ref a1), .val (.int (0 : Int32)), .val (.int (1 : Int32)), .val (.ref b1), .val (.int (1 : Int32)), .unset] [(.ref b1)]) := fun τ κ => pre3 τ (by
   show own_st p e below T2 (mkF m 12 #[.val (.ref a1), .val (.int (0 : Int32)), .val (.int (1 : Int32)), .val (.ref b1), .unset, .unset] [(.int (1 : Int32))]) _
   refine XS.istore X2.here hx rfl (hb hby d18_12) rfl (l' := #[.val (.ref a1), .val (.int (0 : Int32)), .val (.int (1 : Int32)), .val (.ref b1), .val (.int (1 : Int32)), .unset]) rfl ?_
   refine XS.iload X2.here hx rfl (hb hby d18_14) rfl ?_
   refine XS.iloadN X2.here hx rfl (hb hby d18_16) rfl ?_
   refine XS.icmpYes X2.here hx rfl (pc0 := 17) (pc' := 57) rfl (hb hby d18_17) rfl (teq (by decide : (1 : Int32) = (1 : Int32))).1 (by decide) (by decide) ?_
   refine XS.aloadN X2.here hx rfl (hb hby d18_57) rfl rfl ?_
   exact κ)
  obtain ⟨fs10, hr10, hrun10, hended10, hW10, hsame10⟩ := X2.leave (v := some (.ref b1)) (fun h => by rw [Bd.returns] at h; cases h)
  refine ⟨_, _, hPs _ (pre9 _ ?_), hrun10, hended10, _, _, rfl, ?_, ⟨_, rfl⟩, hW10, hsame10.mono (by decide) (by decide)⟩
  ·show own_st p e below T2 (mkF m 58 #[.val (.ref a1), .val (.int (0 : Int32)), .val (.int (1 : Int32)), .val (.ref b1), .val (.int (1 : Int32)), .unset] [(.ref b1)]) _
   exact retOut X2 hx (t := (.array .byte)) Bd.returns rfl (Or.inr (Or.inr (Or.inr (Or.inr ⟨rfl, rfl, rfl⟩)))) (hb hby d18_58) hr10
  ·show Qcz1 Z a1 kc c0 h0 n0 _ T2.heap _
   exact ⟨_, _, 0, _, _, rfl, N2, own_ext K2, hvl, Or.inl ⟨rfl, rfl, rfl, List.forall_mem_cons.mpr ⟨hcl, fun _ q => nomatch q⟩⟩⟩

theorem d20_0 : own_D own_c22 0 (.iload_n 1) 1 := by decide +kernel
theorem d20_1 : own_D own_c22 1 (.aload_n 0) 1 := by decide +kernel
theorem d20_2 : own_D own_c22 2 (.arraylength) 1 := by decide +kernel
theorem d20_3 : own_D own_c22 3 (.isub) 1 := by decide +kernel
theorem d20_4 : own_D own_c22 4 (.bipush 31) 2 := by decide +kernel
theorem d20_6 : own_D own_c22 6 (.iushr) 1 := by decide +kernel
theorem d20_7 : own_D own_c22 7 (.i2b) 1 := by decide +kernel
theorem d20_8 : own_D own_c22 8 (.ireturn) 1 := by decide +kernel

theorem pd_ca1_1 : parseMethodDescriptor "([BI)B" = some ⟨[(.array .byte), .int], some .byte⟩ := by decide +kernel

def Qca1_1 (Z : State) (a1 : Addr) (k1 : ClassId) (vs : List Value) (h0 : Heap) (n0 : Nat) (v : Option Value) (h : Heap) (L : List Loc) : Prop := v = some (.int (1 : Int32)) ∧ Fr n0 L ∧ h = h0
theorem rmca1_1 (l : Launch) (Z : State) (a0 : Array Value) (hw : own_W Z a0) (ws : List Jvm.Cond) (a1 : Addr) (k1 : ClassId) (vs : List Value) (h0 : Heap) (n0 : Nat) (Z0 : n0 ≤ h0.size) (As : Arv Z h0 a1 k1 .byte (2 : Int32) vs (.int 0)) :
  own_M l Z own_z21 own_c22 2 (some .byte) ({ frames := 0, cells := 0, slots := 0, locals := 0 } : Room) ws #[(.ref a1), (.int (1 : Int32))] h0 (Qca1_1 Z a1 k1 vs h0 n0) := by
 refine MetFree.of_bodySF (plainFor_of_name pn_k5) hisR ?_
 intro p e s m args below meth c s₁ Bd hml0 hP hK
 obtain ⟨rfl, hZ, hh⟩ := hP
 have hx := Bd.exec
 have hby := Bd.bytes
 have hml : c.maxLocals = 2 := hml0
 have hown : s.vm.findClass "java/lang/StringUTF16" = some m.cls := findClass_of_methodNamed Bd.named
 have X0 : Stand p l e ({ frames := 0, cells := 0, slots := 0, locals := 0 } : Room) s m #[(.ref a1), (.int (1 : Int32))] below meth c s₁ [] 0 0 := Stand.of_body Bd
 have e0 : s₁.heap = h0 := by rw [← hh, Bd.state]; rfl
 have N0 := Fr.nil n0
 obtain ⟨PP, hPs, pre0⟩ : ∃ PP : State → Prop, (∀ t, PP t → Steps p.tables e below (s₁.setTop (entryFrame m #[(.ref a1), (.int (1 : Int32))] 2)) t) ∧ own_pr p e below PP s₁ (mkF m 0 #[.val (.ref a1), .val (.int (1 : Int32))] []) := ⟨_, fun _ κ => κ, fun τ κ => castTop (ef_gc m a1 (1 : Int32)) κ⟩
 have Vc1 := As
 obtain ⟨cl1, Ar1, qq1, sz1, nn1, Ha1, Gf1⟩ := Vc1
 have pre2 : own_pr p e below PP s₁ (mkF m 8 #[.val (.ref a1), .val (.int (1 : Int32))] [(.int (1 : Int32))]) := fun τ κ => pre0 τ (by
  show own_st p e below s₁ (mkF m 0 #[.val (.ref a1), .val (.int (1 : Int32))] []) _
  refine XS.iloadN X0.here hx rfl (hb hby d20_0) rfl ?_
  refine XS.aloadN X0.here hx rfl (hb hby d20_1) rfl rfl ?_
  refine X0.arraylength hx (by rw [e0]; exact Ar1.1) (State.isArrayOf_alike hZ.alike Ar1.2.1) (g := (mkF m 2 #[.val (.ref a1), .val (.int (1 : Int32))] [(.ref a1), (.int (1 : Int32))])) rfl rfl (hb hby d20_2) _ ?_
  rw [len_of sz1 nn1]
  refine XS.isub X0.here hx rfl (hb hby d20_3) rfl ?_
  show own_st p e below s₁ (mkF m 4 #[.val (.ref a1), .val (.int (1 : Int32))] [(.int ((1 : Int32) - (2 : Int32)))]) _
  rw [show ((1 : Int32) - (2 : Int32)) = (-1 : Int32) from by decide]
  refine XS.bipush X0.here hx rfl (hb hby d20_4) ?_
  refine XS.iushr X0.here hx rfl (hb hby d20_6) rfl ?_
  show own_st p e below s₁ (mkF m 7 #[.val (.ref a1), .val (.int (1 : Int32))] [(.int (((-1 : Int32).toUInt32 >>> ((31 : Int32) &&& 31).toUInt32).toInt32))]) _
  rw [show (((-1 : Int32).toUInt32 >>> ((31 : Int32) &&& 31).toUInt32).toInt32) = (1 : Int32) from by decide]
  refine XS.i2b X0.here hx rfl (hb hby d20_7) rfl ?_
  show own_st p e below s₁ (mkF m 8 #[.val (.ref a1), .val (.int (1 : Int32))] [(.int ((1 : Int32).toInt8.toInt32))]) _
  rw [show ((1 : Int32).toInt8.toInt32) = (1 : Int32) from by decide]
  exact κ)
 obtain ⟨fs3, hr3, hrun3, hended3, hW3, hsame3⟩ := X0.leave (v := some (.int (1 : Int32))) (fun h => by rw [Bd.returns] at h; cases h)
 refine ⟨_, _, hPs _ (pre2 _ ?_), hrun3, hended3, _, _, rfl, ?_, ⟨_, rfl⟩, hW3, hsame3.mono (by decide) (by decide)⟩
 ·show own_st p e below s₁ (mkF m 8 #[.val (.ref a1), .val (.int (1 : Int32))] [(.int (1 : Int32))]) _
  exact retN X0 hx (t := .byte) Bd.returns (by simp) (hb hby d20_8) hr3
 ·show Qca1_1 Z a1 k1 vs h0 n0 _ s₁.heap _
  rw [e0]
  exact ⟨rfl, N0, rfl⟩


def Qca1_0 (Z : State) (a1 : Addr) (k1 : ClassId) (vs : List Value) (h0 : Heap) (n0 : Nat) (v : Option Value) (h : Heap) (L : List Loc) : Prop := v = some (.int (0 : Int32)) ∧ Fr n0 L ∧ h = h0
theorem rmca1_0 (l : Launch) (Z : State) (a0 : Array Value) (hw : own_W Z a0) (ws : List Jvm.Cond) (a1 : Addr) (k1 : ClassId) (vs : List Value) (h0 : Heap) (n0 : Nat) (Z0 : n0 ≤ h0.size) (As : Arv Z h0 a1 k1 .byte (1 : Int32) vs (.int 0)) :
  own_M l Z own_z21 own_c22 2 (some .byte) ({ frames := 0, cells := 0, slots := 0, locals := 0 } : Room) ws #[(.ref a1), (.int (1 : Int32))] h0 (Qca1_0 Z a1 k1 vs h0 n0) := by
 refine MetFree.of_bodySF (plainFor_of_name pn_k5) hisR ?_
 intro p e s m args below meth c s₁ Bd hml0 hP hK
 obtain ⟨rfl, hZ, hh⟩ := hP
 have hx := Bd.exec
 have hby := Bd.bytes
 have hml : c.maxLocals = 2 := hml0
 have hown : s.vm.findClass "java/lang/StringUTF16" = some m.cls := findClass_of_methodNamed Bd.named
 have X0 : Stand p l e ({ frames := 0, cells := 0, slots := 0, locals := 0 } : Room) s m #[(.ref a1), (.int (1 : Int32))] below meth c s₁ [] 0 0 := Stand.of_body Bd
 have e0 : s₁.heap = h0 := by rw [← hh, Bd.state]; rfl
 have N0 := Fr.nil n0
 obtain ⟨PP, hPs, pre0⟩ : ∃ PP : State → Prop, (∀ t, PP t → Steps p.tables e below (s₁.setTop (entryFrame m #[(.ref a1), (.int (1 : Int32))] 2)) t) ∧ own_pr p e below PP s₁ (mkF m 0 #[.val (.ref a1), .val (.int (1 : Int32))] []) := ⟨_, fun _ κ => κ, fun τ κ => castTop (ef_gc m a1 (1 : Int32)) κ⟩
 have Vc1 := As
 obtain ⟨cl1, Ar1, qq1, sz1, nn1, Ha1, Gf1⟩ := Vc1
 have pre2 : own_pr p e below PP s₁ (mkF m 8 #[.val (.ref a1), .val (.int (1 : Int32))] [(.int (0 : Int32))]) := fun τ κ => pre0 τ (by
  show own_st p e below s₁ (mkF m 0 #[.val (.ref a1), .val (.int (1 : Int32))] []) _
  refine XS.iloadN X0.here hx rfl (hb hby d20_0) rfl ?_
  refine XS.aloadN X0.here hx rfl (hb hby d20_1) rfl rfl ?_
  refine X0.arraylength hx (by rw [e0]; exact Ar1.1) (State.isArrayOf_alike hZ.alike Ar1.2.1) (g := (mkF m 2 #[.val (.ref a1), .val (.int (1 : Int32))] [(.ref a1), (.int (1 : Int32))])) rfl rfl (hb hby d20_2) _ ?_
  rw [len_of sz1 nn1]
  refine XS.isub X0.here hx rfl (hb hby d20_3) rfl ?_
  show own_st p e below s₁ (mkF m 4 #[.val (.ref a1), .val (.int (1 : Int32))] [(.int ((1 : Int32) - (1 : Int32)))]) _
  rw [show ((1 : Int32) - (1 : Int32)) = (0 : Int32) from by decide]
  refine XS.bipush X0.here hx rfl (hb hby d20_4) ?_
  refine XS.iushr X0.here hx rfl (hb hby d20_6) rfl ?_
  show own_st p e below s₁ (mkF m 7 #[.val (.ref a1), .val (.int (1 : Int32))] [(.int (((0 : Int32).toUInt32 >>> ((31 : Int32) &&& 31).toUInt32).toInt32))]) _
  rw [show (((0 : Int32).toUInt32 >>> ((31 : Int32) &&& 31).toUInt32).toInt32) = (0 : Int32) from by decide]
  refine XS.i2b X0.here hx rfl (hb hby d20_7) rfl ?_
  show own_st p e below s₁ (mkF m 8 #[.val (.ref a1), .val (.int (1 : Int32))] [(.int ((0 : Int32).toInt8.toInt32))]) _
  rw [show ((0 : Int32).toInt8.toInt32) = (0 : Int32) from by decide]
  exact κ)
 obtain ⟨fs3, hr3, hrun3, hended3, hW3, hsame3⟩ := X0.leave (v := some (.int (0 : Int32))) (fun h => by rw [Bd.returns] at h; cases h)
 refine ⟨_, _, hPs _ (pre2 _ ?_), hrun3, hended3, _, _, rfl, ?_, ⟨_, rfl⟩, hW3, hsame3.mono (by decide) (by decide)⟩
 ·show own_st p e below s₁ (mkF m 8 #[.val (.ref a1), .val (.int (1 : Int32))] [(.int (0 : Int32))]) _
  exact retN X0 hx (t := .byte) Bd.returns (by simp) (hb hby d20_8) hr3
 ·show Qca1_0 Z a1 k1 vs h0 n0 _ s₁.heap _
  rw [e0]
  exact ⟨rfl, N0, rfl⟩


def Qtb2 (Z : State) (a1 : Addr) (kc : ClassId) (c0 c1 : Int32) (h0 : Heap) (n0 : Nat) (v : Option Value) (h : Heap) (L : List Loc) : Prop := ∃ b kb, v = some (.ref b) ∧ Fr n0 L ∧ Ext h0 h ∧ Arv Z h b kb .byte (4 : Int32) (own_wb [c0, c1]) (.int 0)
theorem rmtb2 (l : Launch) (Z : State) (a0 : Array Value) (hw : own_W Z a0) (ws : List Jvm.Cond) (a1 : Addr) (kc : ClassId) (c0 c1 : Int32) (h0 : Heap) (n0 : Nat) (Z0 : n0 ≤ h0.size) (Ac : Arv Z h0 a1 kc .char (2 : Int32) ([c0, c1].map Value.int) (.int 0)) (EN : own_env Z h0) :
  own_M l Z own_z47 own_c19 5 (some (.array .byte)) ({ frames := 2, cells := 1, slots := 4, locals := 24 } : Room) ws #[(.ref a1), (.int (0 : Int32)), (.int (2 : Int32))] h0 (Qtb2 Z a1 kc c0 c1 h0 n0) := by
 refine MetFree.of_bodySF (plainFor_of_name pn_k5) hisR ?_
 intro p e s m args below meth c s₁ Bd hml0 hP hK
 obtain ⟨rfl, hZ, hh⟩ := hP
 have hx := Bd.exec
 have hby := Bd.bytes
 have hml : c.maxLocals = 5 := hml0
 have hown : s.vm.findClass "java/lang/StringUTF16" = some m.cls := findClass_of_methodNamed Bd.named
 have X0 : Stand p l e ({ frames := 2, cells := 1, slots := 4, locals := 24 } : Room) s m #[(.ref a1), (.int (0 : Int32)), (.int (2 : Int32))] below meth c s₁ [] 0 0 := Stand.of_body Bd
 have e0 : s₁.heap = h0 := by rw [← hh, Bd.state]; rfl
 have N0 := Fr.nil n0
 obtain ⟨PP, hPs, pre0⟩ : ∃ PP : State → Prop, (∀ t, PP t → Steps p.tables e below (s₁.setTop (entryFrame m #[(.ref a1), (.int (0 : Int32)), (.int (2 : Int32))] 5)) t) ∧ own_pr p e below PP s₁ (mkF m 0 #[.val (.ref a1), .val (.int (0 : Int32)), .val (.int (2 : Int32)), .unset, .unset] []) := ⟨_, fun _ κ => κ, fun τ κ => castTop (ef_tb1 m a1 (0 : Int32) (2 : Int32)) κ⟩
 obtain ⟨_, T1, Lc1, X1, hQ1, st1⟩ := own_cS X0 hx hZ (y := own_z48) hown (wd225 hw) (wd226 hw) (wd110 hw) (wd227 hw) (by decide) (rmbf2 l Z a0 hw [] h0 n0 Z0) 0 (by decide) (g := (mkF m 1 #[.val (.ref a1), .val (.int (0 : Int32)), .val (.int (2 : Int32)), .unset, .unset] [(.int (2 : Int32))])) rfl hml.symm [(.int (2 : Int32))] [] (lenOf pd_bf1 rfl) rfl rfl (hb hby d45_1) e0 rfl
 obtain ⟨b1, kb1, rfl, N1q, E1, gz1, V1⟩ := hQ1
 have N1 := Fr.app N0 N1q
 have Ac_1 := Ac.ext E1
 have EN_1 := EN.ext E1
 have K1 := (Keep.refl h0 []).ext E1
 have nab : a1 ≠ b1 := Nat.ne_of_lt (Nat.lt_of_lt_of_le Ac.lt gz1)
 have Vc2 := Ac_1
 obtain ⟨cl2, Ar2, qq2, sz2, nn2, Ha2, Gf2⟩ := Vc2
 have hin2 : ¬ ((0 : Int32) < 0 ∨ cl2.slots.size ≤ ((0 : Int32)).toNatClampNeg) := inb_of sz2 ⟨by decide, by decide⟩
 obtain ⟨_, T3, Lc3, X3, hQ3, st3⟩ := own_cS X1 hx hZ (y := own_z50) hown (wd232 hw) (wd233 hw) (wd110 hw) (wd234 hw) (by decide) (rmpc l Z a0 hw [] b1 kb1 (4 : Int32) [.int 0, .int 0, .int 0, .int 0] 0 (0 : Int32) c0 T1.heap n0 (Nat.le_trans Z0 E1.1) EN_1 V1 (Nat.le_trans Z0 gz1) ⟨by decide, by decide⟩ ⟨by decide, by decide⟩ (by decide) (by decide) (Nat.le_of_ble_eq_true rfl) (Nat.le_of_ble_eq_true rfl)) 0 (by decide) (g := (mkF m 20 #[.val (.ref a1), .val (.int (0 : Int32)), .val (.int (2 : Int32)), .val (.ref b1), .val (.int (0 : Int32))] [(.int c0), (.int (0 : Int32)), (.ref b1)])) rfl hml.symm [(.ref b1), (.int (0 : Int32)), (.int c0)] [] (lenOf pd_pc rfl) rfl rfl (hb hby d45_20) rfl rfl
 obtain ⟨rfl, N3q, Kp3, Vn3⟩ := hQ3
 have N3 := Fr.app N1 N3q
 have Ac_3 := Ac_1.keep Kp3 (ninS nab nin0)
 have EN_3 := EN_1.keep Kp3 V1.nostat
 have K3 := K1.trans Kp3 (fun x hx => by cases List.mem_singleton.mp hx; exact Or.inr gz1)
 have Vx3 : Arv Z T3.heap b1 kb1 .byte (4 : Int32) [.int (own_lo8 c0), .int (own_hi8 c0), .int 0, .int 0] (.int 0) := Vn3
 have Vc4 := Ac_3
 obtain ⟨cl4, Ar4, qq4, sz4, nn4, Ha4, Gf4⟩ := Vc4
 have hin4 : ¬ ((1 : Int32) < 0 ∨ cl4.slots.size ≤ ((1 : Int32)).toNatClampNeg) := inb_of sz4 ⟨by decide, by decide⟩
 obtain ⟨_, T5, Lc5, X5, hQ5, st5⟩ := own_cS X3 hx hZ (y := own_z50) hown (wd232 hw) (wd233 hw) (wd110 hw) (wd234 hw) (by decide) (rmpc l Z a0 hw [] b1 kb1 (4 : Int32) [.int (own_lo8 c0), .int (own_hi8 c0), .int 0, .int 0] 2 (1 : Int32) c1 T3.heap n0 (Nat.le_trans (Nat.le_trans Z0 E1.1) Kp3.1) EN_3 Vx3 (Nat.le_trans Z0 gz1) ⟨by decide, by decide⟩ ⟨by decide, by decide⟩ (by decide) (by decide) (Nat.le_of_ble_eq_true rfl) (Nat.le_of_ble_eq_true rfl)) 0 (by decide) (g := (mkF m 20 #[.val (.ref a1), .val (.int (1 : Int32)), .val (.int (2 : Int32)), .val (.ref b1), .val (.int (1 : Int32))] [(.int c1), (.int (1 : Int32)), (.ref b1)])) rfl hml.symm [(.ref b1), (.int (1 : Int32)), (.int c1)] [] (lenOf pd_pc rfl) rfl rfl (hb hby d45_20) rfl rfl
 obtain ⟨rfl, N5q, Kp5, Vn5⟩ := hQ5
 have N5 := Fr.app N3 N5q
 have Ac_5 := Ac_3.keep Kp5 (ninS nab nin0)
 have EN_5 := EN_3.keep Kp5 Vx3.nostat
 have K5 := K3.trans Kp5 (fun x hx => by cases List.mem_singleton.mp hx; exact Or.inr gz1)
 have Vx5 : Arv Z T5.heap b1 kb1 .byte (4 : Int32) [.int (own_lo8 c0), .int (own_hi8 c0), .int (own_lo8 c1), .int (own_hi8 c1)] (.int 0) := Vn5
 have pre6 : own_pr p e below PP T5 (mkF m 33 #[.val (.ref a1), .val (.int (2 : Int32)), .val (.int (2 : Int32)), .val (.ref b1), .val (.int (2 : Int32))] [(.ref b1)]) := fun τ κ => pre0 τ (by
  show own_st p e below s₁ (mkF m 0 #[.val (.ref a1), .val (.int (0 : Int32)), .val (.int (2 : Int32)), .unset, .unset] []) _
  refine XS.iloadN X0.here hx rfl (hb hby d45_0) rfl ?_
  refine st1 _ ?_
  refine XS.astoreN X1.here hx rfl (hb hby d45_4) rfl rfl (l' := #[.val (.ref a1), .val (.int (0 : Int32)), .val (.int (2 : Int32)), .val (.ref b1), .unset]) rfl ?_
  refine XS.iconst X1.here hx rfl (hb hby d45_5) ?_
  refine XS.istore X1.here hx rfl (hb hby d45_6) rfl (l' := #[.val (.ref a1), .val (.int (0 : Int32)), .val (.int (2 : Int32)), .val (.ref b1), .val (.int (0 : Int32))]) rfl ?_
  refine XS.iload X1.here hx rfl (hb hby d45_8) rfl ?_
  refine XS.iloadN X1.here hx rfl (hb hby d45_10) rfl ?_
  refine XS.icmpNo X1.here hx rfl (hb hby d45_11) rfl (tlt (by decide : (0 : Int32) < (2 : Int32))).2.1 ?_
  refine XS.aloadN X1.here hx rfl (hb hby d45_14) rfl rfl ?_
  refine XS.iload X1.here hx rfl (hb hby d45_15) rfl ?_
  refine XS.aloadN X1.here hx rfl (hb hby d45_17) rfl rfl ?_
  refine XS.iloadN X1.here hx rfl (hb hby d45_18) rfl ?_
  refine X1.caload hx (j := (0 : Int32)) (v := (.int c0)) Ar2.1 (State.isArrayOf_alike hZ.alike Ar2.2.1) Ar2.2.2 hin2 (Has.at Ha2 hin2 rfl) (g := (mkF m 19 #[.val (.ref a1), .val (.int (0 : Int32)), .val (.int (2 : Int32)), .val (.ref b1), .val (.int (0 : Int32))] [(.int (0 : Int32)), (.ref a1), (.int (0 : Int32)), (.ref b1)])) rfl rfl (hb hby d45_19) _ ?_
  refine st3 _ ?_
  refine XS.iinc X3.here hx rfl (hb hby d45_23) rfl (l' := #[.val (.ref a1), .val (.int ((0 : Int32) + (1 : Int32))), .val (.int (2 : Int32)), .val (.ref b1), .val (.int (0 : Int32))]) rfl ?_
  show own_st p e below T3 (mkF m 26 #[.val (.ref a1), .val (.int ((0 : Int32) + (1 : Int32))), .val (.int (2 : Int32)), .val (.ref b1), .val (.int (0 : Int32))] []) _
  rw [show ((0 : Int32) + (1 : Int32)) = (1 : Int32) from by decide]
  refine XS.iinc X3.here hx rfl (hb hby d45_26) rfl (l' := #[.val (.ref a1), .val (.int (1 : Int32)), .val (.int (2 : Int32)), .val (.ref b1), .val (.int ((0 : Int32) + (1 : Int32)))]) rfl ?_
  show own_st p e below T3 (mkF m 29 #[.val (.ref a1), .val (.int (1 : Int32)), .val (.int (2 : Int32)), .val (.ref b1), .val (.int ((0 : Int32) + (1 : Int32)))] []) _
  rw [show ((0 : Int32) + (1 : Int32)) = (1 : Int32) from by decide]
  refine XS.goto X3.here hx rfl (pc0 := 29) (pc' := 8) rfl (hb hby d45_29) (by decide) (by decide) ?_
  refine XS.iload X3.here hx rfl (hb hby d45_8) rfl ?_
  refine XS.iloadN X3.here hx rfl (hb hby d45_10) rfl ?_
  refine XS.icmpNo X3.here hx rfl (hb hby d45_11) rfl (tlt (by decide : (1 : Int32) < (2 : Int32))).2.1 ?_
  refine XS.aloadN X3.here hx rfl (hb hby d45_14) rfl rfl ?_
  refine XS.iload X3.here hx rfl (hb hby d45_15) rfl ?_
  refine XS.aloadN X3.here hx rfl (hb hby d45_17) rfl rfl ?_
  refine XS.iloadN X3.here hx rfl (hb hby d45_18) rfl ?_
  refine X3.caload hx (j := (1 : Int32)) (v := (.int c1)) Ar4.1 (State.isArrayOf_alike hZ.alike Ar4.2.1) Ar4.2.2 hin4 (Has.at Ha4 hin4 rfl) (g := (mkF m 19 #[.val (.ref a1), .val (.int (1 : Int32)), .val (.int (2 : Int32)), .val (.ref b1), .val (.int (1 : Int32))] [(.int (1 : Int32)), (.ref a1), (.int (1 : Int32)), (.ref b1)])) rfl rfl (hb hby d45_19) _ ?_
  refine st5 _ ?_
  refine XS.iinc X5.here hx rfl (hb hby d45_23) rfl (l' := #[.val (.ref a1), .val (.int ((1 : Int32) + (1 : Int32))), .val (.int (2 : Int32)), .val (.ref b1), .val (.int (1 : Int32))]) rfl ?_
  show own_st p e below T5 (mkF m 26 #[.val (.ref a1), .val (.int ((1 : Int32) + (1 : Int32))), .val (.int (2 : Int32)), .val (.ref b1), .val (.int (1 : Int32))] []) _
  rw [show ((1 : Int32) + (1 : Int32)) = (2 : Int32) from by decide]
  refine XS.iinc X5.here hx rfl (hb hby d45_26) rfl (l' := #[.val (.ref a1), .val (.int (2 : Int32)), .val (.int (2 : Int32)), .val (.ref b1), .val (.int ((1 : Int32) + (1 : Int32)))]) rfl ?_
  show own_st p e below T5 (mkF m 29 #[.val (.ref a1), .val (.int (2 : Int32)), .val (.int (2 : Int32)), .val (.ref b1), .val (.int ((1 : Int32) + (1 : Int32)))] []) _
  rw [show ((1 : Int32) + (1 : Int32)) = (2 : Int32) from by decide]
  refine XS.goto X5.here hx rfl (pc0 := 29) (pc' := 8) rfl (hb hby d45_29) (by decide) (by decide) ?_
  refine XS.iload X5.here hx rfl (hb hby d45_8) rfl ?_
  refine XS.iloadN X5.here hx rfl (hb hby d45_10) rfl ?_
  refine XS.icmpYes X5.here hx rfl (pc0 := 11) (pc' := 32) rfl (hb hby d45_11) rfl (flt (by decide : ¬ ((2 : Int32) < (2 : Int32)))).2.1 (by decide) (by decide) ?_
  refine XS.aloadN X5.here hx rfl (hb hby d45_32) rfl rfl ?_
  exact κ)
 obtain ⟨fs7, hr7, hrun7, hended7, hW7, hsame7⟩ := X5.leave (v := some (.ref b1)) (fun h => by rw [Bd.returns] at h; cases h)
 refine ⟨_, _, hPs _ (pre6 _ ?_), hrun7, hended7, _, _, rfl, ?_, ⟨_, rfl⟩, hW7, hsame7.mono (by decide) (by decide)⟩
 ·show own_st p e below T5 (mkF m 33 #[.val (.ref a1), .val (.int (2 : Int32)), .val (.int (2 : Int32)), .val (.ref b1), .val (.int (2 : Int32))] [(.ref b1)]) _
  exact retOut X5 hx (t := (.array .byte)) Bd.returns rfl (Or.inr (Or.inr (Or.inr (Or.inr ⟨rfl, rfl, rfl⟩)))) (hb hby d45_33) hr7
 ·show Qtb2 Z a1 kc c0 c1 h0 n0 _ T5.heap _
  exact ⟨_, _, rfl, N5, own_ext K5, Vx5⟩


def Qcp2 (Z : State) (a1 a2 : Addr) (kc kd : ClassId) (c0 c1 : Int32) (h0 : Heap) (n0 : Nat) (v : Option Value) (h : Heap) (L : List Loc) : Prop := ∃ j : Int32, v = some (.int j) ∧ Fr n0 L ∧ Keep h0 h [a2] ∧ ((j = (0 : Int32) ∧ (255 : Int32) < c0) ∨ (j = (1 : Int32) ∧ (255 : Int32) < c1) ∨ (j = (2 : Int32) ∧ (¬ (255 : Int32) < c0 ∧ ¬ (255 : Int32) < c1) ∧ Arv Z h a2 kd .byte (2 : Int32) ([c0, c1].map fun c => Value.int (own_lo8 c)) (.int 0)))
theorem rmcp2 (l : Launch) (Z : State) (a0 : Array Value) (hw : own_W Z a0) (ws : List Jvm.Cond) (a1 a2 : Addr) (kc kd : ClassId) (c0 c1 : Int32) (h0 : Heap) (n0 : Nat) (Z0 : n0 ≤ h0.size) (Ac : Arv Z h0 a1 kc .char (2 : Int32) ([c0, c1].map Value.int) (.int 0)) (Vd : Arv Z h0 a2 kd .byte (2 : Int32) [.int 0, .int 0] (.int 0)) (hne : a1 ≠ a2) (gd : n0 ≤ a2) :
  own_M l Z own_z20 own_c20 7 (some .int) ({ frames := 0, cells := 0, slots := 0, locals := 0 } : Room) ws #[(.ref a1), (.int (0 : Int32)), (.ref a2), (.int (0 : Int32)), (.int (2 : Int32))] h0 (Qcp2 Z a1 a2 kc kd c0 c1 h0 n0) := by
 refine MetFree.of_bodySF (plainFor_of_name pn_k5) hisR ?_
 intro p e s m args below meth c s₁ Bd hml0 hP hK
 obtain ⟨rfl, hZ, hh⟩ := hP
 have hx := Bd.exec
 have hby := Bd.bytes
 have hml : c.maxLocals = 7 := hml0
 have hown : s.vm.findClass "java/lang/StringUTF16" = some m.cls := findClass_of_methodNamed Bd.named
 have X0 : Stand p l e ({ frames := 0, cells := 0, slots := 0, locals := 0 } : Room) s m #[(.ref a1), (.int (0 : Int32)), (.ref a2), (.int (0 : Int32)), (.int (2 : Int32))] below meth c s₁ [] 0 0 := Stand.of_body Bd
 have e0 : s₁.heap = h0 := by rw [← hh, Bd.state]; rfl
 have N0 := Fr.nil n0
 obtain ⟨PP, hPs, pre0⟩ : ∃ PP : State → Prop, (∀ t, PP t → Steps p.tables e below (s₁.setTop (entryFrame m #[(.ref a1), (.int (0 : Int32)), (.ref a2), (.int (0 : Int32)), (.int (2 : Int32))] 7)) t) ∧ own_pr p e below PP s₁ (mkF m 0 #[.val (.ref a1), .val (.int (0 : Int32)), .val (.ref a2), .val (.int (0 : Int32)), .val (.int (2 : Int32)), .unset, .unset] []) := ⟨_, fun _ κ => κ, fun τ κ => castTop (ef_cp1 m a1 (0 : Int32) a2 (0 : Int32) (2 : Int32)) κ⟩
 have Vc1 := Ac
 obtain ⟨cl1, Ar1, qq1, sz1, nn1, Ha1, Gf1⟩ := Vc1
 have hin1 : ¬ ((0 : Int32) < 0 ∨ cl1.slots.size ≤ ((0 : Int32)).toNatClampNeg) := inb_of sz1 ⟨by decide, by decide⟩
 have pre2 : own_pr p e below PP s₁ (mkF m 20 #[.val (.ref a1), .val (.int (0 : Int32)), .val (.ref a2), .val (.int (0 : Int32)), .val (.int (2 : Int32)), .val (.int (0 : Int32)), .val (.int c0)] [(.int (255 : Int32)), (.int c0)]) := fun τ κ => pre0 τ (by
  show own_st p e below s₁ (mkF m 0 #[.val (.ref a1), .val (.int (0 : Int32)), .val (.ref a2), .val (.int (0 : Int32)), .val (.int (2 : Int32)), .unset, .unset] []) _
  refine XS.iconst X0.here hx rfl (hb hby d19_0) ?_
  refine XS.istore X0.here hx rfl (hb hby d19_1) rfl (l' := #[.val (.ref a1), .val (.int (0 : Int32)), .val (.ref a2), .val (.int (0 : Int32)), .val (.int (2 : Int32)), .val (.int (0 : Int32)), .unset]) rfl ?_
  refine XS.iload X0.here hx rfl (hb hby d19_3) rfl ?_
  refine XS.iload X0.here hx rfl (hb hby d19_5) rfl ?_
  refine XS.icmpNo X0.here hx rfl (hb hby d19_7) rfl (tlt (by decide : (0 : Int32) < (2 : Int32))).2.1 ?_
  refine XS.aloadN X0.here hx rfl (hb hby d19_10) rfl rfl ?_
  refine XS.iloadN X0.here hx rfl (hb hby d19_11) rfl ?_
  refine X0.caload hx (j := (0 : Int32)) (v := (.int c0)) (by rw [e0]; exact Ar1.1) (State.isArrayOf_alike hZ.alike Ar1.2.1) Ar1.2.2 hin1 (Has.at Ha1 hin1 rfl) (g := (mkF m 12 #[.val (.ref a1), .val (.int (0 : Int32)), .val (.ref a2), .val (.int (0 : Int32)), .val (.int (2 : Int32)), .val (.int (0 : Int32)), .unset] [(.int (0 : Int32)), (.ref a1)])) rfl rfl (hb hby d19_12) _ ?_
  refine XS.istore X0.here hx rfl (hb hby d19_13) rfl (l' := #[.val (.ref a1), .val (.int (0 : Int32)), .val (.ref a2), .val (.int (0 : Int32)), .val (.int (2 : Int32)), .val (.int (0 : Int32)), .val (.int c0)]) rfl ?_
  refine XS.iload X0.here hx rfl (hb hby d19_15) rfl ?_
  refine XS.sipush X0.here hx rfl (hb hby d19_17) ?_
  exact κ)
 by_cases hc20 : (255 : Int32) < c0
 ·have pre3 : own_pr p e below PP s₁ (mkF m 25 #[.val (.ref a1), .val (.int (0 : Int32)), .val (.ref a2), .val (.int (0 : Int32)), .val (.int (2 : Int32)), .val (.int (0 : Int32)), .val (.int c0)] [(.int (0 : Int32))]) := fun τ κ => pre2 τ (by
   show own_st p e below s₁ (mkF m 20 #[.val (.ref a1), .val (.int (0 : Int32)), .val (.ref a2), .val (.int (0 : Int32)), .val (.int (2 : Int32)), .val (.int (0 : Int32)), .val (.int c0)] [(.int (255 : Int32)), (.int c0)]) _
   refine XS.icmpNo X0.here hx rfl (hb hby d19_20) rfl (tlt hc20).2.2.2 ?_
   refine XS.iload X0.here hx rfl (hb hby d19_23) rfl ?_
   exact κ)
  obtain ⟨fs4, hr4, hrun4, hended4, hW4, hsame4⟩ := X0.leave (v := some (.int (0 : Int32))) (fun h => by rw [Bd.returns] at h; cases h)
  refine ⟨_, _, hPs _ (pre3 _ ?_), hrun4, hended4, _, _, rfl, ?_, ⟨_, rfl⟩, hW4, hsame4.mono (by decide) (by decide)⟩
  ·show own_st p e below s₁ (mkF m 25 #[.val (.ref a1), .val (.int (0 : Int32)), .val (.ref a2), .val (.int (0 : Int32)), .val (.int (2 : Int32)), .val (.int (0 : Int32)), .val (.int c0)] [(.int (0 : Int32))]) _
   exact retOut X0 hx (t := .int) Bd.returns rfl (Or.inl ⟨rfl, Or.inl rfl, _, rfl⟩) (hb hby d19_25) hr4
  ·show Qcp2 Z a1 a2 kc kd c0 c1 h0 n0 _ s₁.heap _
   rw [e0]
   exact ⟨_, rfl, N0, (Keep.refl h0 [a2]), Or.inl ⟨rfl, hc20⟩⟩
 have Vc5 := Vd
 obtain ⟨cl5, Ar5, qq5, sz5, nn5, Ha5, Gf5⟩ := Vc5
 have hin5 : ¬ ((0 : Int32) < 0 ∨ cl5.slots.size ≤ ((0 : Int32)).toNatClampNeg) := inb_of sz5 ⟨by decide, by decide⟩
 obtain ⟨T6, h6, X6, e6, W6, st6⟩ := stB X0 hx hZ e0 Ar5 (j := (0 : Int32)) hin5 (g := (mkF m 31 #[.val (.ref a1), .val (.int (0 : Int32)), .val (.ref a2), .val (.int (0 : Int32)), .val (.int (2 : Int32)), .val (.int (0 : Int32)), .val (.int c0)] [(.int (c0.toInt8.toInt32)), (.int (0 : Int32)), (.ref a2)])) rfl rfl (hb hby d19_31)
 have N6 := Fr.snoc X6 N0 gd
 have Ac_6 := Ac.other W6 hne
 have Vd_6 := Arv.set Ar5 qq5 sz5 nn5 Ha5 Gf5 (fits_nar_byte _) W6 0 rfl (Nat.le_of_ble_eq_true rfl)
 have Vc7 := Ac_6
 obtain ⟨cl7, Ar7, qq7, sz7, nn7, Ha7, Gf7⟩ := Vc7
 have hin7 : ¬ ((1 : Int32) < 0 ∨ cl7.slots.size ≤ ((1 : Int32)).toNatClampNeg) := inb_of sz7 ⟨by decide, by decide⟩
 have pre8 : own_pr p e below PP T6 (mkF m 20 #[.val (.ref a1), .val (.int (1 : Int32)), .val (.ref a2), .val (.int (1 : Int32)), .val (.int (2 : Int32)), .val (.int (1 : Int32)), .val (.int c1)] [(.int (255 : Int32)), (.int c1)]) := fun τ κ => pre2 τ (by
  show own_st p e below s₁ (mkF m 20 #[.val (.ref a1), .val (.int (0 : Int32)), .val (.ref a2), .val (.int (0 : Int32)), .val (.int (2 : Int32)), .val (.int (0 : Int32)), .val (.int c0)] [(.int (255 : Int32)), (.int c0)]) _
  refine XS.icmpYes X0.here hx rfl (pc0 := 20) (pc' := 26) rfl (hb hby d19_20) rfl (flt hc20).2.2.2 (by decide) (by decide) ?_
  refine XS.aloadN X0.here hx rfl (hb hby d19_26) rfl rfl ?_
  refine XS.iloadN X0.here hx rfl (hb hby d19_27) rfl ?_
  refine XS.iload X0.here hx rfl (hb hby d19_28) rfl ?_
  refine XS.i2b X0.here hx rfl (hb hby d19_30) rfl ?_
  refine st6 _ ?_
  refine XS.iinc X6.here hx rfl (hb hby d19_32) rfl (l' := #[.val (.ref a1), .val (.int ((0 : Int32) + (1 : Int32))), .val (.ref a2), .val (.int (0 : Int32)), .val (.int (2 : Int32)), .val (.int (0 : Int32)), .val (.int c0)]) rfl ?_
  show own_st p e below T6 (mkF m 35 #[.val (.ref a1), .val (.int ((0 : Int32) + (1 : Int32))), .val (.ref a2), .val (.int (0 : Int32)), .val (.int (2 : Int32)), .val (.int (0 : Int32)), .val (.int c0)] []) _
  rw [show ((0 : Int32) + (1 : Int32)) = (1 : Int32) from by decide]
  refine XS.iinc X6.here hx rfl (hb hby d19_35) rfl (l' := #[.val (.ref a1), .val (.int (1 : Int32)), .val (.ref a2), .val (.int ((0 : Int32) + (1 : Int32))), .val (.int (2 : Int32)), .val (.int (0 : Int32)), .val (.int c0)]) rfl ?_
  show own_st p e below T6 (mkF m 38 #[.val (.ref a1), .val (.int (1 : Int32)), .val (.ref a2), .val (.int ((0 : Int32) + (1 : Int32))), .val (.int (2 : Int32)), .val (.int (0 : Int32)), .val (.int c0)] []) _
  rw [show ((0 : Int32) + (1 : Int32)) = (1 : Int32) from by decide]
  refine XS.iinc X6.here hx rfl (hb hby d19_38) rfl (l' := #[.val (.ref a1), .val (.int (1 : Int32)), .val (.ref a2), .val (.int (1 : Int32)), .val (.int (2 : Int32)), .val (.int ((0 : Int32) + (1 : Int32))), .val (.int c0)]) rfl ?_
  show own_st p e below T6 (mkF m 41 #[.val (.ref a1), .val (.int (1 : Int32)), .val (.ref a2), .val (.int (1 : Int32)), .val (.int (2 : Int32)), .val (.int ((0 : Int32) + (1 : Int32))), .val (.int c0)] []) _
  rw [show ((0 : Int32) + (1 : Int32)) = (1 : Int32) from by decide]
  refine XS.goto X6.here hx rfl (pc0 := 41) (pc' := 3) rfl (hb hby d19_41) (by decide) (by decide) ?_
  refine XS.iload X6.here hx rfl (hb hby d19_3) rfl ?_
  refine XS.iload X6.here hx rfl (hb hby d19_5) rfl ?_
  refine XS.icmpNo X6.here hx rfl (hb hby d19_7) rfl (tlt (by decide : (1 : Int32) < (2 : Int32))).2.1 ?_
  refine XS.aloadN X6.here hx rfl (hb hby d19_10) rfl rfl ?_
  refine XS.iloadN X6.here hx rfl (hb hby d19_11) rfl ?_
  refine X6.caload hx (j := (1 : Int32)) (v := (.int c1)) (by rw [e6]; exact Ar7.1) (State.isArrayOf_alike hZ.alike Ar7.2.1) Ar7.2.2 hin7 (Has.at Ha7 hin7 rfl) (g := (mkF m 12 #[.val (.ref a1), .val (.int (1 : Int32)), .val (.ref a2), .val (.int (1 : Int32)), .val (.int (2 : Int32)), .val (.int (1 : Int32)), .val (.int c0)] [(.int (1 : Int32)), (.ref a1)])) rfl rfl (hb hby d19_12) _ ?_
  refine XS.istore X6.here hx rfl (hb hby d19_13) rfl (l' := #[.val (.ref a1), .val (.int (1 : Int32)), .val (.ref a2), .val (.int (1 : Int32)), .val (.int (2 : Int32)), .val (.int (1 : Int32)), .val (.int c1)]) rfl ?_
  refine XS.iload X6.here hx rfl (hb hby d19_15) rfl ?_
  refine XS.sipush X6.here hx rfl (hb hby d19_17) ?_
  exact κ)
 by_cases hc20_9 : (255 : Int32) < c1
 ·have pre10 : own_pr p e below PP T6 (mkF m 25 #[.val (.ref a1), .val (.int (1 : Int32)), .val (.ref a2), .val (.int (1 : Int32)), .val (.int (2 : Int32)), .val (.int (1 : Int32)), .val (.int c1)] [(.int (1 : Int32))]) := fun τ κ => pre8 τ (by
   show own_st p e below T6 (mkF m 20 #[.val (.ref a1), .val (.int (1 : Int32)), .val (.ref a2), .val (.int (1 : Int32)), .val (.int (2 : Int32)), .val (.int (1 : Int32)), .val (.int c1)] [(.int (255 : Int32)), (.int c1)]) _
   refine XS.icmpNo X6.here hx rfl (hb hby d19_20) rfl (tlt hc20_9).2.2.2 ?_
   refine XS.iload X6.here hx rfl (hb hby d19_23) rfl ?_
   exact κ)
  obtain ⟨fs11, hr11, hrun11, hended11, hW11, hsame11⟩ := X6.leave (v := some (.int (1 : Int32))) (fun h => by rw [Bd.returns] at h; cases h)
  refine ⟨_, _, hPs _ (pre10 _ ?_), hrun11, hended11, _, _, rfl, ?_, ⟨_, rfl⟩, hW11, hsame11.mono (by decide) (by decide)⟩
  ·show own_st p e below T6 (mkF m 25 #[.val (.ref a1), .val (.int (1 : Int32)), .val (.ref a2), .val (.int (1 : Int32)), .val (.int (2 : Int32)), .val (.int (1 : Int32)), .val (.int c1)] [(.int (1 : Int32))]) _
   exact retOut X6 hx (t := .int) Bd.returns rfl (Or.inl ⟨rfl, Or.inl rfl, _, rfl⟩) (hb hby d19_25) hr11
  ·show Qcp2 Z a1 a2 kc kd c0 c1 h0 n0 _ T6.heap _
   rw [e6]
   exact ⟨_, rfl, N6, ((Keep.refl h0 [a2]).wr W6 (Or.inl (List.mem_singleton.mpr rfl))), Or.inr (Or.inl ⟨rfl, hc20_9⟩)⟩
 have Vc12 := Vd_6
 obtain ⟨cl12, Ar12, qq12, sz12, nn12, Ha12, Gf12⟩ := Vc12
 have hin12 : ¬ ((1 : Int32) < 0 ∨ cl12.slots.size ≤ ((1 : Int32)).toNatClampNeg) := inb_of sz12 ⟨by decide, by decide⟩
 obtain ⟨T13, h13, X13, e13, W13, st13⟩ := stB X6 hx hZ e6 Ar12 (j := (1 : Int32)) hin12 (g := (mkF m 31 #[.val (.ref a1), .val (.int (1 : Int32)), .val (.ref a2), .val (.int (1 : Int32)), .val (.int (2 : Int32)), .val (.int (1 : Int32)), .val (.int c1)] [(.int (c1.toInt8.toInt32)), (.int (1 : Int32)), (.ref a2)])) rfl rfl (hb hby d19_31)
 have N13 := Fr.snoc X13 N6 gd
 have Ac_13 := Ac_6.other W13 hne
 have Vd_13 := Arv.set Ar12 qq12 sz12 nn12 Ha12 Gf12 (fits_nar_byte _) W13 1 rfl (Nat.le_of_ble_eq_true rfl)
 have pre14 : own_pr p e below PP T13 (mkF m 46 #[.val (.ref a1), .val (.int (2 : Int32)), .val (.ref a2), .val (.int (2 : Int32)), .val (.int (2 : Int32)), .val (.int (2 : Int32)), .val (.int c1)] [(.int (2 : Int32))]) := fun τ κ => pre8 τ (by
  show own_st p e below T6 (mkF m 20 #[.val (.ref a1), .val (.int (1 : Int32)), .val (.ref a2), .val (.int (1 : Int32)), .val (.int (2 : Int32)), .val (.int (1 : Int32)), .val (.int c1)] [(.int (255 : Int32)), (.int c1)]) _
  refine XS.icmpYes X6.here hx rfl (pc0 := 20) (pc' := 26) rfl (hb hby d19_20) rfl (flt hc20_9).2.2.2 (by decide) (by decide) ?_
  refine XS.aloadN X6.here hx rfl (hb hby d19_26) rfl rfl ?_
  refine XS.iloadN X6.here hx rfl (hb hby d19_27) rfl ?_
  refine XS.iload X6.here hx rfl (hb hby d19_28) rfl ?_
  refine XS.i2b X6.here hx rfl (hb hby d19_30) rfl ?_
  refine st13 _ ?_
  refine XS.iinc X13.here hx rfl (hb hby d19_32) rfl (l' := #[.val (.ref a1), .val (.int ((1 : Int32) + (1 : Int32))), .val (.ref a2), .val (.int (1 : Int32)), .val (.int (2 : Int32)), .val (.int (1 : Int32)), .val (.int c1)]) rfl ?_
  show own_st p e below T13 (mkF m 35 #[.val (.ref a1), .val (.int ((1 : Int32) + (1 : Int32))), .val (.ref a2), .val (.int (1 : Int32)), .val (.int (2 : Int32)), .val (.int (1 : Int32)), .val (.int c1)] []) _
  rw [show ((1 : Int32) + (1 : Int32)) = (2 : Int32) from by decide]
  refine XS.iinc X13.here hx rfl (hb hby d19_35) rfl (l' := #[.val (.ref a1), .val (.int (2 : Int32)), .val (.ref a2), .val (.int ((1 : Int32) + (1 : Int32))), .val (.int (2 : Int32)), .val (.int (1 : Int32)), .val (.int c1)]) rfl ?_
  show own_st p e below T13 (mkF m 38 #[.val (.ref a1), .val (.int (2 : Int32)), .val (.ref a2), .val (.int ((1 : Int32) + (1 : Int32))), .val (.int (2 : Int32)), .val (.int (1 : Int32)), .val (.int c1)] []) _
  rw [show ((1 : Int32) + (1 : Int32)) = (2 : Int32) from by decide]
  refine XS.iinc X13.here hx rfl (hb hby d19_38) rfl (l' := #[.val (.ref a1), .val (.int (2 : Int32)), .val (.ref a2), .val (.int (2 : Int32)), .val (.int (2 : Int32)), .val (.int ((1 : Int32) + (1 : Int32))), .val (.int c1)]) rfl ?_
  show own_st p e below T13 (mkF m 41 #[.val (.ref a1), .val (.int (2 : Int32)), .val (.ref a2), .val (.int (2 : Int32)), .val (.int (2 : Int32)), .val (.int ((1 : Int32) + (1 : Int32))), .val (.int c1)] []) _
  rw [show ((1 : Int32) + (1 : Int32)) = (2 : Int32) from by decide]
  refine XS.goto X13.here hx rfl (pc0 := 41) (pc' := 3) rfl (hb hby d19_41) (by decide) (by decide) ?_
  refine XS.iload X13.here hx rfl (hb hby d19_3) rfl ?_
  refine XS.iload X13.here hx rfl (hb hby d19_5) rfl ?_
  refine XS.icmpYes X13.here hx rfl (pc0 := 7) (pc' := 44) rfl (hb hby d19_7) rfl (flt (by decide : ¬ ((2 : Int32) < (2 : Int32)))).2.1 (by decide) (by decide) ?_
  refine XS.iload X13.here hx rfl (hb hby d19_44) rfl ?_
  exact κ)
 obtain ⟨fs15, hr15, hrun15, hended15, hW15, hsame15⟩ := X13.leave (v := some (.int (2 : Int32))) (fun h => by rw [Bd.returns] at h; cases h)
 refine ⟨_, _, hPs _ (pre14 _ ?_), hrun15, hended15, _, _, rfl, ?_, ⟨_, rfl⟩, hW15, hsame15.mono (by decide) (by decide)⟩
 ·show own_st p e below T13 (mkF m 46 #[.val (.ref a1), .val (.int (2 : Int32)), .val (.ref a2), .val (.int (2 : Int32)), .val (.int (2 : Int32)), .val (.int (2 : Int32)), .val (.int c1)] [(.int (2 : Int32))]) _
  exact retOut X13 hx (t := .int) Bd.returns rfl (Or.inl ⟨rfl, Or.inl rfl, _, rfl⟩) (hb hby d19_46) hr15
 ·show Qcp2 Z a1 a2 kc kd c0 c1 h0 n0 _ T13.heap _
  rw [e13]
  have q := Vd_13
  simp only [own_lo] at q
  exact ⟨_, rfl, N13, (((Keep.refl h0 [a2]).wr W6 (Or.inl (List.mem_singleton.mpr rfl))).wr W13 (Or.inl (List.mem_singleton.mpr rfl))), Or.inr (Or.inr (⟨rfl, ⟨hc20, hc20_9⟩, q⟩))⟩


def Qcz2 (Z : State) (a1 : Addr) (kc : ClassId) (c0 c1 : Int32) (h0 : Heap) (n0 : Nat) (v : Option Value) (h : Heap) (L : List Loc) : Prop := ∃ b kb cd N vs, v = some (.ref b) ∧ Fr n0 L ∧ Ext h0 h ∧ Arv Z h b kb .byte N vs (.int 0) ∧ own_CodA [c0, c1] cd N vs
theorem rmcz2 (l : Launch) (Z : State) (a0 : Array Value) (hw : own_W Z a0) (ws : List Jvm.Cond) (a1 : Addr) (kc : ClassId) (c0 c1 : Int32) (h0 : Heap) (n0 : Nat) (Z0 : n0 ≤ h0.size) (Ac : Arv Z h0 a1 kc .char (2 : Int32) ([c0, c1].map Value.int) (.int 0)) (EN : own_env Z h0) (hb0 : own_b c0) (hb1 : own_b c1) :
  own_M l Z own_z19 own_c21 6 (some (.array .byte)) ({ frames := 3, cells := 2, slots := 6, locals := 45 } : Room) ws #[(.ref a1), (.int (0 : Int32)), (.int (2 : Int32))] h0 (Qcz2 Z a1 kc c0 c1 h0 n0) := by
 refine MetFree.of_bodySF (plainFor_of_name pn_k5) hisR ?_
 intro p e s m args below meth c s₁ Bd hml0 hP hK
 obtain ⟨rfl, hZ, hh⟩ := hP
 have hx := Bd.exec
 have hby := Bd.bytes
 have hml : c.maxLocals = 6 := hml0
 have hown : s.vm.findClass "java/lang/StringUTF16" = some m.cls := findClass_of_methodNamed Bd.named
 have X0 : Stand p l e ({ frames := 3, cells := 2, slots := 6, locals := 45 } : Room) s m #[(.ref a1), (.int (0 : Int32)), (.int (2 : Int32))] below meth c s₁ [] 0 0 := Stand.of_body Bd
 have e0 : s₁.heap = h0 := by rw [← hh, Bd.state]; rfl
 have N0 := Fr.nil n0
 obtain ⟨PP, hPs, pre0⟩ : ∃ PP : State → Prop, (∀ t, PP t → Steps p.tables e below (s₁.setTop (entryFrame m #[(.ref a1), (.int (0 : Int32)), (.int (2 : Int32))] 6)) t) ∧ own_pr p e below PP s₁ (mkF m 0 #[.val (.ref a1), .val (.int (0 : Int32)), .val (.int (2 : Int32)), .unset, .unset, .unset] []) := ⟨_, fun _ κ => κ, fun τ κ => castTop (ef_cz1 m a1 (0 : Int32) (2 : Int32)) κ⟩
 obtain ⟨T1, h1, k1, X1, e1, E1, A1, st1⟩ := newP (aty := .byte) X0 hx hZ (wd21 hw) e0 (g := (mkF m 1 #[.val (.ref a1), .val (.int (0 : Int32)), .val (.int (2 : Int32)), .unset, .unset, .unset] [(.int (2 : Int32))])) rfl (hb hby d18_1) rfl (by decide) (cap := 2) (by decide) (by decide) (by decide) (by decide)
 obtain ⟨b1, gb1⟩ : ∃ z, z = h0.size := ⟨_, rfl⟩
 rw [← gb1] at A1 st1
 have gn1 : n0 ≤ b1 := Nat.le_trans Z0 (Nat.le_of_eq gb1.symm)
 have sz1_b : h0.size ≤ b1 := Nat.le_trans (Keep.refl h0 []).1 (Nat.le_of_eq gb1.symm)
 have ne_a1_b1 : a1 ≠ b1 := Nat.ne_of_lt (Nat.lt_of_lt_of_le Ac.lt (Nat.le_of_eq gb1.symm))
 have Ac_1 := Ac.ext E1
 have EN_1 := EN.ext E1
 have K1 := (Keep.refl h0 []).ext E1
 have V1 : Arv Z h1 b1 k1 .byte (2 : Int32) [(.int (0 : Int32)), (.int (0 : Int32))] (.int (0 : Int32)) := (Arv.new A1 (by decide)).pad (pad_rep [] (.int (0 : Int32)) 2)
 obtain ⟨_, T2, Lc2, X2, hQ2, st2⟩ := own_cS X1 hx hZ (y := own_z20) hown (wd112 hw) (wd113 hw) (wd110 hw) (wd114 hw) (by decide) (rmcp2 l Z a0 hw [] a1 b1 kc k1 c0 c1 h1 n0 (Nat.le_trans Z0 E1.1) Ac_1 V1 ne_a1_b1 gn1) 0 (by decide) (g := (mkF m 9 #[.val (.ref a1), .val (.int (0 : Int32)), .val (.int (2 : Int32)), .val (.ref b1), .unset, .unset] [(.int (2 : Int32)), (.int (0 : Int32)), (.ref b1), (.int (0 : Int32)), (.ref a1)])) rfl hml.symm [(.ref a1), (.int (0 : Int32)), (.ref b1), (.int (0 : Int32)), (.int (2 : Int32))] [] (lenOf pd_cp1 rfl) rfl rfl (hb hby d18_9) e1 rfl
 obtain ⟨j2, rfl, N2q, Kp2, hd2⟩ := hQ2
 have N2 := Fr.app N0 N2q
 have Ac_2 := Ac_1.keep Kp2 (ninS ne_a1_b1 nin0)
 have EN_2 := EN_1.keep Kp2 V1.nostat
 have K2 := K1.trans Kp2 (fun x hx => by cases List.mem_singleton.mp hx; exact Or.inr sz1_b)
 have pre3 : own_pr p e below PP T2 (mkF m 12 #[.val (.ref a1), .val (.int (0 : Int32)), .val (.int (2 : Int32)), .val (.ref b1), .unset, .unset] [(.int j2)]) := fun τ κ => pre0 τ (by
  show own_st p e below s₁ (mkF m 0 #[.val (.ref a1), .val (.int (0 : Int32)), .val (.int (2 : Int32)), .unset, .unset, .unset] []) _
  refine XS.iloadN X0.here hx rfl (hb hby d18_0) rfl ?_
  refine st1 _ ?_
  refine XS.astoreN X1.here hx rfl (hb hby d18_3) rfl rfl (l' := #[.val (.ref a1), .val (.int (0 : Int32)), .val (.int (2 : Int32)), .val (.ref b1), .unset, .unset]) rfl ?_
  refine XS.aloadN X1.here hx rfl (hb hby d18_4) rfl rfl ?_
  refine XS.iloadN X1.here hx rfl (hb hby d18_5) rfl ?_
  refine XS.aloadN X1.here hx rfl (hb hby d18_6) rfl rfl ?_
  refine XS.iconst X1.here hx rfl (hb hby d18_7) ?_
  refine XS.iloadN X1.here hx rfl (hb hby d18_8) rfl ?_
  refine st2 _ ?_
  exact κ)
 rcases hd2 with ⟨rfl, hcw⟩ | ⟨rfl, hcw⟩ | ⟨rfl, hcl, hvl⟩
 ·obtain ⟨_, T4, Lc4, X4, hQ4, st4⟩ := own_cS X2 hx hZ (y := own_z47) hown (wd222 hw) (wd223 hw) (wd110 hw) (wd224 hw) (by decide) (rmtb2 l Z a0 hw [] a1 kc c0 c1 T2.heap n0 (Nat.le_trans (Nat.le_trans Z0 E1.1) Kp2.1) Ac_2 EN_2) 0 (by decide) (g := (mkF m 23 #[.val (.ref a1), .val (.int (0 : Int32)), .val (.int (2 : Int32)), .val (.ref b1), .val (.int (0 : Int32)), .unset] [(.int (2 : Int32)), (.int (0 : Int32)), (.ref a1)])) rfl hml.symm [(.ref a1), (.int (0 : Int32)), (.int (2 : Int32))] [] (lenOf pd_tb1 rfl) rfl rfl (hb hby d18_23) rfl rfl
  obtain ⟨b4, kb4, rfl, N4q, E4, V4⟩ := hQ4
  have N4 := Fr.app N2 N4q
  have Ac_4 := Ac_2.ext E4
  have EN_4 := EN_2.ext E4
  have K4 := K2.ext E4
  have Vc5 := V4
  obtain ⟨cl5, Ar5, qq5, sz5, nn5, Ha5, Gf5⟩ := Vc5
  have r0_5 : own_rd cl5 ((0 : Int32) <<< ((1 : Int32) &&& 31)) (own_lo8 c0) := own_rdOf sz5 Ha5 ⟨by decide, by decide⟩ (by rw [show (((0 : Int32) <<< ((1 : Int32) &&& 31))).toNatClampNeg = 0 from by decide]; rfl)
  have r1_5 : own_rd cl5 (((0 : Int32) <<< ((1 : Int32) &&& 31)) + (1 : Int32)) (own_hi8 c0) := own_rdOf sz5 Ha5 ⟨by decide, by decide⟩ (by rw [show ((((0 : Int32) <<< ((1 : Int32) &&& 31)) + (1 : Int32))).toNatClampNeg = 1 from by decide]; rfl)
  obtain ⟨_, T6, Lc6, X6, hQ6, st6⟩ := own_cS X4 hx hZ (y := own_z51) hown (wd238 hw) (wd239 hw) (wd110 hw) (wd240 hw) (by decide) (rmgc l Z a0 hw [] b4 cl5 (0 : Int32) (own_lo8 c0) (own_hi8 c0) c0 T4.heap n0 (Nat.le_trans (Nat.le_trans (Nat.le_trans Z0 E1.1) Kp2.1) E4.1) EN_4 (own_gcv hb0) Ar5 r0_5 r1_5) 0 (by decide) (g := (mkF m 32 #[.val (.ref a1), .val (.int (0 : Int32)), .val (.int (2 : Int32)), .val (.ref b1), .val (.int (0 : Int32)), .val (.ref b4)] [(.int (0 : Int32)), (.ref b4)])) rfl hml.symm [(.ref b4), (.int (0 : Int32))] [] (lenOf pd_gc rfl) rfl rfl (hb hby d18_32) rfl rfl
  obtain ⟨rfl, N6q, q6⟩ := hQ6
  have N6 := Fr.app N4 N6q
  have pre7 : own_pr p e below PP T6 (mkF m 56 #[.val (.ref a1), .val (.int (0 : Int32)), .val (.int (2 : Int32)), .val (.ref b1), .val (.int (0 : Int32)), .val (.ref b4)] [(.ref b4)]) := fun τ κ => pre3 τ (by
   show own_st p e below T2 (mkF m 12 #[.val (.ref a1), .val (.int (0 : Int32)), .val (.int (2 : Int32)), .val (.ref b1), .unset, .unset] [(.int (0 : Int32))]) _
   refine XS.istore X2.here hx rfl (hb hby d18_12) rfl (l' := #[.val (.ref a1), .val (.int (0 : Int32)), .val (.int (2 : Int32)), .val (.ref b1), .val (.int (0 : Int32)), .unset]) rfl ?_
   refine XS.iload X2.here hx rfl (hb hby d18_14) rfl ?_
   refine XS.iloadN X2.here hx rfl (hb hby d18_16) rfl ?_
   refine XS.icmpNo X2.here hx rfl (hb hby d18_17) rfl (feq (by decide : ¬ ((0 : Int32) = (2 : Int32)))).1 ?_
   refine XS.aloadN X2.here hx rfl (hb hby d18_20) rfl rfl ?_
   refine XS.iloadN X2.here hx rfl (hb hby d18_21) rfl ?_
   refine XS.iloadN X2.here hx rfl (hb hby d18_22) rfl ?_
   refine st4 _ ?_
   refine XS.astore X4.here hx rfl (hb hby d18_26) rfl rfl (l' := #[.val (.ref a1), .val (.int (0 : Int32)), .val (.int (2 : Int32)), .val (.ref b1), .val (.int (0 : Int32)), .val (.ref b4)]) rfl ?_
   refine XS.aload X4.here hx rfl (hb hby d18_28) rfl rfl ?_
   refine XS.iload X4.here hx rfl (hb hby d18_30) rfl ?_
   refine st6 _ ?_
   refine XS.sipush X6.here hx rfl (hb hby d18_35) ?_
   refine XS.icmpYes X6.here hx rfl (pc0 := 38) (pc' := 54) rfl (hb hby d18_38) rfl (tlt hcw).2.2.1 (by decide) (by decide) ?_
   refine XS.aload X6.here hx rfl (hb hby d18_54) rfl rfl ?_
   exact κ)
  obtain ⟨fs8, hr8, hrun8, hended8, hW8, hsame8⟩ := X6.leave (v := some (.ref b4)) (fun h => by rw [Bd.returns] at h; cases h)
  refine ⟨_, _, hPs _ (pre7 _ ?_), hrun8, hended8, _, _, rfl, ?_, ⟨_, rfl⟩, hW8, hsame8.mono (by decide) (by decide)⟩
  ·show own_st p e below T6 (mkF m 56 #[.val (.ref a1), .val (.int (0 : Int32)), .val (.int (2 : Int32)), .val (.ref b1), .val (.int (0 : Int32)), .val (.ref b4)] [(.ref b4)]) _
   exact retOut X6 hx (t := (.array .byte)) Bd.returns rfl (Or.inr (Or.inr (Or.inr (Or.inr ⟨rfl, rfl, rfl⟩)))) (hb hby d18_56) hr8
  ·show Qcz2 Z a1 kc c0 c1 h0 n0 _ T6.heap _
   rw [q6]
   exact ⟨_, _, 1, _, _, rfl, N6, own_ext K4, V4, Or.inr ⟨rfl, rfl, rfl, ⟨c0, by simp, hcw⟩⟩⟩
 ·obtain ⟨_, T9, Lc9, X9, hQ9, st9⟩ := own_cS X2 hx hZ (y := own_z47) hown (wd222 hw) (wd223 hw) (wd110 hw) (wd224 hw) (by decide) (rmtb2 l Z a0 hw [] a1 kc c0 c1 T2.heap n0 (Nat.le_trans (Nat.le_trans Z0 E1.1) Kp2.1) Ac_2 EN_2) 0 (by decide) (g := (mkF m 23 #[.val (.ref a1), .val (.int (0 : Int32)), .val (.int (2 : Int32)), .val (.ref b1), .val (.int (1 : Int32)), .unset] [(.int (2 : Int32)), (.int (0 : Int32)), (.ref a1)])) rfl hml.symm [(.ref a1), (.int (0 : Int32)), (.int (2 : Int32))] [] (lenOf pd_tb1 rfl) rfl rfl (hb hby d18_23) rfl rfl
  obtain ⟨b9, kb9, rfl, N9q, E9, V9⟩ := hQ9
  have N9 := Fr.app N2 N9q
  have Ac_9 := Ac_2.ext E9
  have EN_9 := EN_2.ext E9
  have K9 := K2.ext E9
  have Vc10 := V9
  obtain ⟨cl10, Ar10, qq10, sz10, nn10, Ha10, Gf10⟩ := Vc10
  have r0_10 : own_rd cl10 ((1 : Int32) <<< ((1 : Int32) &&& 31)) (own_lo8 c1) := own_rdOf sz10 Ha10 ⟨by decide, by decide⟩ (by rw [show (((1 : Int32) <<< ((1 : Int32) &&& 31))).toNatClampNeg = 2 from by decide]; rfl)
  have r1_10 : own_rd cl10 (((1 : Int32) <<< ((1 : Int32) &&& 31)) + (1 : Int32)) (own_hi8 c1) := own_rdOf sz10 Ha10 ⟨by decide, by decide⟩ (by rw [show ((((1 : Int32) <<< ((1 : Int32) &&& 31)) + (1 : Int32))).toNatClampNeg = 3 from by decide]; rfl)
  obtain ⟨_, T11, Lc11, X11, hQ11, st11⟩ := own_cS X9 hx hZ (y := own_z51) hown (wd238 hw) (wd239 hw) (wd110 hw) (wd240 hw) (by decide) (rmgc l Z a0 hw [] b9 cl10 (1 : Int32) (own_lo8 c1) (own_hi8 c1) c1 T9.heap n0 (Nat.le_trans (Nat.le_trans (Nat.le_trans Z0 E1.1) Kp2.1) E9.1) EN_9 (own_gcv hb1) Ar10 r0_10 r1_10) 0 (by decide) (g := (mkF m 32 #[.val (.ref a1), .val (.int (0 : Int32)), .val (.int (2 : Int32)), .val (.ref b1), .val (.int (1 : Int32)), .val (.ref b9)] [(.int (1 : Int32)), (.ref b9)])) rfl hml.symm [(.ref b9), (.int (1 : Int32))] [] (lenOf pd_gc rfl) rfl rfl (hb hby d18_32) rfl rfl
  obtain ⟨rfl, N11q, q11⟩ := hQ11
  have N11 := Fr.app N9 N11q
  have pre12 : own_pr p e below PP T11 (mkF m 56 #[.val (.ref a1), .val (.int (0 : Int32)), .val (.int (2 : Int32)), .val (.ref b1), .val (.int (1 : Int32)), .val (.ref b9)] [(.ref b9)]) := fun τ κ => pre3 τ (by
   show own_st p e below T2 (mkF m 12 #[.val (.ref a1), .val (.int (0 : Int32)), .val (.int (2 : Int32)), .val (.ref b1), .unset, .unset] [(.int (1 : Int32))]) _
   refine XS.istore X2.here hx rfl (hb hby d18_12) rfl (l' := #[.val (.ref a1), .val (.int (0 : Int32)), .val (.int (2 : Int32)), .val (.ref b1), .val (.int (1 : Int32)), .unset]) rfl ?_
   refine XS.iload X2.here hx rfl (hb hby d18_14) rfl ?_
   refine XS.iloadN X2.here hx rfl (hb hby d18_16) rfl ?_
   refine XS.icmpNo X2.here hx rfl (hb hby d18_17) rfl (feq (by decide : ¬ ((1 : Int32) = (2 : Int32)))).1 ?_
   refine XS.aloadN X2.here hx rfl (hb hby d18_20) rfl rfl ?_
   refine XS.iloadN X2.here hx rfl (hb hby d18_21) rfl ?_
   refine XS.iloadN X2.here hx rfl (hb hby d18_22) rfl ?_
   refine st9 _ ?_
   refine XS.astore X9.here hx rfl (hb hby d18_26) rfl rfl (l' := #[.val (.ref a1), .val (.int (0 : Int32)), .val (.int (2 : Int32)), .val (.ref b1), .val (.int (1 : Int32)), .val (.ref b9)]) rfl ?_
   refine XS.aload X9.here hx rfl (hb hby d18_28) rfl rfl ?_
   refine XS.iload X9.here hx rfl (hb hby d18_30) rfl ?_
   refine st11 _ ?_
   refine XS.sipush X11.here hx rfl (hb hby d18_35) ?_
   refine XS.icmpYes X11.here hx rfl (pc0 := 38) (pc' := 54) rfl (hb hby d18_38) rfl (tlt hcw).2.2.1 (by decide) (by decide) ?_
   refine XS.aload X11.here hx rfl (hb hby d18_54) rfl rfl ?_
   exact κ)
  obtain ⟨fs13, hr13, hrun13, hended13, hW13, hsame13⟩ := X11.leave (v := some (.ref b9)) (fun h => by rw [Bd.returns] at h; cases h)
  refine ⟨_, _, hPs _ (pre12 _ ?_), hrun13, hended13, _, _, rfl, ?_, ⟨_, rfl⟩, hW13, hsame13.mono (by decide) (by decide)⟩
  ·show own_st p e below T11 (mkF m 56 #[.val (.ref a1), .val (.int (0 : Int32)), .val (.int (2 : Int32)), .val (.ref b1), .val (.int (1 : Int32)), .val (.ref b9)] [(.ref b9)]) _
   exact retOut X11 hx (t := (.array .byte)) Bd.returns rfl (Or.inr (Or.inr (Or.inr (Or.inr ⟨rfl, rfl, rfl⟩)))) (hb hby d18_56) hr13
  ·show Qcz2 Z a1 kc c0 c1 h0 n0 _ T11.heap _
   rw [q11]
   exact ⟨_, _, 1, _, _, rfl, N11, own_ext K9, V9, Or.inr ⟨rfl, rfl, rfl, ⟨c1, by simp, hcw⟩⟩⟩
 ·have pre14 : own_pr p e below PP T2 (mkF m 58 #[.val (.ref a1), .val (.int (0 : Int32)), .val (.int (2 : Int32)), .val (.ref b1), .val (.int (2 : Int32)), .unset] [(.ref b1)]) := fun τ κ => pre3 τ (by
   show own_st p e below T2 (mkF m 12 #[.val (.ref a1), .val (.int (0 : Int32)), .val (.int (2 : Int32)), .val (.ref b1), .unset, .unset] [(.int (2 : Int32))]) _
   refine XS.istore X2.here hx rfl (hb hby d18_12) rfl (l' := #[.val (.ref a1), .val (.int (0 : Int32)), .val (.int (2 : Int32)), .val (.ref b1), .val (.int (2 : Int32)), .unset]) rfl ?_
   refine XS.iload X2.here hx rfl (hb hby d18_14) rfl ?_
   refine XS.iloadN X2.here hx rfl (hb hby d18_16) rfl ?_
   refine XS.icmpYes X2.here hx rfl (pc0 := 17) (pc' := 57) rfl (hb hby d18_17) rfl (teq (by decide : (2 : Int32) = (2 : Int32))).1 (by decide) (by decide) ?_
   refine XS.aloadN X2.here hx rfl (hb hby d18_57) rfl rfl ?_
   exact κ)
  obtain ⟨fs15, hr15, hrun15, hended15, hW15, hsame15⟩ := X2.leave (v := some (.ref b1)) (fun h => by rw [Bd.returns] at h; cases h)
  refine ⟨_, _, hPs _ (pre14 _ ?_), hrun15, hended15, _, _, rfl, ?_, ⟨_, rfl⟩, hW15, hsame15.mono (by decide) (by decide)⟩
  ·show own_st p e below T2 (mkF m 58 #[.val (.ref a1), .val (.int (0 : Int32)), .val (.int (2 : Int32)), .val (.ref b1), .val (.int (2 : Int32)), .unset] [(.ref b1)]) _
   exact retOut X2 hx (t := (.array .byte)) Bd.returns rfl (Or.inr (Or.inr (Or.inr (Or.inr ⟨rfl, rfl, rfl⟩)))) (hb hby d18_58) hr15
  ·show Qcz2 Z a1 kc c0 c1 h0 n0 _ T2.heap _
   exact ⟨_, _, 0, _, _, rfl, N2, own_ext K2, hvl, Or.inl ⟨rfl, rfl, rfl, List.forall_mem_cons.mpr ⟨hcl.1, List.forall_mem_cons.mpr ⟨hcl.2, fun _ q => nomatch q⟩⟩⟩⟩


def Qca2_1 (Z : State) (a1 : Addr) (k1 : ClassId) (vs : List Value) (h0 : Heap) (n0 : Nat) (v : Option Value) (h : Heap) (L : List Loc) : Prop := v = some (.int (1 : Int32)) ∧ Fr n0 L ∧ h = h0
theorem rmca2_1 (l : Launch) (Z : State) (a0 : Array Value) (hw : own_W Z a0) (ws : List Jvm.Cond) (a1 : Addr) (k1 : ClassId) (vs : List Value) (h0 : Heap) (n0 : Nat) (Z0 : n0 ≤ h0.size) (As : Arv Z h0 a1 k1 .byte (4 : Int32) vs (.int 0)) :
  own_M l Z own_z21 own_c22 2 (some .byte) ({ frames := 0, cells := 0, slots := 0, locals := 0 } : Room) ws #[(.ref a1), (.int (2 : Int32))] h0 (Qca2_1 Z a1 k1 vs h0 n0) := by
 refine MetFree.of_bodySF (plainFor_of_name pn_k5) hisR ?_
 intro p e s m args below meth c s₁ Bd hml0 hP hK
 obtain ⟨rfl, hZ, hh⟩ := hP
 have hx := Bd.exec
 have hby := Bd.bytes
 have hml : c.maxLocals = 2 := hml0
 have hown : s.vm.findClass "java/lang/StringUTF16" = some m.cls := findClass_of_methodNamed Bd.named
 have X0 : Stand p l e ({ frames := 0, cells := 0, slots := 0, locals := 0 } : Room) s m #[(.ref a1), (.int (2 : Int32))] below meth c s₁ [] 0 0 := Stand.of_body Bd
 have e0 : s₁.heap = h0 := by rw [← hh, Bd.state]; rfl
 have N0 := Fr.nil n0
 obtain ⟨PP, hPs, pre0⟩ : ∃ PP : State → Prop, (∀ t, PP t → Steps p.tables e below (s₁.setTop (entryFrame m #[(.ref a1), (.int (2 : Int32))] 2)) t) ∧ own_pr p e below PP s₁ (mkF m 0 #[.val (.ref a1), .val (.int (2 : Int32))] []) := ⟨_, fun _ κ => κ, fun τ κ => castTop (ef_gc m a1 (2 : Int32)) κ⟩
 have Vc1 := As
 obtain ⟨cl1, Ar1, qq1, sz1, nn1, Ha1, Gf1⟩ := Vc1
 have pre2 : own_pr p e below PP s₁ (mkF m 8 #[.val (.ref a1), .val (.int (2 : Int32))] [(.int (1 : Int32))]) := fun τ κ => pre0 τ (by
  show own_st p e below s₁ (mkF m 0 #[.val (.ref a1), .val (.int (2 : Int32))] []) _
  refine XS.iloadN X0.here hx rfl (hb hby d20_0) rfl ?_
  refine XS.aloadN X0.here hx rfl (hb hby d20_1) rfl rfl ?_
  refine X0.arraylength hx (by rw [e0]; exact Ar1.1) (State.isArrayOf_alike hZ.alike Ar1.2.1) (g := (mkF m 2 #[.val (.ref a1), .val (.int (2 : Int32))] [(.ref a1), (.int (2 : Int32))])) rfl rfl (hb hby d20_2) _ ?_
  rw [len_of sz1 nn1]
  refine XS.isub X0.here hx rfl (hb hby d20_3) rfl ?_
  show own_st p e below s₁ (mkF m 4 #[.val (.ref a1), .val (.int (2 : Int32))] [(.int ((2 : Int32) - (4 : Int32)))]) _
  rw [show ((2 : Int32) - (4 : Int32)) = (-2 : Int32) from by decide]
  refine XS.bipush X0.here hx rfl (hb hby d20_4) ?_
  refine XS.iushr X0.here hx rfl (hb hby d20_6) rfl ?_
  show own_st p e below s₁ (mkF m 7 #[.val (.ref a1), .val (.int (2 : Int32))] [(.int (((-2 : Int32).toUInt32 >>> ((31 : Int32) &&& 31).toUInt32).toInt32))]) _
  rw [show (((-2 : Int32).toUInt32 >>> ((31 : Int32) &&& 31).toUInt32).toInt32) = (1 : Int32) from by decide]
  refine XS.i2b X0.here hx rfl (hb hby d20_7) rfl ?_
  show own_st p e below s₁ (mkF m 8 #[.val (.ref a1), .val (.int (2 : Int32))] [(.int ((1 : Int32).toInt8.toInt32))]) _
  rw [show ((1 : Int32).toInt8.toInt32) = (1 : Int32) from by decide]
  exact κ)
 obtain ⟨fs3, hr3, hrun3, hended3, hW3, hsame3⟩ := X0.leave (v := some (.int (1 : Int32))) (fun h => by rw [Bd.returns] at h; cases h)
 refine ⟨_, _, hPs _ (pre2 _ ?_), hrun3, hended3, _, _, rfl, ?_, ⟨_, rfl⟩, hW3, hsame3.mono (by decide) (by decide)⟩
 ·show own_st p e below s₁ (mkF m 8 #[.val (.ref a1), .val (.int (2 : Int32))] [(.int (1 : Int32))]) _
  exact retN X0 hx (t := .byte) Bd.returns (by simp) (hb hby d20_8) hr3
 ·show Qca2_1 Z a1 k1 vs h0 n0 _ s₁.heap _
  rw [e0]
  exact ⟨rfl, N0, rfl⟩


def Qca2_0 (Z : State) (a1 : Addr) (k1 : ClassId) (vs : List Value) (h0 : Heap) (n0 : Nat) (v : Option Value) (h : Heap) (L : List Loc) : Prop := v = some (.int (0 : Int32)) ∧ Fr n0 L ∧ h = h0
theorem rmca2_0 (l : Launch) (Z : State) (a0 : Array Value) (hw : own_W Z a0) (ws : List Jvm.Cond) (a1 : Addr) (k1 : ClassId) (vs : List Value) (h0 : Heap) (n0 : Nat) (Z0 : n0 ≤ h0.size) (As : Arv Z h0 a1 k1 .byte (2 : Int32) vs (.int 0)) :
  own_M l Z own_z21 own_c22 2 (some .byte) ({ frames := 0, cells := 0, slots := 0, locals := 0 } : Room) ws #[(.ref a1), (.int (2 : Int32))] h0 (Qca2_0 Z a1 k1 vs h0 n0) := by
 refine MetFree.of_bodySF (plainFor_of_name pn_k5) hisR ?_
 intro p e s m args below meth c s₁ Bd hml0 hP hK
 obtain ⟨rfl, hZ, hh⟩ := hP
 have hx := Bd.exec
 have hby := Bd.bytes
 have hml : c.maxLocals = 2 := hml0
 have hown : s.vm.findClass "java/lang/StringUTF16" = some m.cls := findClass_of_methodNamed Bd.named
 have X0 : Stand p l e ({ frames := 0, cells := 0, slots := 0, locals := 0 } : Room) s m #[(.ref a1), (.int (2 : Int32))] below meth c s₁ [] 0 0 := Stand.of_body Bd
 have e0 : s₁.heap = h0 := by rw [← hh, Bd.state]; rfl
 have N0 := Fr.nil n0
 obtain ⟨PP, hPs, pre0⟩ : ∃ PP : State → Prop, (∀ t, PP t → Steps p.tables e below (s₁.setTop (entryFrame m #[(.ref a1), (.int (2 : Int32))] 2)) t) ∧ own_pr p e below PP s₁ (mkF m 0 #[.val (.ref a1), .val (.int (2 : Int32))] []) := ⟨_, fun _ κ => κ, fun τ κ => castTop (ef_gc m a1 (2 : Int32)) κ⟩
 have Vc1 := As
 obtain ⟨cl1, Ar1, qq1, sz1, nn1, Ha1, Gf1⟩ := Vc1
 have pre2 : own_pr p e below PP s₁ (mkF m 8 #[.val (.ref a1), .val (.int (2 : Int32))] [(.int (0 : Int32))]) := fun τ κ => pre0 τ (by
  show own_st p e below s₁ (mkF m 0 #[.val (.ref a1), .val (.int (2 : Int32))] []) _
  refine XS.iloadN X0.here hx rfl (hb hby d20_0) rfl ?_
  refine XS.aloadN X0.here hx rfl (hb hby d20_1) rfl rfl ?_
  refine X0.arraylength hx (by rw [e0]; exact Ar1.1) (State.isArrayOf_alike hZ.alike Ar1.2.1) (g := (mkF m 2 #[.val (.ref a1), .val (.int (2 : Int32))] [(.ref a1), (.int (2 : Int32))])) rfl rfl (hb hby d20_2) _ ?_
  rw [len_of sz1 nn1]
  refine XS.isub X0.here hx rfl (hb hby d20_3) rfl ?_
  show own_st p e below s₁ (mkF m 4 #[.val (.ref a1), .val (.int (2 : Int32))] [(.int ((2 : Int32) - (2 : Int32)))]) _
  rw [show ((2 : Int32) - (2 : Int32)) = (0 : Int32) from by decide]
  refine XS.bipush X0.here hx rfl (hb hby d20_4) ?_
  refine XS.iushr X0.here hx rfl (hb hby d20_6) rfl ?_
  show own_st p e below s₁ (mkF m 7 #[.val (.ref a1), .val (.int (2 : Int32))] [(.int (((0 : Int32).toUInt32 >>> ((31 : Int32) &&& 31).toUInt32).toInt32))]) _
  rw [show (((0 : Int32).toUInt32 >>> ((31 : Int32) &&& 31).toUInt32).toInt32) = (0 : Int32) from by decide]
  refine XS.i2b X0.here hx rfl (hb hby d20_7) rfl ?_
  show own_st p e below s₁ (mkF m 8 #[.val (.ref a1), .val (.int (2 : Int32))] [(.int ((0 : Int32).toInt8.toInt32))]) _
  rw [show ((0 : Int32).toInt8.toInt32) = (0 : Int32) from by decide]
  exact κ)
 obtain ⟨fs3, hr3, hrun3, hended3, hW3, hsame3⟩ := X0.leave (v := some (.int (0 : Int32))) (fun h => by rw [Bd.returns] at h; cases h)
 refine ⟨_, _, hPs _ (pre2 _ ?_), hrun3, hended3, _, _, rfl, ?_, ⟨_, rfl⟩, hW3, hsame3.mono (by decide) (by decide)⟩
 ·show own_st p e below s₁ (mkF m 8 #[.val (.ref a1), .val (.int (2 : Int32))] [(.int (0 : Int32))]) _
  exact retN X0 hx (t := .byte) Bd.returns (by simp) (hb hby d20_8) hr3
 ·show Qca2_0 Z a1 k1 vs h0 n0 _ s₁.heap _
  rw [e0]
  exact ⟨rfl, N0, rfl⟩


def Qtb3 (Z : State) (a1 : Addr) (kc : ClassId) (c0 c1 c2 : Int32) (h0 : Heap) (n0 : Nat) (v : Option Value) (h : Heap) (L : List Loc) : Prop := ∃ b kb, v = some (.ref b) ∧ Fr n0 L ∧ Ext h0 h ∧ Arv Z h b kb .byte (6 : Int32) (own_wb [c0, c1, c2]) (.int 0)
theorem rmtb3 (l : Launch) (Z : State) (a0 : Array Value) (hw : own_W Z a0) (ws : List Jvm.Cond) (a1 : Addr) (kc : ClassId) (c0 c1 c2 : Int32) (h0 : Heap) (n0 : Nat) (Z0 : n0 ≤ h0.size) (Ac : Arv Z h0 a1 kc .char (3 : Int32) ([c0, c1, c2].map Value.int) (.int 0)) (EN : own_env Z h0) :
  own_M l Z own_z47 own_c19 5 (some (.array .byte)) ({ frames := 2, cells := 1, slots := 6, locals := 24 } : Room) ws #[(.ref a1), (.int (0 : Int32)), (.int (3 : Int32))] h0 (Qtb3 Z a1 kc c0 c1 c2 h0 n0) := by
 refine MetFree.of_bodySF (plainFor_of_name pn_k5) hisR ?_
 intro p e s m args below meth c s₁ Bd hml0 hP hK
 obtain ⟨rfl, hZ, hh⟩ := hP
 have hx := Bd.exec
 have hby := Bd.bytes
 have hml : c.maxLocals = 5 := hml0
 have hown : s.vm.findClass "java/lang/StringUTF16" = some m.cls := findClass_of_methodNamed Bd.named
 have X0 : Stand p l e ({ frames := 2, cells := 1, slots := 6, locals := 24 } : Room) s m #[(.ref a1), (.int (0 : Int32)), (.int (3 : Int32))] below meth c s₁ [] 0 0 := Stand.of_body Bd
 have e0 : s₁.heap = h0 := by rw [← hh, Bd.state]; rfl
 have N0 := Fr.nil n0
 obtain ⟨PP, hPs, pre0⟩ : ∃ PP : State → Prop, (∀ t, PP t → Steps p.tables e below (s₁.setTop (entryFrame m #[(.ref a1), (.int (0 : Int32)), (.int (3 : Int32))] 5)) t) ∧ own_pr p e below PP s₁ (mkF m 0 #[.val (.ref a1), .val (.int (0 : Int32)), .val (.int (3 : Int32)), .unset, .unset] []) := ⟨_, fun _ κ => κ, fun τ κ => castTop (ef_tb1 m a1 (0 : Int32) (3 : Int32)) κ⟩
 obtain ⟨_, T1, Lc1, X1, hQ1, st1⟩ := own_cS X0 hx hZ (y := own_z48) hown (wd225 hw) (wd226 hw) (wd110 hw) (wd227 hw) (by decide) (rmbf3 l Z a0 hw [] h0 n0 Z0) 0 (by decide) (g := (mkF m 1 #[.val (.ref a1), .val (.int (0 : Int32)), .val (.int (3 : Int32)), .unset, .unset] [(.int (3 : Int32))])) rfl hml.symm [(.int (3 : Int32))] [] (lenOf pd_bf1 rfl) rfl rfl (hb hby d45_1) e0 rfl
 obtain ⟨b1, kb1, rfl, N1q, E1, gz1, V1⟩ := hQ1
 have N1 := Fr.app N0 N1q
 have Ac_1 := Ac.ext E1
 have EN_1 := EN.ext E1
 have K1 := (Keep.refl h0 []).ext E1
 have nab : a1 ≠ b1 := Nat.ne_of_lt (Nat.lt_of_lt_of_le Ac.lt gz1)
 have Vc2 := Ac_1
 obtain ⟨cl2, Ar2, qq2, sz2, nn2, Ha2, Gf2⟩ := Vc2
 have hin2 : ¬ ((0 : Int32) < 0 ∨ cl2.slots.size ≤ ((0 : Int32)).toNatClampNeg) := inb_of sz2 ⟨by decide, by decide⟩
 obtain ⟨_, T3, Lc3, X3, hQ3, st3⟩ := own_cS X1 hx hZ (y := own_z50) hown (wd232 hw) (wd233 hw) (wd110 hw) (wd234 hw) (by decide) (rmpc l Z a0 hw [] b1 kb1 (6 : Int32) [.int 0, .int 0, .int 0, .int 0, .int 0, .int 0] 0 (0 : Int32) c0 T1.heap n0 (Nat.le_trans Z0 E1.1) EN_1 V1 (Nat.le_trans Z0 gz1) ⟨by decide, by decide⟩ ⟨by decide, by decide⟩ (by decide) (by decide) (Nat.le_of_ble_eq_true rfl) (Nat.le_of_ble_eq_true rfl)) 0 (by decide) (g := (mkF m 20 #[.val (.ref a1), .val (.int (0 : Int32)), .val (.int (3 : Int32)), .val (.ref b1), .val (.int (0 : Int32))] [(.int c0), (.int (0 : Int32)), (.ref b1)])) rfl hml.symm [(.ref b1), (.int (0 : Int32)), (.int c0)] [] (lenOf pd_pc rfl) rfl rfl (hb hby d45_20) rfl rfl
 obtain ⟨rfl, N3q, Kp3, Vn3⟩ := hQ3
 have N3 := Fr.app N1 N3q
 have Ac_3 := Ac_1.keep Kp3 (ninS nab nin0)
 have EN_3 := EN_1.keep Kp3 V1.nostat
 have K3 := K1.trans Kp3 (fun x hx => by cases List.mem_singleton.mp hx; exact Or.inr gz1)
 have Vx3 : Arv Z T3.heap b1 kb1 .byte (6 : Int32) [.int (own_lo8 c0), .int (own_hi8 c0), .int 0, .int 0, .int 0, .int 0] (.int 0) := Vn3
 have Vc4 := Ac_3
 obtain ⟨cl4, Ar4, qq4, sz4, nn4, Ha4, Gf4⟩ := Vc4
 have hin4 : ¬ ((1 : Int32) < 0 ∨ cl4.slots.size ≤ ((1 : Int32)).toNatClampNeg) := inb_of sz4 ⟨by decide, by decide⟩
 obtain ⟨_, T5, Lc5, X5, hQ5, st5⟩ := own_cS X3 hx hZ (y := own_z50) hown (wd232 hw) (wd233 hw) (wd110 hw) (wd234 hw) (by decide) (rmpc l Z a0 hw [] b1 kb1 (6 : Int32) [.int (own_lo8 c0), .int (own_hi8 c0), .int 0, .int 0, .int 0, .int 0] 2 (1 : Int32) c1 T3.heap n0 (Nat.le_trans (Nat.le_trans Z0 E1.1) Kp3.1) EN_3 Vx3 (Nat.le_trans Z0 gz1) ⟨by decide, by decide⟩ ⟨by decide, by decide⟩ (by decide) (by decide) (Nat.le_of_ble_eq_true rfl) (Nat.le_of_ble_eq_true rfl)) 0 (by decide) (g := (mkF m 20 #[.val (.ref a1), .val (.int (1 : Int32)), .val (.int (3 : Int32)), .val (.ref b1), .val (.int (1 : Int32))] [(.int c1), (.int (1 : Int32)), (.ref b1)])) rfl hml.symm [(.ref b1), (.int (1 : Int32)), (.int c1)] [] (lenOf pd_pc rfl) rfl rfl (hb hby d45_20) rfl rfl
 obtain ⟨rfl, N5q, Kp5, Vn5⟩ := hQ5
 have N5 := Fr.app N3 N5q
 have Ac_5 := Ac_3.keep Kp5 (ninS nab nin0)
 have EN_5 := EN_3.keep Kp5 Vx3.nostat
 have K5 := K3.trans Kp5 (fun x hx => by cases List.mem_singleton.mp hx; exact Or.inr gz1)
 have Vx5 : Arv Z T5.heap b1 kb1 .byte (6 : Int32) [.int (own_lo8 c0), .int (own_hi8 c0), .int (own_lo8 c1), .int (own_hi8 c1), .int 0, .int 0] (.int 0) := Vn5
 have Vc6 := Ac_5
 obtain ⟨cl6, Ar6, qq6, sz6, nn6, Ha6, Gf6⟩ := Vc6
 have hin6 : ¬ ((2 : Int32) < 0 ∨ cl6.slots.size ≤ ((2 : Int32)).toNatClampNeg) := inb_of sz6 ⟨by decide, by decide⟩
 obtain ⟨_, T7, Lc7, X7, hQ7, st7⟩ := own_cS X5 hx hZ (y := own_z50) hown (wd232 hw) (wd233 hw) (wd110 hw) (wd234 hw) (by decide) (rmpc l Z a0 hw [] b1 kb1 (6 : Int32) [.int (own_lo8 c0), .int (own_hi8 c0), .int (own_lo8 c1), .int (own_hi8 c1), .int 0, .int 0] 4 (2 : Int32) c2 T5.heap n0 (Nat.le_trans (Nat.le_trans (Nat.le_trans Z0 E1.1) Kp3.1) Kp5.1) EN_5 Vx5 (Nat.le_trans Z0 gz1) ⟨by decide, by decide⟩ ⟨by decide, by decide⟩ (by decide) (by decide) (Nat.le_of_ble_eq_true rfl) (Nat.le_of_ble_eq_true rfl)) 0 (by decide) (g := (mkF m 20 #[.val (.ref a1), .val (.int (2 : Int32)), .val (.int (3 : Int32)), .val (.ref b1), .val (.int (2 : Int32))] [(.int c2), (.int (2 : Int32)), (.ref b1)])) rfl hml.symm [(.ref b1), (.int (2 : Int32)), (.int c2)] [] (lenOf pd_pc rfl) rfl rfl (hb hby d45_20) rfl rfl
 obtain ⟨rfl, N7q, Kp7, Vn7⟩ := hQ7
 have N7 := Fr.app N5 N7q
 have Ac_7 := Ac_5.keep Kp7 (ninS nab nin0)
 have EN_7 := EN_5.keep Kp7 Vx5.nostat
 have K7 := K5.trans Kp7 (fun x hx => by cases List.mem_singleton.mp hx; exact Or.inr gz1)
 have Vx7 : Arv Z T7.heap b1 kb1 .byte (6 : Int32) [.int (own_lo8 c0), .int (own_hi8 c0), .int (own_lo8 c1), .int (own_hi8 c1), .int (own_lo8 c2), .int (own_hi8 c2)] (.int 0) := Vn7
 have pre8 : own_pr p e below PP T7 (mkF m 33 #[.val (.ref a1), .val (.int (3 : Int32)), .val (.int (3 : Int32)), .val (.ref b1), .val (.int (3 : Int32))] [(.ref b1)]) := fun τ κ => pre0 τ (by
  show own_st p e below s₁ (mkF m 0 #[.val (.ref a1), .val (.int (0 : Int32)), .val (.int (3 : Int32)), .unset, .unset] []) _
  refine XS.iloadN X0.here hx rfl (hb hby d45_0) rfl ?_
  refine st1 _ ?_
  refine XS.astoreN X1.here hx rfl (hb hby d45_4) rfl rfl (l' := #[.val (.ref a1), .val (.int (0 : Int32)), .val (.int (3 : Int32)), .val (.ref b1), .unset]) rfl ?_
  refine XS.iconst X1.here hx rfl (hb hby d45_5) ?_
  refine XS.istore X1.here hx rfl (hb hby d45_6) rfl (l' := #[.val (.ref a1), .val (.int (0 : Int32)), .val (.int (3 : Int32)), .val (.ref b1), .val (.int (0 : Int32))]) rfl ?_
  refine XS.iload X1.here hx rfl (hb hby d45_8) rfl ?_
  refine XS.iloadN X1.here hx rfl (hb hby d45_10) rfl ?_
  refine XS.icmpNo X1.here hx rfl (hb hby d45_11) rfl (tlt (by decide : (0 : Int32) < (3 : Int32))).2.1 ?_
  refine XS.aloadN X1.here hx rfl (hb hby d45_14) rfl rfl ?_
  refine XS.iload X1.here hx rfl (hb hby d45_15) rfl ?_
  refine XS.aloadN X1.here hx rfl (hb hby d45_17) rfl rfl ?_
  refine XS.iloadN X1.here hx rfl (hb hby d45_18) rfl ?_
  refine X1.caload hx (j := (0 : Int32)) (v := (.int c0)) Ar2.1 (State.isArrayOf_alike hZ.alike Ar2.2.1) Ar2.2.2 hin2 (Has.at Ha2 hin2 rfl) (g := (mkF m 19 #[.val (.ref a1), .val (.int (0 : Int32)), .val (.int (3 : Int32)), .val (.ref b1), .val (.int (0 : Int32))] [(.int (0 : Int32)), (.ref a1), (.int (0 : Int32)), (.ref b1)])) rfl rfl (hb hby d45_19) _ ?_
  refine st3 _ ?_
  refine XS.iinc X3.here hx rfl (hb hby d45_23) rfl (l' := #[.val (.ref a1), .val (.int ((0 : Int32) + (1 : Int32))), .val (.int (3 : Int32)), .val (.ref b1), .val (.int (0 : Int32))]) rfl ?_
  show own_st p e below T3 (mkF m 26 #[.val (.ref a1), .val (.int ((0 : Int32) + (1 : Int32))), .val (.int (3 : Int32)), .val (.ref b1), .val (.int (0 : Int32))] []) _
  rw [show ((0 : Int32) + (1 : Int32)) = (1 : Int32) from by decide]
  refine XS.iinc X3.here hx rfl (hb hby d45_26) rfl (l' := #[.val (.ref a1), .val (.int (1 : Int32)), .val (.int (3 : Int32)), .val (.ref b1), .val (.int ((0 : Int32) + (1 : Int32)))]) rfl ?_
  show own_st p e below T3 (mkF m 29 #[.val (.ref a1), .val (.int (1 : Int32)), .val (.int (3 : Int32)), .val (.ref b1), .val (.int ((0 : Int32) + (1 : Int32)))] []) _
  rw [show ((0 : Int32) + (1 : Int32)) = (1 : Int32) from by decide]
  refine XS.goto X3.here hx rfl (pc0 := 29) (pc' := 8) rfl (hb hby d45_29) (by decide) (by decide) ?_
  refine XS.iload X3.here hx rfl (hb hby d45_8) rfl ?_
  refine XS.iloadN X3.here hx rfl (hb hby d45_10) rfl ?_
  refine XS.icmpNo X3.here hx rfl (hb hby d45_11) rfl (tlt (by decide : (1 : Int32) < (3 : Int32))).2.1 ?_
  refine XS.aloadN X3.here hx rfl (hb hby d45_14) rfl rfl ?_
  refine XS.iload X3.here hx rfl (hb hby d45_15) rfl ?_
  refine XS.aloadN X3.here hx rfl (hb hby d45_17) rfl rfl ?_
  refine XS.iloadN X3.here hx rfl (hb hby d45_18) rfl ?_
  refine X3.caload hx (j := (1 : Int32)) (v := (.int c1)) Ar4.1 (State.isArrayOf_alike hZ.alike Ar4.2.1) Ar4.2.2 hin4 (Has.at Ha4 hin4 rfl) (g := (mkF m 19 #[.val (.ref a1), .val (.int (1 : Int32)), .val (.int (3 : Int32)), .val (.ref b1), .val (.int (1 : Int32))] [(.int (1 : Int32)), (.ref a1), (.int (1 : Int32)), (.ref b1)])) rfl rfl (hb hby d45_19) _ ?_
  refine st5 _ ?_
  refine XS.iinc X5.here hx rfl (hb hby d45_23) rfl (l' := #[.val (.ref a1), .val (.int ((1 : Int32) + (1 : Int32))), .val (.int (3 : Int32)), .val (.ref b1), .val (.int (1 : Int32))]) rfl ?_
  show own_st p e below T5 (mkF m 26 #[.val (.ref a1), .val (.int ((1 : Int32) + (1 : Int32))), .val (.int (3 : Int32)), .val (.ref b1), .val (.int (1 : Int32))] []) _
  rw [show ((1 : Int32) + (1 : Int32)) = (2 : Int32) from by decide]
  refine XS.iinc X5.here hx rfl (hb hby d45_26) rfl (l' := #[.val (.ref a1), .val (.int (2 : Int32)), .val (.int (3 : Int32)), .val (.ref b1), .val (.int ((1 : Int32) + (1 : Int32)))]) rfl ?_
  show own_st p e below T5 (mkF m 29 #[.val (.ref a1), .val (.int (2 : Int32)), .val (.int (3 : Int32)), .val (.ref b1), .val (.int ((1 : Int32) + (1 : Int32)))] []) _
  rw [show ((1 : Int32) + (1 : Int32)) = (2 : Int32) from by decide]
  refine XS.goto X5.here hx rfl (pc0 := 29) (pc' := 8) rfl (hb hby d45_29) (by decide) (by decide) ?_
  refine XS.iload X5.here hx rfl (hb hby d45_8) rfl ?_
  refine XS.iloadN X5.here hx rfl (hb hby d45_10) rfl ?_
  refine XS.icmpNo X5.here hx rfl (hb hby d45_11) rfl (tlt (by decide : (2 : Int32) < (3 : Int32))).2.1 ?_
  refine XS.aloadN X5.here hx rfl (hb hby d45_14) rfl rfl ?_
  refine XS.iload X5.here hx rfl (hb hby d45_15) rfl ?_
  refine XS.aloadN X5.here hx rfl (hb hby d45_17) rfl rfl ?_
  refine XS.iloadN X5.here hx rfl (hb hby d45_18) rfl ?_
  refine X5.caload hx (j := (2 : Int32)) (v := (.int c2)) Ar6.1 (State.isArrayOf_alike hZ.alike Ar6.2.1) Ar6.2.2 hin6 (Has.at Ha6 hin6 rfl) (g := (mkF m 19 #[.val (.ref a1), .val (.int (2 : Int32)), .val (.int (3 : Int32)), .val (.ref b1), .val (.int (2 : Int32))] [(.int (2 : Int32)), (.ref a1), (.int (2 : Int32)), (.ref b1)])) rfl rfl (hb hby d45_19) _ ?_
  refine st7 _ ?_
  refine XS.iinc X7.here hx rfl (hb hby d45_23) rfl (l' := #[.val (.ref a1), .val (.int ((2 : Int32) + (1 : Int32))), .val (.int (3 : Int32)), .val (.ref b1), .val (.int (2 : Int32))]) rfl ?_
  show own_st p e below T7 (mkF m 26 #[.val (.ref a1), .val (.int ((2 : Int32) + (1 : Int32))), .val (.int (3 : Int32)), .val (.ref b1), .val (.int (2 : Int32))] []) _
  rw [show ((2 : Int32) + (1 : Int32)) = (3 : Int32) from by decide]
  refine XS.iinc X7.here hx rfl (hb hby d45_26) rfl (l' := #[.val (.ref a1), .val (.int (3 : Int32)), .val (.int (3 : Int32)), .val (.ref b1), .val (.int ((2 : Int32) + (1 : Int32)))]) rfl ?_
  show own_st p e below T7 (mkF m 29 #[.val (.ref a1), .val (.int (3 : Int32)), .val (.int (3 : Int32)), .val (.ref b1), .val (.int ((2 : Int32) + (1 : Int32)))] []) _
  rw [show ((2 : Int32) + (1 : Int32)) = (3 : Int32) from by decide]
  refine XS.goto X7.here hx rfl (pc0 := 29) (pc' := 8) rfl (hb hby d45_29) (by decide) (by decide) ?_
  refine XS.iload X7.here hx rfl (hb hby d45_8) rfl ?_
  refine XS.iloadN X7.here hx rfl (hb hby d45_10) rfl ?_
  refine XS.icmpYes X7.here hx rfl (pc0 := 11) (pc' := 32) rfl (hb hby d45_11) rfl (flt (by decide : ¬ ((3 : Int32) < (3 : Int32)))).2.1 (by decide) (by decide) ?_
  refine XS.aloadN X7.here hx rfl (hb hby d45_32) rfl rfl ?_
  exact κ)
 obtain ⟨fs9, hr9, hrun9, hended9, hW9, hsame9⟩ := X7.leave (v := some (.ref b1)) (fun h => by rw [Bd.returns] at h; cases h)
 refine ⟨_, _, hPs _ (pre8 _ ?_), hrun9, hended9, _, _, rfl, ?_, ⟨_, rfl⟩, hW9, hsame9.mono (by decide) (by decide)⟩
 ·show own_st p e below T7 (mkF m 33 #[.val (.ref a1), .val (.int (3 : Int32)), .val (.int (3 : Int32)), .val (.ref b1), .val (.int (3 : Int32))] [(.ref b1)]) _
  exact retOut X7 hx (t := (.array .byte)) Bd.returns rfl (Or.inr (Or.inr (Or.inr (Or.inr ⟨rfl, rfl, rfl⟩)))) (hb hby d45_33) hr9
 ·show Qtb3 Z a1 kc c0 c1 c2 h0 n0 _ T7.heap _
  exact ⟨_, _, rfl, N7, own_ext K7, Vx7⟩


def Qcp3 (Z : State) (a1 a2 : Addr) (kc kd : ClassId) (c0 c1 c2 : Int32) (h0 : Heap) (n0 : Nat) (v : Option Value) (h : Heap) (L : List Loc) : Prop := ∃ j : Int32, v = some (.int j) ∧ Fr n0 L ∧ Keep h0 h [a2] ∧ ((j = (0 : Int32) ∧ (255 : Int32) < c0) ∨ (j = (1 : Int32) ∧ (255 : Int32) < c1) ∨ (j = (2 : Int32) ∧ (255 : Int32) < c2) ∨ (j = (3 : Int32) ∧ (¬ (255 : Int32) < c0 ∧ ¬ (255 : Int32) < c1 ∧ ¬ (255 : Int32) < c2) ∧ Arv Z h a2 kd .byte (3 : Int32) ([c0, c1, c2].map fun c => Value.int (own_lo8 c)) (.int 0)))
theorem rmcp3 (l : Launch) (Z : State) (a0 : Array Value) (hw : own_W Z a0) (ws : List Jvm.Cond) (a1 a2 : Addr) (kc kd : ClassId) (c0 c1 c2 : Int32) (h0 : Heap) (n0 : Nat) (Z0 : n0 ≤ h0.size) (Ac : Arv Z h0 a1 kc .char (3 : Int32) ([c0, c1, c2].map Value.int) (.int 0)) (Vd : Arv Z h0 a2 kd .byte (3 : Int32) [.int 0, .int 0, .int 0] (.int 0)) (hne : a1 ≠ a2) (gd : n0 ≤ a2) :
  own_M l Z own_z20 own_c20 7 (some .int) ({ frames := 0, cells := 0, slots := 0, locals := 0 } : Room) ws #[(.ref a1), (.int (0 : Int32)), (.ref a2), (.int (0 : Int32)), (.int (3 : Int32))] h0 (Qcp3 Z a1 a2 kc kd c0 c1 c2 h0 n0) := by
 refine MetFree.of_bodySF (plainFor_of_name pn_k5) hisR ?_
 intro p e s m args below meth c s₁ Bd hml0 hP hK
 obtain ⟨rfl, hZ, hh⟩ := hP
 have hx := Bd.exec
 have hby := Bd.bytes
 have hml : c.maxLocals = 7 := hml0
 have hown : s.vm.findClass "java/lang/StringUTF16" = some m.cls := findClass_of_methodNamed Bd.named
 have X0 : Stand p l e ({ frames := 0, cells := 0, slots := 0, locals := 0 } : Room) s m #[(.ref a1), (.int (0 : Int32)), (.ref a2), (.int (0 : Int32)), (.int (3 : Int32))] below meth c s₁ [] 0 0 := Stand.of_body Bd
 have e0 : s₁.heap = h0 := by rw [← hh, Bd.state]; rfl
 have N0 := Fr.nil n0
 obtain ⟨PP, hPs, pre0⟩ : ∃ PP : State → Prop, (∀ t, PP t → Steps p.tables e below (s₁.setTop (entryFrame m #[(.ref a1), (.int (0 : Int32)), (.ref a2), (.int (0 : Int32)), (.int (3 : Int32))] 7)) t) ∧ own_pr p e below PP s₁ (mkF m 0 #[.val (.ref a1), .val (.int (0 : Int32)), .val (.ref a2), .val (.int (0 : Int32)), .val (.int (3 : Int32)), .unset, .unset] []) := ⟨_, fun _ κ => κ, fun τ κ => castTop (ef_cp1 m a1 (0 : Int32) a2 (0 : Int32) (3 : Int32)) κ⟩
 have Vc1 := Ac
 obtain ⟨cl1, Ar1, qq1, sz1, nn1, Ha1, Gf1⟩ := Vc1
 have hin1 : ¬ ((0 : Int32) < 0 ∨ cl1.slots.size ≤ ((0 : Int32)).toNatClampNeg) := inb_of sz1 ⟨by decide, by decide⟩
 have pre2 : own_pr p e below PP s₁ (mkF m 20 #[.val (.ref a1), .val (.int (0 : Int32)), .val (.ref a2), .val (.int (0 : Int32)), .val (.int (3 : Int32)), .val (.int (0 : Int32)), .val (.int c0)] [(.int (255 : Int32)), (.int c0)]) := fun τ κ => pre0 τ (by
  show own_st p e below s₁ (mkF m 0 #[.val (.ref a1), .val (.int (0 : Int32)), .val (.ref a2), .val (.int (0 : Int32)), .val (.int (3 : Int32)), .unset, .unset] []) _
  refine XS.iconst X0.here hx rfl (hb hby d19_0) ?_
  refine XS.istore X0.here hx rfl (hb hby d19_1) rfl (l' := #[.val (.ref a1), .val (.int (0 : Int32)), .val (.ref a2), .val (.int (0 : Int32)), .val (.int (3 : Int32)), .val (.int (0 : Int32)), .unset]) rfl ?_
  refine XS.iload X0.here hx rfl (hb hby d19_3) rfl ?_
  refine XS.iload X0.here hx rfl (hb hby d19_5) rfl ?_
  refine XS.icmpNo X0.here hx rfl (hb hby d19_7) rfl (tlt (by decide : (0 : Int32) < (3 : Int32))).2.1 ?_
  refine XS.aloadN X0.here hx rfl (hb hby d19_10) rfl rfl ?_
  refine XS.iloadN X0.here hx rfl (hb hby d19_11) rfl ?_
  refine X0.caload hx (j := (0 : Int32)) (v := (.int c0)) (by rw [e0]; exact Ar1.1) (State.isArrayOf_alike hZ.alike Ar1.2.1) Ar1.2.2 hin1 (Has.at Ha1 hin1 rfl) (g := (mkF m 12 #[.val (.ref a1), .val (.int (0 : Int32)), .val (.ref a2), .val (.int (0 : Int32)), .val (.int (3 : Int32)), .val (.int (0 : Int32)), .unset] [(.int (0 : Int32)), (.ref a1)])) rfl rfl (hb hby d19_12) _ ?_
  refine XS.istore X0.here hx rfl (hb hby d19_13) rfl (l' := #[.val (.ref a1), .val (.int (0 : Int32)), .val (.ref a2), .val (.int (0 : Int32)), .val (.int (3 : Int32)), .val (.int (0 : Int32)), .val (.int c0)]) rfl ?_
  refine XS.iload X0.here hx rfl (hb hby d19_15) rfl ?_
  refine XS.sipush X0.here hx rfl (hb hby d19_17) ?_
  exact κ)
 by_cases hc20 : (255 : Int32) < c0
 ·have pre3 : own_pr p e below PP s₁ (mkF m 25 #[.val (.ref a1), .val (.int (0 : Int32)), .val (.ref a2), .val (.int (0 : Int32)), .val (.int (3 : Int32)), .val (.int (0 : Int32)), .val (.int c0)] [(.int (0 : Int32))]) := fun τ κ => pre2 τ (by
   show own_st p e below s₁ (mkF m 20 #[.val (.ref a1), .val (.int (0 : Int32)), .val (.ref a2), .val (.int (0 : Int32)), .val (.int (3 : Int32)), .val (.int (0 : Int32)), .val (.int c0)] [(.int (255 : Int32)), (.int c0)]) _
   refine XS.icmpNo X0.here hx rfl (hb hby d19_20) rfl (tlt hc20).2.2.2 ?_
   refine XS.iload X0.here hx rfl (hb hby d19_23) rfl ?_
   exact κ)
  obtain ⟨fs4, hr4, hrun4, hended4, hW4, hsame4⟩ := X0.leave (v := some (.int (0 : Int32))) (fun h => by rw [Bd.returns] at h; cases h)
  refine ⟨_, _, hPs _ (pre3 _ ?_), hrun4, hended4, _, _, rfl, ?_, ⟨_, rfl⟩, hW4, hsame4.mono (by decide) (by decide)⟩
  ·show own_st p e below s₁ (mkF m 25 #[.val (.ref a1), .val (.int (0 : Int32)), .val (.ref a2), .val (.int (0 : Int32)), .val (.int (3 : Int32)), .val (.int (0 : Int32)), .val (.int c0)] [(.int (0 : Int32))]) _
   exact retOut X0 hx (t := .int) Bd.returns rfl (Or.inl ⟨rfl, Or.inl rfl, _, rfl⟩) (hb hby d19_25) hr4
  ·show Qcp3 Z a1 a2 kc kd c0 c1 c2 h0 n0 _ s₁.heap _
   rw [e0]
   exact ⟨_, rfl, N0, (Keep.refl h0 [a2]), Or.inl ⟨rfl, hc20⟩⟩
 have Vc5 := Vd
 obtain ⟨cl5, Ar5, qq5, sz5, nn5, Ha5, Gf5⟩ := Vc5
 have hin5 : ¬ ((0 : Int32) < 0 ∨ cl5.slots.size ≤ ((0 : Int32)).toNatClampNeg) := inb_of sz5 ⟨by decide, by decide⟩
 obtain ⟨T6, h6, X6, e6, W6, st6⟩ := stB X0 hx hZ e0 Ar5 (j := (0 : Int32)) hin5 (g := (mkF m 31 #[.val (.ref a1), .val (.int (0 : Int32)), .val (.ref a2), .val (.int (0 : Int32)), .val (.int (3 : Int32)), .val (.int (0 : Int32)), .val (.int c0)] [(.int (c0.toInt8.toInt32)), (.int (0 : Int32)), (.ref a2)])) rfl rfl (hb hby d19_31)
 have N6 := Fr.snoc X6 N0 gd
 have Ac_6 := Ac.other W6 hne
 have Vd_6 := Arv.set Ar5 qq5 sz5 nn5 Ha5 Gf5 (fits_nar_byte _) W6 0 rfl (Nat.le_of_ble_eq_true rfl)
 have Vc7 := Ac_6
 obtain ⟨cl7, Ar7, qq7, sz7, nn7, Ha7, Gf7⟩ := Vc7
 have hin7 : ¬ ((1 : Int32) < 0 ∨ cl7.slots.size ≤ ((1 : Int32)).toNatClampNeg) := inb_of sz7 ⟨by decide, by decide⟩
 have pre8 : own_pr p e below PP T6 (mkF m 20 #[.val (.ref a1), .val (.int (1 : Int32)), .val (.ref a2), .val (.int (1 : Int32)), .val (.int (3 : Int32)), .val (.int (1 : Int32)), .val (.int c1)] [(.int (255 : Int32)), (.int c1)]) := fun τ κ => pre2 τ (by
  show own_st p e below s₁ (mkF m 20 #[.val (.ref a1), .val (.int (0 : Int32)), .val (.ref a2), .val (.int (0 : Int32)), .val (.int (3 : Int32)), .val (.int (0 : Int32)), .val (.int c0)] [(.int (255 : Int32)), (.int c0)]) _
  refine XS.icmpYes X0.here hx rfl (pc0 := 20) (pc' := 26) rfl (hb hby d19_20) rfl (flt hc20).2.2.2 (by decide) (by decide) ?_
  refine XS.aloadN X0.here hx rfl (hb hby d19_26) rfl rfl ?_
  refine XS.iloadN X0.here hx rfl (hb hby d19_27) rfl ?_
  refine XS.iload X0.here hx rfl (hb hby d19_28) rfl ?_
  refine XS.i2b X0.here hx rfl (hb hby d19_30) rfl ?_
  refine st6 _ ?_
  refine XS.iinc X6.here hx rfl (hb hby d19_32) rfl (l' := #[.val (.ref a1), .val (.int ((0 : Int32) + (1 : Int32))), .val (.ref a2), .val (.int (0 : Int32)), .val (.int (3 : Int32)), .val (.int (0 : Int32)), .val (.int c0)]) rfl ?_
  show own_st p e below T6 (mkF m 35 #[.val (.ref a1), .val (.int ((0 : Int32) + (1 : Int32))), .val (.ref a2), .val (.int (0 : Int32)), .val (.int (3 : Int32)), .val (.int (0 : Int32)), .val (.int c0)] []) _
  rw [show ((0 : Int32) + (1 : Int32)) = (1 : Int32) from by decide]
  refine XS.iinc X6.here hx rfl (hb hby d19_35) rfl (l' := #[.val (.ref a1), .val (.int (1 : Int32)), .val (.ref a2), .val (.int ((0 : Int32) + (1 : Int32))), .val (.int (3 : Int32)), .val (.int (0 : Int32)), .val (.int c0)]) rfl ?_
  show own_st p e below T6 (mkF m 38 #[.val (.ref a1), .val (.int (1 : Int32)), .val (.ref a2), .val (.int ((0 : Int32) + (1 : Int32))), .val (.int (3 : Int32)), .val (.int (0 : Int32)), .val (.int c0)] []) _
  rw [show ((0 : Int32) + (1 : Int32)) = (1 : Int32) from by decide]
  refine XS.iinc X6.here hx rfl (hb hby d19_38) rfl (l' := #[.val (.ref a1), .val (.int (1 : Int32)), .val (.ref a2), .val (.int (1 : Int32)), .val (.int (3 : Int32)), .val (.int ((0 : Int32) + (1 : Int32))), .val (.int c0)]) rfl ?_
  show own_st p e below T6 (mkF m 41 #[.val (.ref a1), .val (.int (1 : Int32)), .val (.ref a2), .val (.int (1 : Int32)), .val (.int (3 : Int32)), .val (.int ((0 : Int32) + (1 : Int32))), .val (.int c0)] []) _
  rw [show ((0 : Int32) + (1 : Int32)) = (1 : Int32) from by decide]
  refine XS.goto X6.here hx rfl (pc0 := 41) (pc' := 3) rfl (hb hby d19_41) (by decide) (by decide) ?_
  refine XS.iload X6.here hx rfl (hb hby d19_3) rfl ?_
  refine XS.iload X6.here hx rfl (hb hby d19_5) rfl ?_
  refine XS.icmpNo X6.here hx rfl (hb hby d19_7) rfl (tlt (by decide : (1 : Int32) < (3 : Int32))).2.1 ?_
  refine XS.aloadN X6.here hx rfl (hb hby d19_10) rfl rfl ?_
  refine XS.iloadN X6.here hx rfl (hb hby d19_11) rfl ?_
  refine X6.caload hx (j := (1 : Int32)) (v := (.int c1)) (by rw [e6]; exact Ar7.1) (State.isArrayOf_alike hZ.alike Ar7.2.1) Ar7.2.2 hin7 (Has.at Ha7 hin7 rfl) (g := (mkF m 12 #[.val (.ref a1), .val (.int (1 : Int32)), .val (.ref a2), .val (.int (1 : Int32)), .val (.int (3 : Int32)), .val (.int (1 : Int32)), .val (.int c0)] [(.int (1 : Int32)), (.ref a1)])) rfl rfl (hb hby d19_12) _ ?_
  refine XS.istore X6.here hx rfl (hb hby d19_13) rfl (l' := #[.val (.ref a1), .val (.int (1 : Int32)), .val (.ref a2), .val (.int (1 : Int32)), .val (.int (3 : Int32)), .val (.int (1 : Int32)), .val (.int c1)]) rfl ?_
  refine XS.iload X6.here hx rfl (hb hby d19_15) rfl ?_
  refine XS.sipush X6.here hx rfl (hb hby d19_17) ?_
  exact κ)
 by_cases hc20_9 : (255 : Int32) < c1
 ·have pre10 : own_pr p e below PP T6 (mkF m 25 #[.val (.ref a1), .val (.int (1 : Int32)), .val (.ref a2), .val (.int (1 : Int32)), .val (.int (3 : Int32)), .val (.int (1 : Int32)), .val (.int c1)] [(.int (1 : Int32))]) := fun τ κ => pre8 τ (by
   show own_st p e below T6 (mkF m 20 #[.val (.ref a1), .val (.int (1 : Int32)), .val (.ref a2), .val (.int (1 : Int32)), .val (.int (3 : Int32)), .val (.int (1 : Int32)), .val (.int c1)] [(.int (255 : Int32)), (.int c1)]) _
   refine XS.icmpNo X6.here hx rfl (hb hby d19_20) rfl (tlt hc20_9).2.2.2 ?_
   refine XS.iload X6.here hx rfl (hb hby d19_23) rfl ?_
   exact κ)
  obtain ⟨fs11, hr11, hrun11, hended11, hW11, hsame11⟩ := X6.leave (v := some (.int (1 : Int32))) (fun h => by rw [Bd.returns] at h; cases h)
  refine ⟨_, _, hPs _ (pre10 _ ?_), hrun11, hended11, _, _, rfl, ?_, ⟨_, rfl⟩, hW11, hsame11.mono (by decide) (by decide)⟩
  ·show own_st p e below T6 (mkF m 25 #[.val (.ref a1), .val (.int (1 : Int32)), .val (.ref a2), .val (.int (1 : Int32)), .val (.int (3 : Int32)), .val (.int (1 : Int32)), .val (.int c1)] [(.int (1 : Int32))]) _
   exact retOut X6 hx (t := .int) Bd.returns rfl (Or.inl ⟨rfl, Or.inl rfl, _, rfl⟩) (hb hby d19_25) hr11
  ·show Qcp3 Z a1 a2 kc kd c0 c1 c2 h0 n0 _ T6.heap _
   rw [e6]
   exact ⟨_, rfl, N6, ((Keep.refl h0 [a2]).wr W6 (Or.inl (List.mem_singleton.mpr rfl))), Or.inr (Or.inl ⟨rfl, hc20_9⟩)⟩
 have Vc12 := Vd_6
 obtain ⟨cl12, Ar12, qq12, sz12, nn12, Ha12, Gf12⟩ := Vc12
 have hin12 : ¬ ((1 : Int32) < 0 ∨ cl12.slots.size ≤ ((1 : Int32)).toNatClampNeg) := inb_of sz12 ⟨by decide, by decide⟩
 obtain ⟨T13, h13, X13, e13, W13, st13⟩ := stB X6 hx hZ e6 Ar12 (j := (1 : Int32)) hin12 (g := (mkF m 31 #[.val (.ref a1), .val (.int (1 : Int32)), .val (.ref a2), .val (.int (1 : Int32)), .val (.int (3 : Int32)), .val (.int (1 : Int32)), .val (.int c1)] [(.int (c1.toInt8.toInt32)), (.int (1 : Int32)), (.ref a2)])) rfl rfl (hb hby d19_31)
 have N13 := Fr.snoc X13 N6 gd
 have Ac_13 := Ac_6.other W13 hne
 have Vd_13 := Arv.set Ar12 qq12 sz12 nn12 Ha12 Gf12 (fits_nar_byte _) W13 1 rfl (Nat.le_of_ble_eq_true rfl)
 have Vc14 := Ac_13
 obtain ⟨cl14, Ar14, qq14, sz14, nn14, Ha14, Gf14⟩ := Vc14
 have hin14 : ¬ ((2 : Int32) < 0 ∨ cl14.slots.size ≤ ((2 : Int32)).toNatClampNeg) := inb_of sz14 ⟨by decide, by decide⟩
 have pre15 : own_pr p e below PP T13 (mkF m 20 #[.val (.ref a1), .val (.int (2 : Int32)), .val (.ref a2), .val (.int (2 : Int32)), .val (.int (3 : Int32)), .val (.int (2 : Int32)), .val (.int c2)] [(.int (255 : Int32)), (.int c2)]) := fun τ κ => pre8 τ (by
  show own_st p e below T6 (mkF m 20 #[.val (.ref a1), .val (.int (1 : Int32)), .val (.ref a2), .val (.int (1 : Int32)), .val (.int (3 : Int32)), .val (.int (1 : Int32)), .val (.int c1)] [(.int (255 : Int32)), (.int c1)]) _
  refine XS.icmpYes X6.here hx rfl (pc0 := 20) (pc' := 26) rfl (hb hby d19_20) rfl (flt hc20_9).2.2.2 (by decide) (by decide) ?_
  refine XS.aloadN X6.here hx rfl (hb hby d19_26) rfl rfl ?_
  refine XS.iloadN X6.here hx rfl (hb hby d19_27) rfl ?_
  refine XS.iload X6.here hx rfl (hb hby d19_28) rfl ?_
  refine XS.i2b X6.here hx rfl (hb hby d19_30) rfl ?_
  refine st13 _ ?_
  refine XS.iinc X13.here hx rfl (hb hby d19_32) rfl (l' := #[.val (.ref a1), .val (.int ((1 : Int32) + (1 : Int32))), .val (.ref a2), .val (.int (1 : Int32)), .val (.int (3 : Int32)), .val (.int (1 : Int32)), .val (.int c1)]) rfl ?_
  show own_st p e below T13 (mkF m 35 #[.val (.ref a1), .val (.int ((1 : Int32) + (1 : Int32))), .val (.ref a2), .val (.int (1 : Int32)), .val (.int (3 : Int32)), .val (.int (1 : Int32)), .val (.int c1)] []) _
  rw [show ((1 : Int32) + (1 : Int32)) = (2 : Int32) from by decide]
  refine XS.iinc X13.here hx rfl (hb hby d19_35) rfl (l' := #[.val (.ref a1), .val (.int (2 : Int32)), .val (.ref a2), .val (.int ((1 : Int32) + (1 : Int32))), .val (.int (3 : Int32)), .val (.int (1 : Int32)), .val (.int c1)]) rfl ?_
  show own_st p e below T13 (mkF m 38 #[.val (.ref a1), .val (.int (2 : Int32)), .val (.ref a2), .val (.int ((1 : Int32) + (1 : Int32))), .val (.int (3 : Int32)), .val (.int (1 : Int32)), .val (.int c1)] []) _
  rw [show ((1 : Int32) + (1 : Int32)) = (2 : Int32) from by decide]
  refine XS.iinc X13.here hx rfl (hb hby d19_38) rfl (l' := #[.val (.ref a1), .val (.int (2 : Int32)), .val (.ref a2), .val (.int (2 : Int32)), .val (.int (3 : Int32)), .val (.int ((1 : Int32) + (1 : Int32))), .val (.int c1)]) rfl ?_
  show own_st p e below T13 (mkF m 41 #[.val (.ref a1), .val (.int (2 : Int32)), .val (.ref a2), .val (.int (2 : Int32)), .val (.int (3 : Int32)), .val (.int ((1 : Int32) + (1 : Int32))), .val (.int c1)] []) _
  rw [show ((1 : Int32) + (1 : Int32)) = (2 : Int32) from by decide]
  refine XS.goto X13.here hx rfl (pc0 := 41) (pc' := 3) rfl (hb hby d19_41) (by decide) (by decide) ?_
  refine XS.iload X13.here hx rfl (hb hby d19_3) rfl ?_
  refine XS.iload X13.here hx rfl (hb hby d19_5) rfl ?_
  refine XS.icmpNo X13.here hx rfl (hb hby d19_7) rfl (tlt (by decide : (2 : Int32) < (3 : Int32))).2.1 ?_
  refine XS.aloadN X13.here hx rfl (hb hby d19_10) rfl rfl ?_
  refine XS.iloadN X13.here hx rfl (hb hby d19_11) rfl ?_
  refine X13.caload hx (j := (2 : Int32)) (v := (.int c2)) (by rw [e13]; exact Ar14.1) (State.isArrayOf_alike hZ.alike Ar14.2.1) Ar14.2.2 hin14 (Has.at Ha14 hin14 rfl) (g := (mkF m 12 #[.val (.ref a1), .val (.int (2 : Int32)), .val (.ref a2), .val (.int (2 : Int32)), .val (.int (3 : Int32)), .val (.int (2 : Int32)), .val (.int c1)] [(.int (2 : Int32)), (.ref a1)])) rfl rfl (hb hby d19_12) _ ?_
  refine XS.istore X13.here hx rfl (hb hby d19_13) rfl (l' := #[.val (.ref a1), .val (.int (2 : Int32)), .val (.ref a2), .val (.int (2 : Int32)), .val (.int (3 : Int32)), .val (.int (2 : Int32)), .val (.int c2)]) rfl ?_
  refine XS.iload X13.here hx rfl (hb hby d19_15) rfl ?_
  refine XS.sipush X13.here hx rfl (hb hby d19_17) ?_
  exact κ)
 by_cases hc20_16 : (255 : Int32) < c2
 ·have pre17 : own_pr p e below PP T13 (mkF m 25 #[.val (.ref a1), .val (.int (2 : Int32)), .val (.ref a2), .val (.int (2 : Int32)), .val (.int (3 : Int32)), .val (.int (2 : Int32)), .val (.int c2)] [(.int (2 : Int32))]) := fun τ κ => pre15 τ (by
   show own_st p e below T13 (mkF m 20 #[.val (.ref a1), .val (.int (2 : Int32)), .val (.ref a2), .val (.int (2 : Int32)), .val (.int (3 : Int32)), .val (.int (2 : Int32)), .val (.int c2)] [(.int (255 : Int32)), (.int c2)]) _
   refine XS.icmpNo X13.here hx rfl (hb hby d19_20) rfl (tlt hc20_16).2.2.2 ?_
   refine XS.iload X13.here hx rfl (hb hby d19_23) rfl ?_
   exact κ)
  obtain ⟨fs18, hr18, hrun18, hended18, hW18, hsame18⟩ := X13.leave (v := some (.int (2 : Int32))) (fun h => by rw [Bd.returns] at h; cases h)
  refine ⟨_, _, hPs _ (pre17 _ ?_), hrun18, hended18, _, _, rfl, ?_, ⟨_, rfl⟩, hW18, hsame18.mono (by decide) (by decide)⟩
  ·show own_st p e below T13 (mkF m 25 #[.val (.ref a1), .val (.int (2 : Int32)), .val (.ref a2), .val (.int (2 : Int32)), .val (.int (3 : Int32)), .val (.int (2 : Int32)), .val (.int c2)] [(.int (2 : Int32))]) _
   exact retOut X13 hx (t := .int) Bd.returns rfl (Or.inl ⟨rfl, Or.inl rfl, _, rfl⟩) (hb hby d19_25) hr18
  ·show Qcp3 Z a1 a2 kc kd c0 c1 c2 h0 n0 _ T13.heap _
   rw [e13]
   exact ⟨_, rfl, N13, (((Keep.refl h0 [a2]).wr W6 (Or.inl (List.mem_singleton.mpr rfl))).wr W13 (Or.inl (List.mem_singleton.mpr rfl))), Or.inr (Or.inr (Or.inl ⟨rfl, hc20_16⟩))⟩
 have Vc19 := Vd_13
 obtain ⟨cl19, Ar19, qq19, sz19, nn19, Ha19, Gf19⟩ := Vc19
 have hin19 : ¬ ((2 : Int32) < 0 ∨ cl19.slots.size ≤ ((2 : Int32)).toNatClampNeg) := inb_of sz19 ⟨by decide, by decide⟩
 obtain ⟨T20, h20, X20, e20, W20, st20⟩ := stB X13 hx hZ e13 Ar19 (j := (2 : Int32)) hin19 (g := (mkF m 31 #[.val (.ref a1), .val (.int (2 : Int32)), .val (.ref a2), .val (.int (2 : Int32)), .val (.int (3 : Int32)), .val (.int (2 : Int32)), .val (.int c2)] [(.int (c2.toInt8.toInt32)), (.int (2 : Int32)), (.ref a2)])) rfl rfl (hb hby d19_31)
 have N20 := Fr.snoc X20 N13 gd
 have Ac_20 := Ac_13.other W20 hne
 have Vd_20 := Arv.set Ar19 qq19 sz19 nn19 Ha19 Gf19 (fits_nar_byte _) W20 2 rfl (Nat.le_of_ble_eq_true rfl)
 have pre21 : own_pr p e below PP T20 (mkF m 46 #[.val (.ref a1), .val (.int (3 : Int32)), .val (.ref a2), .val (.int (3 : Int32)), .val (.int (3 : Int32)), .val (.int (3 : Int32)), .val (.int c2)] [(.int (3 : Int32))]) := fun τ κ => pre15 τ (by
  show own_st p e below T13 (mkF m 20 #[.val (.ref a1), .val (.int (2 : Int32)), .val (.ref a2), .val (.int (2 : Int32)), .val (.int (3 : Int32)), .val (.int (2 : Int32)), .val (.int c2)] [(.int (255 : Int32)), (.int c2)]) _
  refine XS.icmpYes X13.here hx rfl (pc0 := 20) (pc' := 26) rfl (hb hby d19_20) rfl (flt hc20_16).2.2.2 (by decide) (by decide) ?_
  refine XS.aloadN X13.here hx rfl (hb hby d19_26) rfl rfl ?_
  refine XS.iloadN X13.here hx rfl (hb hby d19_27) rfl ?_
  refine XS.iload X13.here hx rfl (hb hby d19_28) rfl ?_
  refine XS.i2b X13.here hx rfl (hb hby d19_30) rfl ?_
  refine st20 _ ?_
  refine XS.iinc X20.here hx rfl (hb hby d19_32) rfl (l' := #[.val (.ref a1), .val (.int ((2 : Int32) + (1 : Int32))), .val (.ref a2), .val (.int (2 : Int32)), .val (.int (3 : Int32)), .val (.int (2 : Int32)), .val (.int c2)]) rfl ?_
  show own_st p e below T20 (mkF m 35 #[.val (.ref a1), .val (.int ((2 : Int32) + (1 : Int32))), .val (.ref a2), .val (.int (2 : Int32)), .val (.int (3 : Int32)), .val (.int (2 : Int32)), .val (.int c2)] []) _
  rw [show ((2 : Int32) + (1 : Int32)) = (3 : Int32) from by decide]
  refine XS.iinc X20.here hx rfl (hb hby d19_35) rfl (l' := #[.val (.ref a1), .val (.int (3 : Int32)), .val (.ref a2), .val (.int ((2 : Int32) + (1 : Int32))), .val (.int (3 : Int32)), .val (.int (2 : Int32)), .val (.int c2)]) rfl ?_
  show own_st p e below T20 (mkF m 38 #[.val (.ref a1), .val (.int (3 : Int32)), .val (.ref a2), .val (.int ((2 : Int32) + (1 : Int32))), .val (.int (3 : Int32)), .val (.int (2 : Int32)), .val (.int c2)] []) _
  rw [show ((2 : Int32) + (1 : Int32)) = (3 : Int32) from by decide]
  refine XS.iinc X20.here hx rfl (hb hby d19_38) rfl (l' := #[.val (.ref a1), .val (.int (3 : Int32)), .val (.ref a2), .val (.int (3 : Int32)), .val (.int (3 : Int32)), .val (.int ((2 : Int32) + (1 : Int32))), .val (.int c2)]) rfl ?_
  show own_st p e below T20 (mkF m 41 #[.val (.ref a1), .val (.int (3 : Int32)), .val (.ref a2), .val (.int (3 : Int32)), .val (.int (3 : Int32)), .val (.int ((2 : Int32) + (1 : Int32))), .val (.int c2)] []) _
  rw [show ((2 : Int32) + (1 : Int32)) = (3 : Int32) from by decide]
  refine XS.goto X20.here hx rfl (pc0 := 41) (pc' := 3) rfl (hb hby d19_41) (by decide) (by decide) ?_
  refine XS.iload X20.here hx rfl (hb hby d19_3) rfl ?_
  refine XS.iload X20.here hx rfl (hb hby d19_5) rfl ?_
  refine XS.icmpYes X20.here hx rfl (pc0 := 7) (pc' := 44) rfl (hb hby d19_7) rfl (flt (by decide : ¬ ((3 : Int32) < (3 : Int32)))).2.1 (by decide) (by decide) ?_
  refine XS.iload X20.here hx rfl (hb hby d19_44) rfl ?_
  exact κ)
 obtain ⟨fs22, hr22, hrun22, hended22, hW22, hsame22⟩ := X20.leave (v := some (.int (3 : Int32))) (fun h => by rw [Bd.returns] at h; cases h)
 refine ⟨_, _, hPs _ (pre21 _ ?_), hrun22, hended22, _, _, rfl, ?_, ⟨_, rfl⟩, hW22, hsame22.mono (by decide) (by decide)⟩
 ·show own_st p e below T20 (mkF m 46 #[.val (.ref a1), .val (.int (3 : Int32)), .val (.ref a2), .val (.int (3 : Int32)), .val (.int (3 : Int32)), .val (.int (3 : Int32)), .val (.int c2)] [(.int (3 : Int32))]) _
  exact retOut X20 hx (t := .int) Bd.returns rfl (Or.inl ⟨rfl, Or.inl rfl, _, rfl⟩) (hb hby d19_46) hr22
 ·show Qcp3 Z a1 a2 kc kd c0 c1 c2 h0 n0 _ T20.heap _
  rw [e20]
  have q := Vd_20
  simp only [own_lo] at q
  exact ⟨_, rfl, N20, ((((Keep.refl h0 [a2]).wr W6 (Or.inl (List.mem_singleton.mpr rfl))).wr W13 (Or.inl (List.mem_singleton.mpr rfl))).wr W20 (Or.inl (List.mem_singleton.mpr rfl))), Or.inr (Or.inr (Or.inr (⟨rfl, ⟨hc20, hc20_9, hc20_16⟩, q⟩)))⟩


def Qcz3 (Z : State) (a1 : Addr) (kc : ClassId) (c0 c1 c2 : Int32) (h0 : Heap) (n0 : Nat) (v : Option Value) (h : Heap) (L : List Loc) : Prop := ∃ b kb cd N vs, v = some (.ref b) ∧ Fr n0 L ∧ Ext h0 h ∧ Arv Z h b kb .byte N vs (.int 0) ∧ own_CodA [c0, c1, c2] cd N vs
theorem rmcz3 (l : Launch) (Z : State) (a0 : Array Value) (hw : own_W Z a0) (ws : List Jvm.Cond) (a1 : Addr) (kc : ClassId) (c0 c1 c2 : Int32) (h0 : Heap) (n0 : Nat) (Z0 : n0 ≤ h0.size) (Ac : Arv Z h0 a1 kc .char (3 : Int32) ([c0, c1, c2].map Value.int) (.int 0)) (EN : own_env Z h0) (hb0 : own_b c0) (hb1 : own_b c1) (hb2 : own_b c2) :
  own_M l Z own_z19 own_c21 6 (some (.array .byte)) ({ frames := 3, cells := 2, slots := 9, locals := 45 } : Room) ws #[(.ref a1), (.int (0 : Int32)), (.int (3 : Int32))] h0 (Qcz3 Z a1 kc c0 c1 c2 h0 n0) := by
 refine MetFree.of_bodySF (plainFor_of_name pn_k5) hisR ?_
 intro p e s m args below meth c s₁ Bd hml0 hP hK
 obtain ⟨rfl, hZ, hh⟩ := hP
 have hx := Bd.exec
 have hby := Bd.bytes
 have hml : c.maxLocals = 6 := hml0
 have hown : s.vm.findClass "java/lang/StringUTF16" = some m.cls := findClass_of_methodNamed Bd.named
 have X0 : Stand p l e ({ frames := 3, cells := 2, slots := 9, locals := 45 } : Room) s m #[(.ref a1), (.int (0 : Int32)), (.int (3 : Int32))] below meth c s₁ [] 0 0 := Stand.of_body Bd
 have e0 : s₁.heap = h0 := by rw [← hh, Bd.state]; rfl
 have N0 := Fr.nil n0
 obtain ⟨PP, hPs, pre0⟩ : ∃ PP : State → Prop, (∀ t, PP t → Steps p.tables e below (s₁.setTop (entryFrame m #[(.ref a1), (.int (0 : Int32)), (.int (3 : Int32))] 6)) t) ∧ own_pr p e below PP s₁ (mkF m 0 #[.val (.ref a1), .val (.int (0 : Int32)), .val (.int (3 : Int32)), .unset, .unset, .unset] []) := ⟨_, fun _ κ => κ, fun τ κ => castTop (ef_cz1 m a1 (0 : Int32) (3 : Int32)) κ⟩
 obtain ⟨T1, h1, k1, X1, e1, E1, A1, st1⟩ := newP (aty := .byte) X0 hx hZ (wd21 hw) e0 (g := (mkF m 1 #[.val (.ref a1), .val (.int (0 : Int32)), .val (.int (3 : Int32)), .unset, .unset, .unset] [(.int (3 : Int32))])) rfl (hb hby d18_1) rfl (by decide) (cap := 3) (by decide) (by decide) (by decide) (by decide)
 obtain ⟨b1, gb1⟩ : ∃ z, z = h0.size := ⟨_, rfl⟩
 rw [← gb1] at A1 st1
 have gn1 : n0 ≤ b1 := Nat.le_trans Z0 (Nat.le_of_eq gb1.symm)
 have sz1_b : h0.size ≤ b1 := Nat.le_trans (Keep.refl h0 []).1 (Nat.le_of_eq gb1.symm)
 have ne_a1_b1 : a1 ≠ b1 := Nat.ne_of_lt (Nat.lt_of_lt_of_le Ac.lt (Nat.le_of_eq gb1.symm))
 have Ac_1 := Ac.ext E1
 have EN_1 := EN.ext E1
 have K1 := (Keep.refl h0 []).ext E1
 have V1 : Arv Z h1 b1 k1 .byte (3 : Int32) [(.int (0 : Int32)), (.int (0 : Int32)), (.int (0 : Int32))] (.int (0 : Int32)) := (Arv.new A1 (by decide)).pad (pad_rep [] (.int (0 : Int32)) 3)
 obtain ⟨_, T2, Lc2, X2, hQ2, st2⟩ := own_cS X1 hx hZ (y := own_z20) hown (wd112 hw) (wd113 hw) (wd110 hw) (wd114 hw) (by decide) (rmcp3 l Z a0 hw [] a1 b1 kc k1 c0 c1 c2 h1 n0 (Nat.le_trans Z0 E1.1) Ac_1 V1 ne_a1_b1 gn1) 0 (by decide) (g := (mkF m 9 #[.val (.ref a1), .val (.int (0 : Int32)), .val (.int (3 : Int32)), .val (.ref b1), .unset, .unset] [(.int (3 : Int32)), (.int (0 : Int32)), (.ref b1), (.int (0 : Int32)), (.ref a1)])) rfl hml.symm [(.ref a1), (.int (0 : Int32)), (.ref b1), (.int (0 : Int32)), (.int (3 : Int32))] [] (lenOf pd_cp1 rfl) rfl rfl (hb hby d18_9) e1 rfl
 obtain ⟨j2, rfl, N2q, Kp2, hd2⟩ := hQ2
 have N2 := Fr.app N0 N2q
 have Ac_2 := Ac_1.keep Kp2 (ninS ne_a1_b1 nin0)
 have EN_2 := EN_1.keep Kp2 V1.nostat
 have K2 := K1.trans Kp2 (fun x hx => by cases List.mem_singleton.mp hx; exact Or.inr sz1_b)
 have pre3 : own_pr p e below PP T2 (mkF m 12 #[.val (.ref a1), .val (.int (0 : Int32)), .val (.int (3 : Int32)), .val (.ref b1), .unset, .unset] [(.int j2)]) := fun τ κ => pre0 τ (by
  show own_st p e below s₁ (mkF m 0 #[.val (.ref a1), .val (.int (0 : Int32)), .val (.int (3 : Int32)), .unset, .unset, .unset] []) _
  refine XS.iloadN X0.here hx rfl (hb hby d18_0) rfl ?_
  refine st1 _ ?_
  refine XS.astoreN X1.here hx rfl (hb hby d18_3) rfl rfl (l' := #[.val (.ref a1), .val (.int (0 : Int32)), .val (.int (3 : Int32)), .val (.ref b1), .unset, .unset]) rfl ?_
  refine XS.aloadN X1.here hx rfl (hb hby d18_4) rfl rfl ?_
  refine XS.iloadN X1.here hx rfl (hb hby d18_5) rfl ?_
  refine XS.aloadN X1.here hx rfl (hb hby d18_6) rfl rfl ?_
  refine XS.iconst X1.here hx rfl (hb hby d18_7) ?_
  refine XS.iloadN X1.here hx rfl (hb hby d18_8) rfl ?_
  refine st2 _ ?_
  exact κ)
 rcases hd2 with ⟨rfl, hcw⟩ | ⟨rfl, hcw⟩ | ⟨rfl, hcw⟩ | ⟨rfl, hcl, hvl⟩
 ·obtain ⟨_, T4, Lc4, X4, hQ4, st4⟩ := own_cS X2 hx hZ (y := own_z47) hown (wd222 hw) (wd223 hw) (wd110 hw) (wd224 hw) (by decide) (rmtb3 l Z a0 hw [] a1 kc c0 c1 c2 T2.heap n0 (Nat.le_trans (Nat.le_trans Z0 E1.1) Kp2.1) Ac_2 EN_2) 0 (by decide) (g := (mkF m 23 #[.val (.ref a1), .val (.int (0 : Int32)), .val (.int (3 : Int32)), .val (.ref b1), .val (.int (0 : Int32)), .unset] [(.int (3 : Int32)), (.int (0 : Int32)), (.ref a1)])) rfl hml.symm [(.ref a1), (.int (0 : Int32)), (.int (3 : Int32))] [] (lenOf pd_tb1 rfl) rfl rfl (hb hby d18_23) rfl rfl
  obtain ⟨b4, kb4, rfl, N4q, E4, V4⟩ := hQ4
  have N4 := Fr.app N2 N4q
  have Ac_4 := Ac_2.ext E4
  have EN_4 := EN_2.ext E4
  have K4 := K2.ext E4
  have Vc5 := V4
  obtain ⟨cl5, Ar5, qq5, sz5, nn5, Ha5, Gf5⟩ := Vc5
  have r0_5 : own_rd cl5 ((0 : Int32) <<< ((1 : Int32) &&& 31)) (own_lo8 c0) := own_rdOf sz5 Ha5 ⟨by decide, by decide⟩ (by rw [show (((0 : Int32) <<< ((1 : Int32) &&& 31))).toNatClampNeg = 0 from by decide]; rfl)
  have r1_5 : own_rd cl5 (((0 : Int32) <<< ((1 : Int32) &&& 31)) + (1 : Int32)) (own_hi8 c0) := own_rdOf sz5 Ha5 ⟨by decide, by decide⟩ (by rw [show ((((0 : Int32) <<< ((1 : Int32) &&& 31)) + (1 : Int32))).toNatClampNeg = 1 from by decide]; rfl)
  obtain ⟨_, T6, Lc6, X6, hQ6, st6⟩ := own_cS X4 hx hZ (y := own_z51) hown (wd238 hw) (wd239 hw) (wd110 hw) (wd240 hw) (by decide) (rmgc l Z a0 hw [] b4 cl5 (0 : Int32) (own_lo8 c0) (own_hi8 c0) c0 T4.heap n0 (Nat.le_trans (Nat.le_trans (Nat.le_trans Z0 E1.1) Kp2.1) E4.1) EN_4 (own_gcv hb0) Ar5 r0_5 r1_5) 0 (by decide) (g := (mkF m 32 #[.val (.ref a1), .val (.int (0 : Int32)), .val (.int (3 : Int32)), .val (.ref b1), .val (.int (0 : Int32)), .val (.ref b4)] [(.int (0 : Int32)), (.ref b4)])) rfl hml.symm [(.ref b4), (.int (0 : Int32))] [] (lenOf pd_gc rfl) rfl rfl (hb hby d18_32) rfl rfl
  obtain ⟨rfl, N6q, q6⟩ := hQ6
  have N6 := Fr.app N4 N6q
  have pre7 : own_pr p e below PP T6 (mkF m 56 #[.val (.ref a1), .val (.int (0 : Int32)), .val (.int (3 : Int32)), .val (.ref b1), .val (.int (0 : Int32)), .val (.ref b4)] [(.ref b4)]) := fun τ κ => pre3 τ (by
   show own_st p e below T2 (mkF m 12 #[.val (.ref a1), .val (.int (0 : Int32)), .val (.int (3 : Int32)), .val (.ref b1), .unset, .unset] [(.int (0 : Int32))]) _
   refine XS.istore X2.here hx rfl (hb hby d18_12) rfl (l' := #[.val (.ref a1), .val (.int (0 : Int32)), .val (.int (3 : Int32)), .val (.ref b1), .val (.int (0 : Int32)), .unset]) rfl ?_
   refine XS.iload X2.here hx rfl (hb hby d18_14) rfl ?_
   refine XS.iloadN X2.here hx rfl (hb hby d18_16) rfl ?_
   refine XS.icmpNo X2.here hx rfl (hb hby d18_17) rfl (feq (by decide : ¬ ((0 : Int32) = (3 : Int32)))).1 ?_
   refine XS.aloadN X2.here hx rfl (hb hby d18_20) rfl rfl ?_
   refine XS.iloadN X2.here hx rfl (hb hby d18_21) rfl ?_
   refine XS.iloadN X2.here hx rfl (hb hby d18_22) rfl ?_
   refine st4 _ ?_
   refine XS.astore X4.here hx rfl (hb hby d18_26) rfl rfl (l' := #[.val (.ref a1), .val (.int (0 : Int32)), .val (.int (3 : Int32)), .val (.ref b1), .val (.int (0 : Int32)), .val (.ref b4)]) rfl ?_
   refine XS.aload X4.here hx rfl (hb hby d18_28) rfl rfl ?_
   refine XS.iload X4.here hx rfl (hb hby d18_30) rfl ?_
   refine st6 _ ?_
   refine XS.sipush X6.here hx rfl (hb hby d18_35) ?_
   refine XS.icmpYes X6.here hx rfl (pc0 := 38) (pc' := 54) rfl (hb hby d18_38) rfl (tlt hcw).2.2.1 (by decide) (by decide) ?_
   refine XS.aload X6.here hx rfl (hb hby d18_54) rfl rfl ?_
   exact κ)
  obtain ⟨fs8, hr8, hrun8, hended8, hW8, hsame8⟩ := X6.leave (v := some (.ref b4)) (fun h => by rw [Bd.returns] at h; cases h)
  refine ⟨_, _, hPs _ (pre7 _ ?_), hrun8, hended8, _, _, rfl, ?_, ⟨_, rfl⟩, hW8, hsame8.mono (by decide) (by decide)⟩
  ·show own_st p e below T6 (mkF m 56 #[.val (.ref a1), .val (.int (0 : Int32)), .val (.int (3 : Int32)), .val (.ref b1), .val (.int (0 : Int32)), .val (.ref b4)] [(.ref b4)]) _
   exact retOut X6 hx (t := (.array .byte)) Bd.returns rfl (Or.inr (Or.inr (Or.inr (Or.inr ⟨rfl, rfl, rfl⟩)))) (hb hby d18_56) hr8
  ·show Qcz3 Z a1 kc c0 c1 c2 h0 n0 _ T6.heap _
   rw [q6]
   exact ⟨_, _, 1, _, _, rfl, N6, own_ext K4, V4, Or.inr ⟨rfl, rfl, rfl, ⟨c0, by simp, hcw⟩⟩⟩
 ·obtain ⟨_, T9, Lc9, X9, hQ9, st9⟩ := own_cS X2 hx hZ (y := own_z47) hown (wd222 hw) (wd223 hw) (wd110 hw) (wd224 hw) (by decide) (rmtb3 l Z a0 hw [] a1 kc c0 c1 c2 T2.heap n0 (Nat.le_trans (Nat.le_trans Z0 E1.1) Kp2.1) Ac_2 EN_2) 0 (by decide) (g := (mkF m 23 #[.val (.ref a1), .val (.int (0 : Int32)), .val (.int (3 : Int32)), .val (.ref b1), .val (.int (1 : Int32)), .unset] [(.int (3 : Int32)), (.int (0 : Int32)), (.ref a1)])) rfl hml.symm [(.ref a1), (.int (0 : Int32)), (.int (3 : Int32))] [] (lenOf pd_tb1 rfl) rfl rfl (hb hby d18_23) rfl rfl
  obtain ⟨b9, kb9, rfl, N9q, E9, V9⟩ := hQ9
  have N9 := Fr.app N2 N9q
  have Ac_9 := Ac_2.ext E9
  have EN_9 := EN_2.ext E9
  have K9 := K2.ext E9
  have Vc10 := V9
  obtain ⟨cl10, Ar10, qq10, sz10, nn10, Ha10, Gf10⟩ := Vc10
  have r0_10 : own_rd cl10 ((1 : Int32) <<< ((1 : Int32) &&& 31)) (own_lo8 c1) := own_rdOf sz10 Ha10 ⟨by decide, by decide⟩ (by rw [show (((1 : Int32) <<< ((1 : Int32) &&& 31))).toNatClampNeg = 2 from by decide]; rfl)
  have r1_10 : own_rd cl10 (((1 : Int32) <<< ((1 : Int32) &&& 31)) + (1 : Int32)) (own_hi8 c1) := own_rdOf sz10 Ha10 ⟨by decide, by decide⟩ (by rw [show ((((1 : Int32) <<< ((1 : Int32) &&& 31)) + (1 : Int32))).toNatClampNeg = 3 from by decide]; rfl)
  obtain ⟨_, T11, Lc11, X11, hQ11, st11⟩ := own_cS X9 hx hZ (y := own_z51) hown (wd238 hw) (wd239 hw) (wd110 hw) (wd240 hw) (by decide) (rmgc l Z a0 hw [] b9 cl10 (1 : Int32) (own_lo8 c1) (own_hi8 c1) c1 T9.heap n0 (Nat.le_trans (Nat.le_trans (Nat.le_trans Z0 E1.1) Kp2.1) E9.1) EN_9 (own_gcv hb1) Ar10 r0_10 r1_10) 0 (by decide) (g := (mkF m 32 #[.val (.ref a1), .val (.int (0 : Int32)), .val (.int (3 : Int32)), .val (.ref b1), .val (.int (1 : Int32)), .val (.ref b9)] [(.int (1 : Int32)), (.ref b9)])) rfl hml.symm [(.ref b9), (.int (1 : Int32))] [] (lenOf pd_gc rfl) rfl rfl (hb hby d18_32) rfl rfl
  obtain ⟨rfl, N11q, q11⟩ := hQ11
  have N11 := Fr.app N9 N11q
  have pre12 : own_pr p e below PP T11 (mkF m 56 #[.val (.ref a1), .val (.int (0 : Int32)), .val (.int (3 : Int32)), .val (.ref b1), .val (.int (1 : Int32)), .val (.ref b9)] [(.ref b9)]) := fun τ κ => pre3 τ (by
   show own_st p e below T2 (mkF m 12 #[.val (.ref a1), .val (.int (0 : Int32)), .val (.int (3 : Int32)), .val (.ref b1), .unset, .unset] [(.int (1 : Int32))]) _
   refine XS.istore X2.here hx rfl (hb hby d18_12) rfl (l' := #[.val (.ref a1), .val (.int (0 : Int32)), .val (.int (3 : Int32)), .val (.ref b1), .val (.int (1 : Int32)), .unset]) rfl ?_
   refine XS.iload X2.here hx rfl (hb hby d18_14) rfl ?_
   refine XS.iloadN X2.here hx rfl (hb hby d18_16) rfl ?_
   refine XS.icmpNo X2.here hx rfl (hb hby d18_17) rfl (feq (by decide : ¬ ((1 : Int32) = (3 : Int32)))).1 ?_
   refine XS.aloadN X2.here hx rfl (hb hby d18_20) rfl rfl ?_
   refine XS.iloadN X2.here hx rfl (hb hby d18_21) rfl ?_
   refine XS.iloadN X2.here hx rfl (hb hby d18_22) rfl ?_
   refine st9 _ ?_
   refine XS.astore X9.here hx rfl (hb hby d18_26) rfl rfl (l' := #[.val (.ref a1), .val (.int (0 : Int32)), .val (.int (3 : Int32)), .val (.ref b1), .val (.int (1 : Int32)), .val (.ref b9)]) rfl ?_
   refine XS.aload X9.here hx rfl (hb hby d18_28) rfl rfl ?_
   refine XS.iload X9.here hx rfl (hb hby d18_30) rfl ?_
   refine st11 _ ?_
   refine XS.sipush X11.here hx rfl (hb hby d18_35) ?_
   refine XS.icmpYes X11.here hx rfl (pc0 := 38) (pc' := 54) rfl (hb hby d18_38) rfl (tlt hcw).2.2.1 (by decide) (by decide) ?_
   refine XS.aload X11.here hx rfl (hb hby d18_54) rfl rfl ?_
   exact κ)
  obtain ⟨fs13, hr13, hrun13, hended13, hW13, hsame13⟩ := X11.leave (v := some (.ref b9)) (fun h => by rw [Bd.returns] at h; cases h)
  refine ⟨_, _, hPs _ (pre12 _ ?_), hrun13, hended13, _, _, rfl, ?_, ⟨_, rfl⟩, hW13, hsame13.mono (by decide) (by decide)⟩
  ·show own_st p e below T11 (mkF m 56 #[.val (.ref a1), .val (.int (0 : Int32)), .val (.int (3 : Int32)), .val (.ref b1), .val (.int (1 : Int32)), .val (.ref b9)] [(.ref b9)]) _
   exact retOut X11 hx (t := (.array .byte)) Bd.returns rfl (Or.inr (Or.inr (Or.inr (Or.inr ⟨rfl, rfl, rfl⟩)))) (hb hby d18_56) hr13
  ·show Qcz3 Z a1 kc c0 c1 c2 h0 n0 _ T11.heap _
   rw [q11]
   exact ⟨_, _, 1, _, _, rfl, N11, own_ext K9, V9, Or.inr ⟨rfl, rfl, rfl, ⟨c1, by simp, hcw⟩⟩⟩
 ·obtain ⟨_, T14, Lc14, X14, hQ14, st14⟩ := own_cS X2 hx hZ (y := own_z47) hown (wd222 hw) (wd223 hw) (wd110 hw) (wd224 hw) (by decide) (rmtb3 l Z a0 hw [] a1 kc c0 c1 c2 T2.heap n0 (Nat.le_trans (Nat.le_trans Z0 E1.1) Kp2.1) Ac_2 EN_2) 0 (by decide) (g := (mkF m 23 #[.val (.ref a1), .val (.int (0 : Int32)), .val (.int (3 : Int32)), .val (.ref b1), .val (.int (2 : Int32)), .unset] [(.int (3 : Int32)), (.int (0 : Int32)), (.ref a1)])) rfl hml.symm [(.ref a1), (.int (0 : Int32)), (.int (3 : Int32))] [] (lenOf pd_tb1 rfl) rfl rfl (hb hby d18_23) rfl rfl
  obtain ⟨b14, kb14, rfl, N14q, E14, V14⟩ := hQ14
  have N14 := Fr.app N2 N14q
  have Ac_14 := Ac_2.ext E14
  have EN_14 := EN_2.ext E14
  have K14 := K2.ext E14
  have Vc15 := V14
  obtain ⟨cl15, Ar15, qq15, sz15, nn15, Ha15, Gf15⟩ := Vc15
  have r0_15 : own_rd cl15 ((2 : Int32) <<< ((1 : Int32) &&& 31)) (own_lo8 c2) := own_rdOf sz15 Ha15 ⟨by decide, by decide⟩ (by rw [show (((2 : Int32) <<< ((1 : Int32) &&& 31))).toNatClampNeg = 4 from by decide]; rfl)
  have r1_15 : own_rd cl15 (((2 : Int32) <<< ((1 : Int32) &&& 31)) + (1 : Int32)) (own_hi8 c2) := own_rdOf sz15 Ha15 ⟨by decide, by decide⟩ (by rw [show ((((2 : Int32) <<< ((1 : Int32) &&& 31)) + (1 : Int32))).toNatClampNeg = 5 from by decide]; rfl)
  obtain ⟨_, T16, Lc16, X16, hQ16, st16⟩ := own_cS X14 hx hZ (y := own_z51) hown (wd238 hw) (wd239 hw) (wd110 hw) (wd240 hw) (by decide) (rmgc l Z a0 hw [] b14 cl15 (2 : Int32) (own_lo8 c2) (own_hi8 c2) c2 T14.heap n0 (Nat.le_trans (Nat.le_trans (Nat.le_trans Z0 E1.1) Kp2.1) E14.1) EN_14 (own_gcv hb2) Ar15 r0_15 r1_15) 0 (by decide) (g := (mkF m 32 #[.val (.ref a1), .val (.int (0 : Int32)), .val (.int (3 : Int32)), .val (.ref b1), .val (.int (2 : Int32)), .val (.ref b14)] [(.int (2 : Int32)), (.ref b14)])) rfl hml.symm [(.ref b14), (.int (2 : Int32))] [] (lenOf pd_gc rfl) rfl rfl (hb hby d18_32) rfl rfl
  obtain ⟨rfl, N16q, q16⟩ := hQ16
  have N16 := Fr.app N14 N16q
  have pre17 : own_pr p e below PP T16 (mkF m 56 #[.val (.ref a1), .val (.int (0 : Int32)), .val (.int (3 : Int32)), .val (.ref b1), .val (.int (2 : Int32)), .val (.ref b14)] [(.ref b14)]) := fun τ κ => pre3 τ (by
   show own_st p e below T2 (mkF m 12 #[.val (.ref a1), .val (.int (0 : Int32)), .val (.int (3 : Int32)), .val (.ref b1), .unset, .unset] [(.int (2 : Int32))]) _
   refine XS.istore X2.here hx rfl (hb hby d18_12) rfl (l' := #[.val (.ref a1), .val (.int (0 : Int32)), .val (.int (3 : Int32)), .val (.ref b1), .val (.int (2 : Int32)), .unset]) rfl ?_
   refine XS.iload X2.here hx rfl (hb hby d18_14) rfl ?_
   refine XS.iloadN X2.here hx rfl (hb hby d18_16) rfl ?_
   refine XS.icmpNo X2.here hx rfl (hb hby d18_17) rfl (feq (by decide : ¬ ((2 : Int32) = (3 : Int32)))).1 ?_
   refine XS.aloadN X2.here hx rfl (hb hby d18_20) rfl rfl ?_
   refine XS.iloadN X2.here hx rfl (hb hby d18_21) rfl ?_
   refine XS.iloadN X2.here hx rfl (hb hby d18_22) rfl ?_
   refine st14 _ ?_
   refine XS.astore X14.here hx rfl (hb hby d18_26) rfl rfl (l' := #[.val (.ref a1), .val (.int (0 : Int32)), .val (.int (3 : Int32)), .val (.ref b1), .val (.int (2 : Int32)), .val (.ref b14)]) rfl ?_
   refine XS.aload X14.here hx rfl (hb hby d18_28) rfl rfl ?_
   refine XS.iload X14.here hx rfl (hb hby d18_30) rfl ?_
   refine st16 _ ?_
   refine XS.sipush X16.here hx rfl (hb hby d18_35) ?_
   refine XS.icmpYes X16.here hx rfl (pc0 := 38) (pc' := 54) rfl (hb hby d18_38) rfl (tlt hcw).2.2.1 (by decide) (by decide) ?_
   refine XS.aload X16.here hx rfl (hb hby d18_54) rfl rfl ?_
   exact κ)
  obtain ⟨fs18, hr18, hrun18, hended18, hW18, hsame18⟩ := X16.leave (v := some (.ref b14)) (fun h => by rw [Bd.returns] at h; cases h)
  refine ⟨_, _, hPs _ (pre17 _ ?_), hrun18, hended18, _, _, rfl, ?_, ⟨_, rfl⟩, hW18, hsame18.mono (by decide) (by decide)⟩
  ·show own_st p e below T16 (mkF m 56 #[.val (.ref a1), .val (.int (0 : Int32)), .val (.int (3 : Int32)), .val (.ref b1), .val (.int (2 : Int32)), .val (.ref b14)] [(.ref b14)]) _
   exact retOut X16 hx (t := (.array .byte)) Bd.returns rfl (Or.inr (Or.inr (Or.inr (Or.inr ⟨rfl, rfl, rfl⟩)))) (hb hby d18_56) hr18
  ·show Qcz3 Z a1 kc c0 c1 c2 h0 n0 _ T16.heap _
   rw [q16]
   exact ⟨_, _, 1, _, _, rfl, N16, own_ext K14, V14, Or.inr ⟨rfl, rfl, rfl, ⟨c2, by simp, hcw⟩⟩⟩
 ·have pre19 : own_pr p e below PP T2 (mkF m 58 #[.val (.ref a1), .val (.int (0 : Int32)), .val (.int (3 : Int32)), .val (.ref b1), .val (.int (3 : Int32)), .unset] [(.ref b1)]) := fun τ κ => pre3 τ (by
   show own_st p e below T2 (mkF m 12 #[.val (.ref a1), .val (.int (0 : Int32)), .val (.int (3 : Int32)), .val (.ref b1), .unset, .unset] [(.int (3 : Int32))]) _
   refine XS.istore X2.here hx rfl (hb hby d18_12) rfl (l' := #[.val (.ref a1), .val (.int (0 : Int32)), .val (.int (3 : Int32)), .val (.ref b1), .val (.int (3 : Int32)), .unset]) rfl ?_
   refine XS.iload X2.here hx rfl (hb hby d18_14) rfl ?_
   refine XS.iloadN X2.here hx rfl (hb hby d18_16) rfl ?_
   refine XS.icmpYes X2.here hx rfl (pc0 := 17) (pc' := 57) rfl (hb hby d18_17) rfl (teq (by decide : (3 : Int32) = (3 : Int32))).1 (by decide) (by decide) ?_
   refine XS.aloadN X2.here hx rfl (hb hby d18_57) rfl rfl ?_
   exact κ)
  obtain ⟨fs20, hr20, hrun20, hended20, hW20, hsame20⟩ := X2.leave (v := some (.ref b1)) (fun h => by rw [Bd.returns] at h; cases h)
  refine ⟨_, _, hPs _ (pre19 _ ?_), hrun20, hended20, _, _, rfl, ?_, ⟨_, rfl⟩, hW20, hsame20.mono (by decide) (by decide)⟩
  ·show own_st p e below T2 (mkF m 58 #[.val (.ref a1), .val (.int (0 : Int32)), .val (.int (3 : Int32)), .val (.ref b1), .val (.int (3 : Int32)), .unset] [(.ref b1)]) _
   exact retOut X2 hx (t := (.array .byte)) Bd.returns rfl (Or.inr (Or.inr (Or.inr (Or.inr ⟨rfl, rfl, rfl⟩)))) (hb hby d18_58) hr20
  ·show Qcz3 Z a1 kc c0 c1 c2 h0 n0 _ T2.heap _
   exact ⟨_, _, 0, _, _, rfl, N2, own_ext K2, hvl, Or.inl ⟨rfl, rfl, rfl, List.forall_mem_cons.mpr ⟨hcl.1, List.forall_mem_cons.mpr ⟨hcl.2.1, List.forall_mem_cons.mpr ⟨hcl.2.2, fun _ q => nomatch q⟩⟩⟩⟩⟩


def Qca3_1 (Z : State) (a1 : Addr) (k1 : ClassId) (vs : List Value) (h0 : Heap) (n0 : Nat) (v : Option Value) (h : Heap) (L : List Loc) : Prop := v = some (.int (1 : Int32)) ∧ Fr n0 L ∧ h = h0
theorem rmca3_1 (l : Launch) (Z : State) (a0 : Array Value) (hw : own_W Z a0) (ws : List Jvm.Cond) (a1 : Addr) (k1 : ClassId) (vs : List Value) (h0 : Heap) (n0 : Nat) (Z0 : n0 ≤ h0.size) (As : Arv Z h0 a1 k1 .byte (6 : Int32) vs (.int 0)) :
  own_M l Z own_z21 own_c22 2 (some .byte) ({ frames := 0, cells := 0, slots := 0, locals := 0 } : Room) ws #[(.ref a1), (.int (3 : Int32))] h0 (Qca3_1 Z a1 k1 vs h0 n0) := by
 refine MetFree.of_bodySF (plainFor_of_name pn_k5) hisR ?_
 intro p e s m args below meth c s₁ Bd hml0 hP hK
 obtain ⟨rfl, hZ, hh⟩ := hP
 have hx := Bd.exec
 have hby := Bd.bytes
 have hml : c.maxLocals = 2 := hml0
 have hown : s.vm.findClass "java/lang/StringUTF16" = some m.cls := findClass_of_methodNamed Bd.named
 have X0 : Stand p l e ({ frames := 0, cells := 0, slots := 0, locals := 0 } : Room) s m #[(.ref a1), (.int (3 : Int32))] below meth c s₁ [] 0 0 := Stand.of_body Bd
 have e0 : s₁.heap = h0 := by rw [← hh, Bd.state]; rfl
 have N0 := Fr.nil n0
 obtain ⟨PP, hPs, pre0⟩ : ∃ PP : State → Prop, (∀ t, PP t → Steps p.tables e below (s₁.setTop (entryFrame m #[(.ref a1), (.int (3 : Int32))] 2)) t) ∧ own_pr p e below PP s₁ (mkF m 0 #[.val (.ref a1), .val (.int (3 : Int32))] []) := ⟨_, fun _ κ => κ, fun τ κ => castTop (ef_gc m a1 (3 : Int32)) κ⟩
 have Vc1 := As
 obtain ⟨cl1, Ar1, qq1, sz1, nn1, Ha1, Gf1⟩ := Vc1
 have pre2 : own_pr p e below PP s₁ (mkF m 8 #[.val (.ref a1), .val (.int (3 : Int32))] [(.int (1 : Int32))]) := fun τ κ => pre0 τ (by
  show own_st p e below s₁ (mkF m 0 #[.val (.ref a1), .val (.int (3 : Int32))] []) _
  refine XS.iloadN X0.here hx rfl (hb hby d20_0) rfl ?_
  refine XS.aloadN X0.here hx rfl (hb hby d20_1) rfl rfl ?_
  refine X0.arraylength hx (by rw [e0]; exact Ar1.1) (State.isArrayOf_alike hZ.alike Ar1.2.1) (g := (mkF m 2 #[.val (.ref a1), .val (.int (3 : Int32))] [(.ref a1), (.int (3 : Int32))])) rfl rfl (hb hby d20_2) _ ?_
  rw [len_of sz1 nn1]
  refine XS.isub X0.here hx rfl (hb hby d20_3) rfl ?_
  show own_st p e below s₁ (mkF m 4 #[.val (.ref a1), .val (.int (3 : Int32))] [(.int ((3 : Int32) - (6 : Int32)))]) _
  rw [show ((3 : Int32) - (6 : Int32)) = (-3 : Int32) from by decide]
  refine XS.bipush X0.here hx rfl (hb hby d20_4) ?_
  refine XS.iushr X0.here hx rfl (hb hby d20_6) rfl ?_
  show own_st p e below s₁ (mkF m 7 #[.val (.ref a1), .val (.int (3 : Int32))] [(.int (((-3 : Int32).toUInt32 >>> ((31 : Int32) &&& 31).toUInt32).toInt32))]) _
  rw [show (((-3 : Int32).toUInt32 >>> ((31 : Int32) &&& 31).toUInt32).toInt32) = (1 : Int32) from by decide]
  refine XS.i2b X0.here hx rfl (hb hby d20_7) rfl ?_
  show own_st p e below s₁ (mkF m 8 #[.val (.ref a1), .val (.int (3 : Int32))] [(.int ((1 : Int32).toInt8.toInt32))]) _
  rw [show ((1 : Int32).toInt8.toInt32) = (1 : Int32) from by decide]
  exact κ)
 obtain ⟨fs3, hr3, hrun3, hended3, hW3, hsame3⟩ := X0.leave (v := some (.int (1 : Int32))) (fun h => by rw [Bd.returns] at h; cases h)
 refine ⟨_, _, hPs _ (pre2 _ ?_), hrun3, hended3, _, _, rfl, ?_, ⟨_, rfl⟩, hW3, hsame3.mono (by decide) (by decide)⟩
 ·show own_st p e below s₁ (mkF m 8 #[.val (.ref a1), .val (.int (3 : Int32))] [(.int (1 : Int32))]) _
  exact retN X0 hx (t := .byte) Bd.returns (by simp) (hb hby d20_8) hr3
 ·show Qca3_1 Z a1 k1 vs h0 n0 _ s₁.heap _
  rw [e0]
  exact ⟨rfl, N0, rfl⟩


def Qca3_0 (Z : State) (a1 : Addr) (k1 : ClassId) (vs : List Value) (h0 : Heap) (n0 : Nat) (v : Option Value) (h : Heap) (L : List Loc) : Prop := v = some (.int (0 : Int32)) ∧ Fr n0 L ∧ h = h0
theorem rmca3_0 (l : Launch) (Z : State) (a0 : Array Value) (hw : own_W Z a0) (ws : List Jvm.Cond) (a1 : Addr) (k1 : ClassId) (vs : List Value) (h0 : Heap) (n0 : Nat) (Z0 : n0 ≤ h0.size) (As : Arv Z h0 a1 k1 .byte (3 : Int32) vs (.int 0)) :
  own_M l Z own_z21 own_c22 2 (some .byte) ({ frames := 0, cells := 0, slots := 0, locals := 0 } : Room) ws #[(.ref a1), (.int (3 : Int32))] h0 (Qca3_0 Z a1 k1 vs h0 n0) := by
 refine MetFree.of_bodySF (plainFor_of_name pn_k5) hisR ?_
 intro p e s m args below meth c s₁ Bd hml0 hP hK
 obtain ⟨rfl, hZ, hh⟩ := hP
 have hx := Bd.exec
 have hby := Bd.bytes
 have hml : c.maxLocals = 2 := hml0
 have hown : s.vm.findClass "java/lang/StringUTF16" = some m.cls := findClass_of_methodNamed Bd.named
 have X0 : Stand p l e ({ frames := 0, cells := 0, slots := 0, locals := 0 } : Room) s m #[(.ref a1), (.int (3 : Int32))] below meth c s₁ [] 0 0 := Stand.of_body Bd
 have e0 : s₁.heap = h0 := by rw [← hh, Bd.state]; rfl
 have N0 := Fr.nil n0
 obtain ⟨PP, hPs, pre0⟩ : ∃ PP : State → Prop, (∀ t, PP t → Steps p.tables e below (s₁.setTop (entryFrame m #[(.ref a1), (.int (3 : Int32))] 2)) t) ∧ own_pr p e below PP s₁ (mkF m 0 #[.val (.ref a1), .val (.int (3 : Int32))] []) := ⟨_, fun _ κ => κ, fun τ κ => castTop (ef_gc m a1 (3 : Int32)) κ⟩
 have Vc1 := As
 obtain ⟨cl1, Ar1, qq1, sz1, nn1, Ha1, Gf1⟩ := Vc1
 have pre2 : own_pr p e below PP s₁ (mkF m 8 #[.val (.ref a1), .val (.int (3 : Int32))] [(.int (0 : Int32))]) := fun τ κ => pre0 τ (by
  show own_st p e below s₁ (mkF m 0 #[.val (.ref a1), .val (.int (3 : Int32))] []) _
  refine XS.iloadN X0.here hx rfl (hb hby d20_0) rfl ?_
  refine XS.aloadN X0.here hx rfl (hb hby d20_1) rfl rfl ?_
  refine X0.arraylength hx (by rw [e0]; exact Ar1.1) (State.isArrayOf_alike hZ.alike Ar1.2.1) (g := (mkF m 2 #[.val (.ref a1), .val (.int (3 : Int32))] [(.ref a1), (.int (3 : Int32))])) rfl rfl (hb hby d20_2) _ ?_
  rw [len_of sz1 nn1]
  refine XS.isub X0.here hx rfl (hb hby d20_3) rfl ?_
  show own_st p e below s₁ (mkF m 4 #[.val (.ref a1), .val (.int (3 : Int32))] [(.int ((3 : Int32) - (3 : Int32)))]) _
  rw [show ((3 : Int32) - (3 : Int32)) = (0 : Int32) from by decide]
  refine XS.bipush X0.here hx rfl (hb hby d20_4) ?_
  refine XS.iushr X0.here hx rfl (hb hby d20_6) rfl ?_
  show own_st p e below s₁ (mkF m 7 #[.val (.ref a1), .val (.int (3 : Int32))] [(.int (((0 : Int32).toUInt32 >>> ((31 : Int32) &&& 31).toUInt32).toInt32))]) _
  rw [show (((0 : Int32).toUInt32 >>> ((31 : Int32) &&& 31).toUInt32).toInt32) = (0 : Int32) from by decide]
  refine XS.i2b X0.here hx rfl (hb hby d20_7) rfl ?_
  show own_st p e below s₁ (mkF m 8 #[.val (.ref a1), .val (.int (3 : Int32))] [(.int ((0 : Int32).toInt8.toInt32))]) _
  rw [show ((0 : Int32).toInt8.toInt32) = (0 : Int32) from by decide]
  exact κ)
 obtain ⟨fs3, hr3, hrun3, hended3, hW3, hsame3⟩ := X0.leave (v := some (.int (0 : Int32))) (fun h => by rw [Bd.returns] at h; cases h)
 refine ⟨_, _, hPs _ (pre2 _ ?_), hrun3, hended3, _, _, rfl, ?_, ⟨_, rfl⟩, hW3, hsame3.mono (by decide) (by decide)⟩
 ·show own_st p e below s₁ (mkF m 8 #[.val (.ref a1), .val (.int (3 : Int32))] [(.int (0 : Int32))]) _
  exact retN X0 hx (t := .byte) Bd.returns (by simp) (hb hby d20_8) hr3
 ·show Qca3_0 Z a1 k1 vs h0 n0 _ s₁.heap _
  rw [e0]
  exact ⟨rfl, N0, rfl⟩

theorem d3_0 : own_D own_c23 0 (.aload_n 0) 1 := by decide +kernel
theorem d3_1 : own_D own_c23 1 (.invokespecial 1) 3 := by decide +kernel
theorem d3_4 : own_D own_c23 4 (.iload_n 3) 1 := by decide +kernel
theorem d3_5 : own_D own_c23 5 (.ifCond .ne 22) 3 := by decide +kernel
theorem d3_8 : own_D own_c23 8 (.aload_n 0) 1 := by decide +kernel
theorem d3_9 : own_D own_c23 9 (.ldc 7) 2 := by decide +kernel
theorem d3_11 : own_D own_c23 11 (.getfield 9) 3 := by decide +kernel
theorem d3_14 : own_D own_c23 14 (.putfield 9) 3 := by decide +kernel
theorem d3_17 : own_D own_c23 17 (.aload_n 0) 1 := by decide +kernel
theorem d3_18 : own_D own_c23 18 (.ldc 7) 2 := by decide +kernel
theorem d3_20 : own_D own_c23 20 (.getfield 15) 3 := by decide +kernel
theorem d3_23 : own_D own_c23 23 (.putfield 15) 3 := by decide +kernel
theorem d3_26 : own_D own_c23 26 (.return_) 1 := by decide +kernel
theorem d3_27 : own_D own_c23 27 (.getstatic 38) 3 := by decide +kernel
theorem d3_30 : own_D own_c23 30 (.ifCond .eq 28) 3 := by decide +kernel
theorem d3_33 : own_D own_c23 33 (.aload_n 1) 1 := by decide +kernel
theorem d3_34 : own_D own_c23 34 (.iload_n 2) 1 := by decide +kernel
theorem d3_35 : own_D own_c23 35 (.iload_n 3) 1 := by decide +kernel
theorem d3_36 : own_D own_c23 36 (.invokestatic 177) 3 := by decide +kernel
theorem d3_39 : own_D own_c23 39 (.astore 5) 2 := by decide +kernel
theorem d3_41 : own_D own_c23 41 (.aload_n 0) 1 := by decide +kernel
theorem d3_42 : own_D own_c23 42 (.aload 5) 2 := by decide +kernel
theorem d3_44 : own_D own_c23 44 (.iload_n 3) 1 := by decide +kernel
theorem d3_45 : own_D own_c23 45 (.invokestatic 47) 3 := by decide +kernel
theorem d3_48 : own_D own_c23 48 (.putfield 15) 3 := by decide +kernel
theorem d3_51 : own_D own_c23 51 (.aload_n 0) 1 := by decide +kernel
theorem d3_52 : own_D own_c23 52 (.aload 5) 2 := by decide +kernel
theorem d3_54 : own_D own_c23 54 (.putfield 9) 3 := by decide +kernel
theorem d3_57 : own_D own_c23 57 (.return_) 1 := by decide +kernel

theorem pd_w41 : parseMethodDescriptor "([CIILjava/lang/Void;)V" = some ⟨[(.array .char), .int, .int, (.object "java/lang/Void")], none⟩ := by decide +kernel

theorem ef_w41 (m : MethodId) (x0 : Addr) (x1 : Addr) (x2 : Int32) (x3 : Int32)  : entryFrame m #[(.ref x0), (.ref x1), (.int x2), (.int x3), .null] 6 = mkF m 0 #[.val (.ref x0), .val (.ref x1), .val (.int x2), .val (.int x3), .val .null, .unset] [] := by first | (simp [entryFrame, mkF, argsToLocals, Value.category]; done) | rfl
def Qw41 (Z : State) (a1 a2 : Addr) (kc : ClassId) (c0 : Int32) (h0 : Heap) (n0 : Nat) (v : Option Value) (h : Heap) (L : List Loc) : Prop := v = none ∧ Fr n0 L ∧ Keep h0 h [a1] ∧ ∃ cd, own_s Z h a1 [c0] cd
theorem rmw41 (l : Launch) (Z : State) (a0 : Array Value) (hw : own_W Z a0) (ws : List Jvm.Cond) (a1 a2 : Addr) (kc : ClassId) (c0 : Int32) (h0 : Heap) (n0 : Nat) (Z0 : n0 ≤ h0.size) (F1 : Fld Z h0 a1 "java/lang/String" "value" "[B" .null) (C1 : Fld Z h0 a1 "java/lang/String" "coder" "B" (.int 0)) (E1 : Exa Z h0 a1 "java/lang/String") (g1 : n0 ≤ a1) (Ac : Arv Z h0 a2 kc .char (1 : Int32) ([c0].map Value.int) (.int 0)) (EN : own_env Z h0) (hb0 : own_b c0) :
  own_M l Z own_z2 own_c23 6 none ({ frames := 4, cells := 2, slots := 3, locals := 64 } : Room) ws #[(.ref a1), (.ref a2), (.int (0 : Int32)), (.int (1 : Int32)), .null] h0 (Qw41 Z a1 a2 kc c0 h0 n0) := by
 refine MetFree.of_bodySF (plainFor_of_name pn_k2) hisR ?_
 intro p e s m args below meth c s₁ Bd hml0 hP hK
 obtain ⟨rfl, hZ, hh⟩ := hP
 have hx := Bd.exec
 have hby := Bd.bytes
 have hml : c.maxLocals = 6 := hml0
 have hown : s.vm.findClass "java/lang/String" = some m.cls := findClass_of_methodNamed Bd.named
 have hnm := (name_of_methodNamed Bd.named Bd.method).1
 have X0 : Stand p l e ({ frames := 4, cells := 2, slots := 3, locals := 64 } : Room) s m #[(.ref a1), (.ref a2), (.int (0 : Int32)), (.int (1 : Int32)), .null] below meth c s₁ [] 0 0 := Stand.of_body Bd
 have e0 : s₁.heap = h0 := by rw [← hh, Bd.state]; rfl
 have N0 := Fr.nil n0
 obtain ⟨PP, hPs, pre0⟩ : ∃ PP : State → Prop, (∀ t, PP t → Steps p.tables e below (s₁.setTop (entryFrame m #[(.ref a1), (.ref a2), (.int (0 : Int32)), (.int (1 : Int32)), .null] 6)) t) ∧ own_pr p e below PP s₁ (mkF m 0 #[.val (.ref a1), .val (.ref a2), .val (.int (0 : Int32)), .val (.int (1 : Int32)), .val .null, .unset] []) := ⟨_, fun _ κ => κ, fun τ κ => castTop (ef_w41 m a1 a2 (0 : Int32) (1 : Int32)) κ⟩
 have EN9 := EN
 obtain ⟨z, fm, Sz, hz, -⟩ := EN9
 obtain ⟨T1, X1, e1, st1⟩ := initO X0 hx hZ hown (wd17 hw) (wd18 hw) (wd19 hw) e0 (g := (mkF m 1 #[.val (.ref a1), .val (.ref a2), .val (.int (0 : Int32)), .val (.int (1 : Int32)), .val .null, .unset] [(.ref a1)])) rfl hml.symm rfl (hb hby d3_1) (by decide) (W := 0) (by show 2 * 0 + _ ≤ _; exact Nat.le_of_eq rfl) (by decide)
 obtain ⟨T2, X2, e2, st2⟩ := getS2 X1 hx hZ hown (host := "") (Or.inl (wd45 hw)) Via.refl e1 Sz (g := (mkF m 27 #[.val (.ref a1), .val (.ref a2), .val (.int (0 : Int32)), .val (.int (1 : Int32)), .val .null, .unset] [])) rfl (hb hby d3_27)
 obtain ⟨_, T3, Lc3, X3, hQ3, st3⟩ := own_cS X2 hx hZ (y := own_z19) hown (wd108 hw) (wd109 hw) (wd110 hw) (wd111 hw) (by decide) (rmcz1 l Z a0 hw [] a2 kc c0 h0 n0 Z0 Ac EN hb0) 0 (by decide) (g := (mkF m 36 #[.val (.ref a1), .val (.ref a2), .val (.int (0 : Int32)), .val (.int (1 : Int32)), .val .null, .unset] [(.int (1 : Int32)), (.int (0 : Int32)), (.ref a2)])) rfl hml.symm [(.ref a2), (.int (0 : Int32)), (.int (1 : Int32))] [] (lenOf pd_tb1 rfl) rfl rfl (hb hby d3_36) e2 rfl
 obtain ⟨b3, kb3, cd3, NN3, vs3, rfl, N3q, E3, V3, hcod3⟩ := hQ3
 have N3 := Fr.app N0 N3q
 have F1_3 := F1.ext E3
 have C1_3 := C1.ext E3
 have E1_3 := E1.ext E3
 have Ac_3 := Ac.ext E3
 have EN_3 := EN.ext E3
 have K3 := (Keep.refl h0 []).ext E3
 have pre4 : own_pr p e below PP T3 (mkF m 45 #[.val (.ref a1), .val (.ref a2), .val (.int (0 : Int32)), .val (.int (1 : Int32)), .val .null, .val (.ref b3)] [(.int (1 : Int32)), (.ref b3), (.ref a1)]) := fun τ κ => pre0 τ (by
  show own_st p e below s₁ (mkF m 0 #[.val (.ref a1), .val (.ref a2), .val (.int (0 : Int32)), .val (.int (1 : Int32)), .val .null, .unset] []) _
  refine XS.aloadN X0.here hx rfl (hb hby d3_0) rfl rfl ?_
  refine st1 _ ?_
  refine XS.iloadN X1.here hx rfl (hb hby d3_4) rfl ?_
  refine XS.ifYes X1.here hx rfl (pc0 := 5) (pc' := 27) rfl (hb hby d3_5) rfl ((if0 _ _).trans (feq (by decide : ¬ ((1 : Int32) = (0 : Int32)))).2) (by decide) (by decide) ?_
  refine st2 _ ?_
  refine XS.ifNo X2.here hx rfl (hb hby d3_30) rfl ((if0 _ _).trans (feq hz).1) ?_
  refine XS.aloadN X2.here hx rfl (hb hby d3_33) rfl rfl ?_
  refine XS.iloadN X2.here hx rfl (hb hby d3_34) rfl ?_
  refine XS.iloadN X2.here hx rfl (hb hby d3_35) rfl ?_
  refine st3 _ ?_
  refine XS.astore X3.here hx rfl (hb hby d3_39) rfl rfl (l' := #[.val (.ref a1), .val (.ref a2), .val (.int (0 : Int32)), .val (.int (1 : Int32)), .val .null, .val (.ref b3)]) rfl ?_
  refine XS.aloadN X3.here hx rfl (hb hby d3_41) rfl rfl ?_
  refine XS.aload X3.here hx rfl (hb hby d3_42) rfl rfl ?_
  refine XS.iloadN X3.here hx rfl (hb hby d3_44) rfl ?_
  exact κ)
 rcases hcod3 with ⟨rfl, rfl, rfl, hxx⟩ | ⟨rfl, rfl, rfl, hxx⟩
 ·obtain ⟨_, T5, Lc5, X5, hQ5, st5⟩ := own_cS X3 hx hZ (y := own_z21) hown (wd115 hw) (wd116 hw) (wd110 hw) (wd117 hw) (by decide) (rmca1_0 l Z a0 hw [] b3 kb3 ([c0].map fun c => Value.int (own_lo8 c)) T3.heap n0 (Nat.le_trans Z0 E3.1) V3) 1 (by decide) (g := (mkF m 45 #[.val (.ref a1), .val (.ref a2), .val (.int (0 : Int32)), .val (.int (1 : Int32)), .val .null, .val (.ref b3)] [(.int (1 : Int32)), (.ref b3), (.ref a1)])) rfl hml.symm [(.ref b3), (.int (1 : Int32))] [(.ref a1)] (lenOf pd_ca1_1 rfl) rfl rfl (hb hby d3_45) rfl rfl
  obtain ⟨rfl, N5q, q5⟩ := hQ5
  have N5 := Fr.app N3 N5q
  obtain ⟨T6, h6, X6, e6, W6, st6⟩ := putFN X5 hx hZ hown (wd27 hw) Via.refl q5 C1_3 E1_3 (Or.inr ⟨(wd23 hw), rfl, hnm⟩) (wd7 hw) (ty := .byte) (v' := (.int (0 : Int32))) (by decide) rfl rfl (g := (mkF m 48 #[.val (.ref a1), .val (.ref a2), .val (.int (0 : Int32)), .val (.int (1 : Int32)), .val .null, .val (.ref b3)] [(.int (0 : Int32)), (.ref a1)])) rfl rfl (hb hby d3_48)
  have N6 := Fr.snoc X6 N5 g1
  have F1_6 := F1_3.other W6 (Or.inr (slot_ne (Or.inr (wd22 hw)) (Or.inr (wd23 hw)) (by decide) (t := (.array .byte)) (t' := .byte) (by decide) (by decide)))
  have C1_6 := C1_3.same W6
  have E1_6 := E1_3.wr W6
  have Ac_6 := Ac_3.other W6 (Ne.symm (E1_3.neArv Ac_3 (wd7 hw)))
  have EN_6 := EN_3.wr W6 trivial
  have V3_6 := V3.other W6 (Ne.symm (E1_3.neArv V3 (wd7 hw)))
  obtain ⟨T7, h7, X7, e7, W7, st7⟩ := putF X6 hx hZ hown (host := "") (Or.inl (wd26 hw)) Via.refl e6 F1_6 E1_6 (Or.inr ⟨(wd22 hw), rfl, hnm⟩) (wd7 hw) (ty := (.array .byte)) (by decide) rfl rfl (g := (mkF m 54 #[.val (.ref a1), .val (.ref a2), .val (.int (0 : Int32)), .val (.int (1 : Int32)), .val .null, .val (.ref b3)] [(.ref b3), (.ref a1)])) rfl rfl (hb hby d3_54)
  have N7 := Fr.snoc X7 N6 g1
  have F1_7 := F1_6.same W7
  have C1_7 := C1_6.other W7 (Or.inr (slot_ne (Or.inr (wd23 hw)) (Or.inr (wd22 hw)) (by decide) (t := .byte) (t' := (.array .byte)) (by decide) (by decide)))
  have E1_7 := E1_6.wr W7
  have Ac_7 := Ac_6.other W7 (Ne.symm (E1_6.neArv Ac_6 (wd7 hw)))
  have EN_7 := EN_6.wr W7 trivial
  have V3_7 := V3_6.other W7 (Ne.symm (E1_6.neArv V3_6 (wd7 hw)))
  have pre8 : own_pr p e below PP T7 (mkF m 57 #[.val (.ref a1), .val (.ref a2), .val (.int (0 : Int32)), .val (.int (1 : Int32)), .val .null, .val (.ref b3)] []) := fun τ κ => pre4 τ (by
   show own_st p e below T3 (mkF m 45 #[.val (.ref a1), .val (.ref a2), .val (.int (0 : Int32)), .val (.int (1 : Int32)), .val .null, .val (.ref b3)] [(.int (1 : Int32)), (.ref b3), (.ref a1)]) _
   refine st5 _ ?_
   refine st6 _ ?_
   refine XS.aloadN X6.here hx rfl (hb hby d3_51) rfl rfl ?_
   refine XS.aload X6.here hx rfl (hb hby d3_52) rfl rfl ?_
   refine st7 _ ?_
   exact κ)
  obtain ⟨fs9, hr9, hrun9, hended9, hW9, hsame9⟩ := X7.leave (v := none) (fun _ => rfl)
  refine ⟨_, _, hPs _ (pre8 _ ?_), hrun9, hended9, _, _, rfl, ?_, ⟨_, rfl⟩, hW9, hsame9.mono (by decide) (by decide)⟩
  ·show own_st p e below T7 (mkF m 57 #[.val (.ref a1), .val (.ref a2), .val (.int (0 : Int32)), .val (.int (1 : Int32)), .val .null, .val (.ref b3)] []) _
   exact X7.returnOut hx Bd.returns (hb hby d3_57) hr9
  ·show Qw41 Z a1 a2 kc c0 h0 n0 _ T7.heap _
   rw [e7]
   exact ⟨rfl, N7, (((Keep.refl h0 [a1]).ext E3).wr W6 (Or.inl (List.mem_singleton.mpr rfl))).wr W7 (Or.inl (List.mem_singleton.mpr rfl)), 0, b3, kb3, _, _, E1_7, F1_7, C1_7, V3_7, Or.inl ⟨rfl, rfl, rfl, hxx⟩⟩
 ·obtain ⟨_, T10, Lc10, X10, hQ10, st10⟩ := own_cS X3 hx hZ (y := own_z21) hown (wd115 hw) (wd116 hw) (wd110 hw) (wd117 hw) (by decide) (rmca1_1 l Z a0 hw [] b3 kb3 (own_wb [c0]) T3.heap n0 (Nat.le_trans Z0 E3.1) V3) 1 (by decide) (g := (mkF m 45 #[.val (.ref a1), .val (.ref a2), .val (.int (0 : Int32)), .val (.int (1 : Int32)), .val .null, .val (.ref b3)] [(.int (1 : Int32)), (.ref b3), (.ref a1)])) rfl hml.symm [(.ref b3), (.int (1 : Int32))] [(.ref a1)] (lenOf pd_ca1_1 rfl) rfl rfl (hb hby d3_45) rfl rfl
  obtain ⟨rfl, N10q, q10⟩ := hQ10
  have N10 := Fr.app N3 N10q
  obtain ⟨T11, h11, X11, e11, W11, st11⟩ := putFN X10 hx hZ hown (wd27 hw) Via.refl q10 C1_3 E1_3 (Or.inr ⟨(wd23 hw), rfl, hnm⟩) (wd7 hw) (ty := .byte) (v' := (.int (1 : Int32))) (by decide) rfl rfl (g := (mkF m 48 #[.val (.ref a1), .val (.ref a2), .val (.int (0 : Int32)), .val (.int (1 : Int32)), .val .null, .val (.ref b3)] [(.int (1 : Int32)), (.ref a1)])) rfl rfl (hb hby d3_48)
  have N11 := Fr.snoc X11 N10 g1
  have F1_11 := F1_3.other W11 (Or.inr (slot_ne (Or.inr (wd22 hw)) (Or.inr (wd23 hw)) (by decide) (t := (.array .byte)) (t' := .byte) (by decide) (by decide)))
  have C1_11 := C1_3.same W11
  have E1_11 := E1_3.wr W11
  have Ac_11 := Ac_3.other W11 (Ne.symm (E1_3.neArv Ac_3 (wd7 hw)))
  have EN_11 := EN_3.wr W11 trivial
  have V3_11 := V3.other W11 (Ne.symm (E1_3.neArv V3 (wd7 hw)))
  obtain ⟨T12, h12, X12, e12, W12, st12⟩ := putF X11 hx hZ hown (host := "") (Or.inl (wd26 hw)) Via.refl e11 F1_11 E1_11 (Or.inr ⟨(wd22 hw), rfl, hnm⟩) (wd7 hw) (ty := (.array .byte)) (by decide) rfl rfl (g := (mkF m 54 #[.val (.ref a1), .val (.ref a2), .val (.int (0 : Int32)), .val (.int (1 : Int32)), .val .null, .val (.ref b3)] [(.ref b3), (.ref a1)])) rfl rfl (hb hby d3_54)
  have N12 := Fr.snoc X12 N11 g1
  have F1_12 := F1_11.same W12
  have C1_12 := C1_11.other W12 (Or.inr (slot_ne (Or.inr (wd23 hw)) (Or.inr (wd22 hw)) (by decide) (t := .byte) (t' := (.array .byte)) (by decide) (by decide)))
  have E1_12 := E1_11.wr W12
  have Ac_12 := Ac_11.other W12 (Ne.symm (E1_11.neArv Ac_11 (wd7 hw)))
  have EN_12 := EN_11.wr W12 trivial
  have V3_12 := V3_11.other W12 (Ne.symm (E1_11.neArv V3_11 (wd7 hw)))
  have pre13 : own_pr p e below PP T12 (mkF m 57 #[.val (.ref a1), .val (.ref a2), .val (.int (0 : Int32)), .val (.int (1 : Int32)), .val .null, .val (.ref b3)] []) := fun τ κ => pre4 τ (by
   show own_st p e below T3 (mkF m 45 #[.val (.ref a1), .val (.ref a2), .val (.int (0 : Int32)), .val (.int (1 : Int32)), .val .null, .val (.ref b3)] [(.int (1 : Int32)), (.ref b3), (.ref a1)]) _
   refine st10 _ ?_
   refine st11 _ ?_
   refine XS.aloadN X11.here hx rfl (hb hby d3_51) rfl rfl ?_
   refine XS.aload X11.here hx rfl (hb hby d3_52) rfl rfl ?_
   refine st12 _ ?_
   exact κ)
  obtain ⟨fs14, hr14, hrun14, hended14, hW14, hsame14⟩ := X12.leave (v := none) (fun _ => rfl)
  refine ⟨_, _, hPs _ (pre13 _ ?_), hrun14, hended14, _, _, rfl, ?_, ⟨_, rfl⟩, hW14, hsame14.mono (by decide) (by decide)⟩
  ·show own_st p e below T12 (mkF m 57 #[.val (.ref a1), .val (.ref a2), .val (.int (0 : Int32)), .val (.int (1 : Int32)), .val .null, .val (.ref b3)] []) _
   exact X12.returnOut hx Bd.returns (hb hby d3_57) hr14
  ·show Qw41 Z a1 a2 kc c0 h0 n0 _ T12.heap _
   rw [e12]
   exact ⟨rfl, N12, (((Keep.refl h0 [a1]).ext E3).wr W11 (Or.inl (List.mem_singleton.mpr rfl))).wr W12 (Or.inl (List.mem_singleton.mpr rfl)), 1, b3, kb3, _, _, E1_12, F1_12, C1_12, V3_12, Or.inr ⟨rfl, rfl, rfl, hxx⟩⟩

theorem d2_0 : own_D own_c24 0 (.aload_n 0) 1 := by decide +kernel
theorem d2_1 : own_D own_c24 1 (.aload_n 1) 1 := by decide +kernel
theorem d2_2 : own_D own_c24 2 (.iconst 0) 1 := by decide +kernel
theorem d2_3 : own_D own_c24 3 (.aload_n 1) 1 := by decide +kernel
theorem d2_4 : own_D own_c24 4 (.arraylength) 1 := by decide +kernel
theorem d2_5 : own_D own_c24 5 (.aconst_null) 1 := by decide +kernel
theorem d2_6 : own_D own_c24 6 (.invokespecial 27) 3 := by decide +kernel
theorem d2_9 : own_D own_c24 9 (.return_) 1 := by decide +kernel

theorem pd_w11 : parseMethodDescriptor "([C)V" = some ⟨[(.array .char)], none⟩ := by decide +kernel

theorem ef_w11 (m : MethodId) (x0 : Addr) (x1 : Addr)  : entryFrame m #[(.ref x0), (.ref x1)] 2 = mkF m 0 #[.val (.ref x0), .val (.ref x1)] [] := by first | (simp [entryFrame, mkF, argsToLocals, Value.category]; done) | rfl
def Qw11 (Z : State) (a1 a2 : Addr) (kc : ClassId) (c0 : Int32) (h0 : Heap) (n0 : Nat) (v : Option Value) (h : Heap) (L : List Loc) : Prop := v = none ∧ Fr n0 L ∧ Keep h0 h [a1] ∧ ∃ cd, own_s Z h a1 [c0] cd
theorem rmw11 (l : Launch) (Z : State) (a0 : Array Value) (hw : own_W Z a0) (ws : List Jvm.Cond) (a1 a2 : Addr) (kc : ClassId) (c0 : Int32) (h0 : Heap) (n0 : Nat) (Z0 : n0 ≤ h0.size) (F1 : Fld Z h0 a1 "java/lang/String" "value" "[B" .null) (C1 : Fld Z h0 a1 "java/lang/String" "coder" "B" (.int 0)) (E1 : Exa Z h0 a1 "java/lang/String") (g1 : n0 ≤ a1) (Ac : Arv Z h0 a2 kc .char (1 : Int32) ([c0].map Value.int) (.int 0)) (EN : own_env Z h0) (hb0 : own_b c0) :
  own_M l Z own_z1 own_c24 2 none ({ frames := 5, cells := 2, slots := 3, locals := 81 } : Room) ws #[(.ref a1), (.ref a2)] h0 (Qw11 Z a1 a2 kc c0 h0 n0) := by
 refine MetFree.of_bodySF (plainFor_of_name pn_k2) hisR ?_
 intro p e s m args below meth c s₁ Bd hml0 hP hK
 obtain ⟨rfl, hZ, hh⟩ := hP
 have hx := Bd.exec
 have hby := Bd.bytes
 have hml : c.maxLocals = 2 := hml0
 have hown : s.vm.findClass "java/lang/String" = some m.cls := findClass_of_methodNamed Bd.named
 have X0 : Stand p l e ({ frames := 5, cells := 2, slots := 3, locals := 81 } : Room) s m #[(.ref a1), (.ref a2)] below meth c s₁ [] 0 0 := Stand.of_body Bd
 have e0 : s₁.heap = h0 := by rw [← hh, Bd.state]; rfl
 have N0 := Fr.nil n0
 obtain ⟨PP, hPs, pre0⟩ : ∃ PP : State → Prop, (∀ t, PP t → Steps p.tables e below (s₁.setTop (entryFrame m #[(.ref a1), (.ref a2)] 2)) t) ∧ own_pr p e below PP s₁ (mkF m 0 #[.val (.ref a1), .val (.ref a2)] []) := ⟨_, fun _ κ => κ, fun τ κ => castTop (ef_w11 m a1 a2) κ⟩
 have Vc1 := Ac
 obtain ⟨cl1, Ar1, qq1, sz1, nn1, Ha1, Gf1⟩ := Vc1
 obtain ⟨_, T2, Lc2, X2, hQ2, st2⟩ := own_cI X0 hx hZ (y := own_z2) rfl hown (wd13 hw) (wd14 hw) (wd16 hw) (wd8 hw) (by decide) (rmw41 l Z a0 hw [] a1 a2 kc c0 h0 n0 Z0 F1 C1 E1 g1 Ac EN hb0) 0 (by decide) (g := (mkF m 6 #[.val (.ref a1), .val (.ref a2)] [.null, (.int (1 : Int32)), (.int (0 : Int32)), (.ref a2), (.ref a1)])) rfl hml.symm a1 [(.ref a2), (.int (0 : Int32)), (.int (1 : Int32)), .null] [] (lenOf pd_w41 rfl) rfl rfl (hb hby d2_6) e0 rfl
 obtain ⟨rfl, N2q, Kp2, S2⟩ := hQ2
 have N2 := Fr.app N0 N2q
 have pre3 : own_pr p e below PP T2 (mkF m 9 #[.val (.ref a1), .val (.ref a2)] []) := fun τ κ => pre0 τ (by
  show own_st p e below s₁ (mkF m 0 #[.val (.ref a1), .val (.ref a2)] []) _
  refine XS.aloadN X0.here hx rfl (hb hby d2_0) rfl rfl ?_
  refine XS.aloadN X0.here hx rfl (hb hby d2_1) rfl rfl ?_
  refine XS.iconst X0.here hx rfl (hb hby d2_2) ?_
  refine XS.aloadN X0.here hx rfl (hb hby d2_3) rfl rfl ?_
  refine X0.arraylength hx (by rw [e0]; exact Ar1.1) (State.isArrayOf_alike hZ.alike Ar1.2.1) (g := (mkF m 4 #[.val (.ref a1), .val (.ref a2)] [(.ref a2), (.int (0 : Int32)), (.ref a2), (.ref a1)])) rfl rfl (hb hby d2_4) _ ?_
  rw [len_of sz1 nn1]
  refine XS.aconstNull X0.here hx rfl (hb hby d2_5) ?_
  refine st2 _ ?_
  exact κ)
 obtain ⟨fs4, hr4, hrun4, hended4, hW4, hsame4⟩ := X2.leave (v := none) (fun _ => rfl)
 refine ⟨_, _, hPs _ (pre3 _ ?_), hrun4, hended4, _, _, rfl, ?_, ⟨_, rfl⟩, hW4, hsame4.mono (by decide) (by decide)⟩
 ·show own_st p e below T2 (mkF m 9 #[.val (.ref a1), .val (.ref a2)] []) _
  exact X2.returnOut hx Bd.returns (hb hby d2_9) hr4
 ·show Qw11 Z a1 a2 kc c0 h0 n0 _ T2.heap _
  exact ⟨rfl, N2, Kp2, S2⟩


def Qw42 (Z : State) (a1 a2 : Addr) (kc : ClassId) (c0 c1 : Int32) (h0 : Heap) (n0 : Nat) (v : Option Value) (h : Heap) (L : List Loc) : Prop := v = none ∧ Fr n0 L ∧ Keep h0 h [a1] ∧ ∃ cd, own_s Z h a1 [c0, c1] cd
theorem rmw42 (l : Launch) (Z : State) (a0 : Array Value) (hw : own_W Z a0) (ws : List Jvm.Cond) (a1 a2 : Addr) (kc : ClassId) (c0 c1 : Int32) (h0 : Heap) (n0 : Nat) (Z0 : n0 ≤ h0.size) (F1 : Fld Z h0 a1 "java/lang/String" "value" "[B" .null) (C1 : Fld Z h0 a1 "java/lang/String" "coder" "B" (.int 0)) (E1 : Exa Z h0 a1 "java/lang/String") (g1 : n0 ≤ a1) (Ac : Arv Z h0 a2 kc .char (2 : Int32) ([c0, c1].map Value.int) (.int 0)) (EN : own_env Z h0) (hb0 : own_b c0) (hb1 : own_b c1) :
  own_M l Z own_z2 own_c23 6 none ({ frames := 4, cells := 2, slots := 6, locals := 64 } : Room) ws #[(.ref a1), (.ref a2), (.int (0 : Int32)), (.int (2 : Int32)), .null] h0 (Qw42 Z a1 a2 kc c0 c1 h0 n0) := by
 refine MetFree.of_bodySF (plainFor_of_name pn_k2) hisR ?_
 intro p e s m args below meth c s₁ Bd hml0 hP hK
 obtain ⟨rfl, hZ, hh⟩ := hP
 have hx := Bd.exec
 have hby := Bd.bytes
 have hml : c.maxLocals = 6 := hml0
 have hown : s.vm.findClass "java/lang/String" = some m.cls := findClass_of_methodNamed Bd.named
 have hnm := (name_of_methodNamed Bd.named Bd.method).1
 have X0 : Stand p l e ({ frames := 4, cells := 2, slots := 6, locals := 64 } : Room) s m #[(.ref a1), (.ref a2), (.int (0 : Int32)), (.int (2 : Int32)), .null] below meth c s₁ [] 0 0 := Stand.of_body Bd
 have e0 : s₁.heap = h0 := by rw [← hh, Bd.state]; rfl
 have N0 := Fr.nil n0
 obtain ⟨PP, hPs, pre0⟩ : ∃ PP : State → Prop, (∀ t, PP t → Steps p.tables e below (s₁.setTop (entryFrame m #[(.ref a1), (.ref a2), (.int (0 : Int32)), (.int (2 : Int32)), .null] 6)) t) ∧ own_pr p e below PP s₁ (mkF m 0 #[.val (.ref a1), .val (.ref a2), .val (.int (0 : Int32)), .val (.int (2 : Int32)), .val .null, .unset] []) := ⟨_, fun _ κ => κ, fun τ κ => castTop (ef_w41 m a1 a2 (0 : Int32) (2 : Int32)) κ⟩
 have EN9 := EN
 obtain ⟨z, fm, Sz, hz, -⟩ := EN9
 obtain ⟨T1, X1, e1, st1⟩ := initO X0 hx hZ hown (wd17 hw) (wd18 hw) (wd19 hw) e0 (g := (mkF m 1 #[.val (.ref a1), .val (.ref a2), .val (.int (0 : Int32)), .val (.int (2 : Int32)), .val .null, .unset] [(.ref a1)])) rfl hml.symm rfl (hb hby d3_1) (by decide) (W := 0) (by show 2 * 0 + _ ≤ _; exact Nat.le_of_eq rfl) (by decide)
 obtain ⟨T2, X2, e2, st2⟩ := getS2 X1 hx hZ hown (host := "") (Or.inl (wd45 hw)) Via.refl e1 Sz (g := (mkF m 27 #[.val (.ref a1), .val (.ref a2), .val (.int (0 : Int32)), .val (.int (2 : Int32)), .val .null, .unset] [])) rfl (hb hby d3_27)
 obtain ⟨_, T3, Lc3, X3, hQ3, st3⟩ := own_cS X2 hx hZ (y := own_z19) hown (wd108 hw) (wd109 hw) (wd110 hw) (wd111 hw) (by decide) (rmcz2 l Z a0 hw [] a2 kc c0 c1 h0 n0 Z0 Ac EN hb0 hb1) 0 (by decide) (g := (mkF m 36 #[.val (.ref a1), .val (.ref a2), .val (.int (0 : Int32)), .val (.int (2 : Int32)), .val .null, .unset] [(.int (2 : Int32)), (.int (0 : Int32)), (.ref a2)])) rfl hml.symm [(.ref a2), (.int (0 : Int32)), (.int (2 : Int32))] [] (lenOf pd_tb1 rfl) rfl rfl (hb hby d3_36) e2 rfl
 obtain ⟨b3, kb3, cd3, NN3, vs3, rfl, N3q, E3, V3, hcod3⟩ := hQ3
 have N3 := Fr.app N0 N3q
 have F1_3 := F1.ext E3
 have C1_3 := C1.ext E3
 have E1_3 := E1.ext E3
 have Ac_3 := Ac.ext E3
 have EN_3 := EN.ext E3
 have K3 := (Keep.refl h0 []).ext E3
 have pre4 : own_pr p e below PP T3 (mkF m 45 #[.val (.ref a1), .val (.ref a2), .val (.int (0 : Int32)), .val (.int (2 : Int32)), .val .null, .val (.ref b3)] [(.int (2 : Int32)), (.ref b3), (.ref a1)]) := fun τ κ => pre0 τ (by
  show own_st p e below s₁ (mkF m 0 #[.val (.ref a1), .val (.ref a2), .val (.int (0 : Int32)), .val (.int (2 : Int32)), .val .null, .unset] []) _
  refine XS.aloadN X0.here hx rfl (hb hby d3_0) rfl rfl ?_
  refine st1 _ ?_
  refine XS.iloadN X1.here hx rfl (hb hby d3_4) rfl ?_
  refine XS.ifYes X1.here hx rfl (pc0 := 5) (pc' := 27) rfl (hb hby d3_5) rfl ((if0 _ _).trans (feq (by decide : ¬ ((2 : Int32) = (0 : Int32)))).2) (by decide) (by decide) ?_
  refine st2 _ ?_
  refine XS.ifNo X2.here hx rfl (hb hby d3_30) rfl ((if0 _ _).trans (feq hz).1) ?_
  refine XS.aloadN X2.here hx rfl (hb hby d3_33) rfl rfl ?_
  refine XS.iloadN X2.here hx rfl (hb hby d3_34) rfl ?_
  refine XS.iloadN X2.here hx rfl (hb hby d3_35) rfl ?_
  refine st3 _ ?_
  refine XS.astore X3.here hx rfl (hb hby d3_39) rfl rfl (l' := #[.val (.ref a1), .val (.ref a2), .val (.int (0 : Int32)), .val (.int (2 : Int32)), .val .null, .val (.ref b3)]) rfl ?_
  refine XS.aloadN X3.here hx rfl (hb hby d3_41) rfl rfl ?_
  refine XS.aload X3.here hx rfl (hb hby d3_42) rfl rfl ?_
  refine XS.iloadN X3.here hx rfl (hb hby d3_44) rfl ?_
  exact κ)
 rcases hcod3 with ⟨rfl, rfl, rfl, hxx⟩ | ⟨rfl, rfl, rfl, hxx⟩
 ·obtain ⟨_, T5, Lc5, X5, hQ5, st5⟩ := own_cS X3 hx hZ (y := own_z21) hown (wd115 hw) (wd116 hw) (wd110 hw) (wd117 hw) (by decide) (rmca2_0 l Z a0 hw [] b3 kb3 ([c0, c1].map fun c => Value.int (own_lo8 c)) T3.heap n0 (Nat.le_trans Z0 E3.1) V3) 1 (by decide) (g := (mkF m 45 #[.val (.ref a1), .val (.ref a2), .val (.int (0 : Int32)), .val (.int (2 : Int32)), .val .null, .val (.ref b3)] [(.int (2 : Int32)), (.ref b3), (.ref a1)])) rfl hml.symm [(.ref b3), (.int (2 : Int32))] [(.ref a1)] (lenOf pd_ca1_1 rfl) rfl rfl (hb hby d3_45) rfl rfl
  obtain ⟨rfl, N5q, q5⟩ := hQ5
  have N5 := Fr.app N3 N5q
  obtain ⟨T6, h6, X6, e6, W6, st6⟩ := putFN X5 hx hZ hown (wd27 hw) Via.refl q5 C1_3 E1_3 (Or.inr ⟨(wd23 hw), rfl, hnm⟩) (wd7 hw) (ty := .byte) (v' := (.int (0 : Int32))) (by decide) rfl rfl (g := (mkF m 48 #[.val (.ref a1), .val (.ref a2), .val (.int (0 : Int32)), .val (.int (2 : Int32)), .val .null, .val (.ref b3)] [(.int (0 : Int32)), (.ref a1)])) rfl rfl (hb hby d3_48)
  have N6 := Fr.snoc X6 N5 g1
  have F1_6 := F1_3.other W6 (Or.inr (slot_ne (Or.inr (wd22 hw)) (Or.inr (wd23 hw)) (by decide) (t := (.array .byte)) (t' := .byte) (by decide) (by decide)))
  have C1_6 := C1_3.same W6
  have E1_6 := E1_3.wr W6
  have Ac_6 := Ac_3.other W6 (Ne.symm (E1_3.neArv Ac_3 (wd7 hw)))
  have EN_6 := EN_3.wr W6 trivial
  have V3_6 := V3.other W6 (Ne.symm (E1_3.neArv V3 (wd7 hw)))
  obtain ⟨T7, h7, X7, e7, W7, st7⟩ := putF X6 hx hZ hown (host := "") (Or.inl (wd26 hw)) Via.refl e6 F1_6 E1_6 (Or.inr ⟨(wd22 hw), rfl, hnm⟩) (wd7 hw) (ty := (.array .byte)) (by decide) rfl rfl (g := (mkF m 54 #[.val (.ref a1), .val (.ref a2), .val (.int (0 : Int32)), .val (.int (2 : Int32)), .val .null, .val (.ref b3)] [(.ref b3), (.ref a1)])) rfl rfl (hb hby d3_54)
  have N7 := Fr.snoc X7 N6 g1
  have F1_7 := F1_6.same W7
  have C1_7 := C1_6.other W7 (Or.inr (slot_ne (Or.inr (wd23 hw)) (Or.inr (wd22 hw)) (by decide) (t := .byte) (t' := (.array .byte)) (by decide) (by decide)))
  have E1_7 := E1_6.wr W7
  have Ac_7 := Ac_6.other W7 (Ne.symm (E1_6.neArv Ac_6 (wd7 hw)))
  have EN_7 := EN_6.wr W7 trivial
  have V3_7 := V3_6.other W7 (Ne.symm (E1_6.neArv V3_6 (wd7 hw)))
  have pre8 : own_pr p e below PP T7 (mkF m 57 #[.val (.ref a1), .val (.ref a2), .val (.int (0 : Int32)), .val (.int (2 : Int32)), .val .null, .val (.ref b3)] []) := fun τ κ => pre4 τ (by
   show own_st p e below T3 (mkF m 45 #[.val (.ref a1), .val (.ref a2), .val (.int (0 : Int32)), .val (.int (2 : Int32)), .val .null, .val (.ref b3)] [(.int (2 : Int32)), (.ref b3), (.ref a1)]) _
   refine st5 _ ?_
   refine st6 _ ?_
   refine XS.aloadN X6.here hx rfl (hb hby d3_51) rfl rfl ?_
   refine XS.aload X6.here hx rfl (hb hby d3_52) rfl rfl ?_
   refine st7 _ ?_
   exact κ)
  obtain ⟨fs9, hr9, hrun9, hended9, hW9, hsame9⟩ := X7.leave (v := none) (fun _ => rfl)
  refine ⟨_, _, hPs _ (pre8 _ ?_), hrun9, hended9, _, _, rfl, ?_, ⟨_, rfl⟩, hW9, hsame9.mono (by decide) (by decide)⟩
  ·show own_st p e below T7 (mkF m 57 #[.val (.ref a1), .val (.ref a2), .val (.int (0 : Int32)), .val (.int (2 : Int32)), .val .null, .val (.ref b3)] []) _
   exact X7.returnOut hx Bd.returns (hb hby d3_57) hr9
  ·show Qw42 Z a1 a2 kc c0 c1 h0 n0 _ T7.heap _
   rw [e7]
   exact ⟨rfl, N7, (((Keep.refl h0 [a1]).ext E3).wr W6 (Or.inl (List.mem_singleton.mpr rfl))).wr W7 (Or.inl (List.mem_singleton.mpr rfl)), 0, b3, kb3, _, _, E1_7, F1_7, C1_7, V3_7, Or.inl ⟨rfl, rfl, rfl, hxx⟩⟩
 ·obtain ⟨_, T10, Lc10, X10, hQ10, st10⟩ := own_cS X3 hx hZ (y := own_z21) hown (wd115 hw) (wd116 hw) (wd110 hw) (wd117 hw) (by decide) (rmca2_1 l Z a0 hw [] b3 kb3 (own_wb [c0, c1]) T3.heap n0 (Nat.le_trans Z0 E3.1) V3) 1 (by decide) (g := (mkF m 45 #[.val (.ref a1), .val (.ref a2), .val (.int (0 : Int32)), .val (.int (2 : Int32)), .val .null, .val (.ref b3)] [(.int (2 : Int32)), (.ref b3), (.ref a1)])) rfl hml.symm [(.ref b3), (.int (2 : Int32))] [(.ref a1)] (lenOf pd_ca1_1 rfl) rfl rfl (hb hby d3_45) rfl rfl
  obtain ⟨rfl, N10q, q10⟩ := hQ10
  have N10 := Fr.app N3 N10q
  obtain ⟨T11, h11, X11, e11, W11, st11⟩ := putFN X10 hx hZ hown (wd27 hw) Via.refl q10 C1_3 E1_3 (Or.inr ⟨(wd23 hw), rfl, hnm⟩) (wd7 hw) (ty := .byte) (v' := (.int (1 : Int32))) (by decide) rfl rfl (g := (mkF m 48 #[.val (.ref a1), .val (.ref a2), .val (.int (0 : Int32)), .val (.int (2 : Int32)), .val .null, .val (.ref b3)] [(.int (1 : Int32)), (.ref a1)])) rfl rfl (hb hby d3_48)
  have N11 := Fr.snoc X11 N10 g1
  have F1_11 := F1_3.other W11 (Or.inr (slot_ne (Or.inr (wd22 hw)) (Or.inr (wd23 hw)) (by decide) (t := (.array .byte)) (t' := .byte) (by decide) (by decide)))
  have C1_11 := C1_3.same W11
  have E1_11 := E1_3.wr W11
  have Ac_11 := Ac_3.other W11 (Ne.symm (E1_3.neArv Ac_3 (wd7 hw)))
  have EN_11 := EN_3.wr W11 trivial
  have V3_11 := V3.other W11 (Ne.symm (E1_3.neArv V3 (wd7 hw)))
  obtain ⟨T12, h12, X12, e12, W12, st12⟩ := putF X11 hx hZ hown (host := "") (Or.inl (wd26 hw)) Via.refl e11 F1_11 E1_11 (Or.inr ⟨(wd22 hw), rfl, hnm⟩) (wd7 hw) (ty := (.array .byte)) (by decide) rfl rfl (g := (mkF m 54 #[.val (.ref a1), .val (.ref a2), .val (.int (0 : Int32)), .val (.int (2 : Int32)), .val .null, .val (.ref b3)] [(.ref b3), (.ref a1)])) rfl rfl (hb hby d3_54)
  have N12 := Fr.snoc X12 N11 g1
  have F1_12 := F1_11.same W12
  have C1_12 := C1_11.other W12 (Or.inr (slot_ne (Or.inr (wd23 hw)) (Or.inr (wd22 hw)) (by decide) (t := .byte) (t' := (.array .byte)) (by decide) (by decide)))
  have E1_12 := E1_11.wr W12
  have Ac_12 := Ac_11.other W12 (Ne.symm (E1_11.neArv Ac_11 (wd7 hw)))
  have EN_12 := EN_11.wr W12 trivial
  have V3_12 := V3_11.other W12 (Ne.symm (E1_11.neArv V3_11 (wd7 hw)))
  have pre13 : own_pr p e below PP T12 (mkF m 57 #[.val (.ref a1), .val (.ref a2), .val (.int (0 : Int32)), .val (.int (2 : Int32)), .val .null, .val (.ref b3)] []) := fun τ κ => pre4 τ (by
   show own_st p e below T3 (mkF m 45 #[.val (.ref a1), .val (.ref a2), .val (.int (0 : Int32)), .val (.int (2 : Int32)), .val .null, .val (.ref b3)] [(.int (2 : Int32)), (.ref b3), (.ref a1)]) _
   refine st10 _ ?_
   refine st11 _ ?_
   refine XS.aloadN X11.here hx rfl (hb hby d3_51) rfl rfl ?_
   refine XS.aload X11.here hx rfl (hb hby d3_52) rfl rfl ?_
   refine st12 _ ?_
   exact κ)
  obtain ⟨fs14, hr14, hrun14, hended14, hW14, hsame14⟩ := X12.leave (v := none) (fun _ => rfl)
  refine ⟨_, _, hPs _ (pre13 _ ?_), hrun14, hended14, _, _, rfl, ?_, ⟨_, rfl⟩, hW14, hsame14.mono (by decide) (by decide)⟩
  ·show own_st p e below T12 (mkF m 57 #[.val (.ref a1), .val (.ref a2), .val (.int (0 : Int32)), .val (.int (2 : Int32)), .val .null, .val (.ref b3)] []) _
   exact X12.returnOut hx Bd.returns (hb hby d3_57) hr14
  ·show Qw42 Z a1 a2 kc c0 c1 h0 n0 _ T12.heap _
   rw [e12]
   exact ⟨rfl, N12, (((Keep.refl h0 [a1]).ext E3).wr W11 (Or.inl (List.mem_singleton.mpr rfl))).wr W12 (Or.inl (List.mem_singleton.mpr rfl)), 1, b3, kb3, _, _, E1_12, F1_12, C1_12, V3_12, Or.inr ⟨rfl, rfl, rfl, hxx⟩⟩


def Qw12 (Z : State) (a1 a2 : Addr) (kc : ClassId) (c0 c1 : Int32) (h0 : Heap) (n0 : Nat) (v : Option Value) (h : Heap) (L : List Loc) : Prop := v = none ∧ Fr n0 L ∧ Keep h0 h [a1] ∧ ∃ cd, own_s Z h a1 [c0, c1] cd
theorem rmw12 (l : Launch) (Z : State) (a0 : Array Value) (hw : own_W Z a0) (ws : List Jvm.Cond) (a1 a2 : Addr) (kc : ClassId) (c0 c1 : Int32) (h0 : Heap) (n0 : Nat) (Z0 : n0 ≤ h0.size) (F1 : Fld Z h0 a1 "java/lang/String" "value" "[B" .null) (C1 : Fld Z h0 a1 "java/lang/String" "coder" "B" (.int 0)) (E1 : Exa Z h0 a1 "java/lang/String") (g1 : n0 ≤ a1) (Ac : Arv Z h0 a2 kc .char (2 : Int32) ([c0, c1].map Value.int) (.int 0)) (EN : own_env Z h0) (hb0 : own_b c0) (hb1 : own_b c1) :
  own_M l Z own_z1 own_c24 2 none ({ frames := 5, cells := 2, slots := 6, locals := 81 } : Room) ws #[(.ref a1), (.ref a2)] h0 (Qw12 Z a1 a2 kc c0 c1 h0 n0) := by
 refine MetFree.of_bodySF (plainFor_of_name pn_k2) hisR ?_
 intro p e s m args below meth c s₁ Bd hml0 hP hK
 obtain ⟨rfl, hZ, hh⟩ := hP
 have hx := Bd.exec
 have hby := Bd.bytes
 have hml : c.maxLocals = 2 := hml0
 have hown : s.vm.findClass "java/lang/String" = some m.cls := findClass_of_methodNamed Bd.named
 have X0 : Stand p l e ({ frames := 5, cells := 2, slots := 6, locals := 81 } : Room) s m #[(.ref a1), (.ref a2)] below meth c s₁ [] 0 0 := Stand.of_body Bd
 have e0 : s₁.heap = h0 := by rw [← hh, Bd.state]; rfl
 have N0 := Fr.nil n0
 obtain ⟨PP, hPs, pre0⟩ : ∃ PP : State → Prop, (∀ t, PP t → Steps p.tables e below (s₁.setTop (entryFrame m #[(.ref a1), (.ref a2)] 2)) t) ∧ own_pr p e below PP s₁ (mkF m 0 #[.val (.ref a1), .val (.ref a2)] []) := ⟨_, fun _ κ => κ, fun τ κ => castTop (ef_w11 m a1 a2) κ⟩
 have Vc1 := Ac
 obtain ⟨cl1, Ar1, qq1, sz1, nn1, Ha1, Gf1⟩ := Vc1
 obtain ⟨_, T2, Lc2, X2, hQ2, st2⟩ := own_cI X0 hx hZ (y := own_z2) rfl hown (wd13 hw) (wd14 hw) (wd16 hw) (wd8 hw) (by decide) (rmw42 l Z a0 hw [] a1 a2 kc c0 c1 h0 n0 Z0 F1 C1 E1 g1 Ac EN hb0 hb1) 0 (by decide) (g := (mkF m 6 #[.val (.ref a1), .val (.ref a2)] [.null, (.int (2 : Int32)), (.int (0 : Int32)), (.ref a2), (.ref a1)])) rfl hml.symm a1 [(.ref a2), (.int (0 : Int32)), (.int (2 : Int32)), .null] [] (lenOf pd_w41 rfl) rfl rfl (hb hby d2_6) e0 rfl
 obtain ⟨rfl, N2q, Kp2, S2⟩ := hQ2
 have N2 := Fr.app N0 N2q
 have pre3 : own_pr p e below PP T2 (mkF m 9 #[.val (.ref a1), .val (.ref a2)] []) := fun τ κ => pre0 τ (by
  show own_st p e below s₁ (mkF m 0 #[.val (.ref a1), .val (.ref a2)] []) _
  refine XS.aloadN X0.here hx rfl (hb hby d2_0) rfl rfl ?_
  refine XS.aloadN X0.here hx rfl (hb hby d2_1) rfl rfl ?_
  refine XS.iconst X0.here hx rfl (hb hby d2_2) ?_
  refine XS.aloadN X0.here hx rfl (hb hby d2_3) rfl rfl ?_
  refine X0.arraylength hx (by rw [e0]; exact Ar1.1) (State.isArrayOf_alike hZ.alike Ar1.2.1) (g := (mkF m 4 #[.val (.ref a1), .val (.ref a2)] [(.ref a2), (.int (0 : Int32)), (.ref a2), (.ref a1)])) rfl rfl (hb hby d2_4) _ ?_
  rw [len_of sz1 nn1]
  refine XS.aconstNull X0.here hx rfl (hb hby d2_5) ?_
  refine st2 _ ?_
  exact κ)
 obtain ⟨fs4, hr4, hrun4, hended4, hW4, hsame4⟩ := X2.leave (v := none) (fun _ => rfl)
 refine ⟨_, _, hPs _ (pre3 _ ?_), hrun4, hended4, _, _, rfl, ?_, ⟨_, rfl⟩, hW4, hsame4.mono (by decide) (by decide)⟩
 ·show own_st p e below T2 (mkF m 9 #[.val (.ref a1), .val (.ref a2)] []) _
  exact X2.returnOut hx Bd.returns (hb hby d2_9) hr4
 ·show Qw12 Z a1 a2 kc c0 c1 h0 n0 _ T2.heap _
  exact ⟨rfl, N2, Kp2, S2⟩


def Qw43 (Z : State) (a1 a2 : Addr) (kc : ClassId) (c0 c1 c2 : Int32) (h0 : Heap) (n0 : Nat) (v : Option Value) (h : Heap) (L : List Loc) : Prop := v = none ∧ Fr n0 L ∧ Keep h0 h [a1] ∧ ∃ cd, own_s Z h a1 [c0, c1, c2] cd
theorem rmw43 (l : Launch) (Z : State) (a0 : Array Value) (hw : own_W Z a0) (ws : List Jvm.Cond) (a1 a2 : Addr) (kc : ClassId) (c0 c1 c2 : Int32) (h0 : Heap) (n0 : Nat) (Z0 : n0 ≤ h0.size) (F1 : Fld Z h0 a1 "java/lang/String" "value" "[B" .null) (C1 : Fld Z h0 a1 "java/lang/String" "coder" "B" (.int 0)) (E1 : Exa Z h0 a1 "java/lang/String") (g1 : n0 ≤ a1) (Ac : Arv Z h0 a2 kc .char (3 : Int32) ([c0, c1, c2].map Value.int) (.int 0)) (EN : own_env Z h0) (hb0 : own_b c0) (hb1 : own_b c1) (hb2 : own_b c2) :
  own_M l Z own_z2 own_c23 6 none ({ frames := 4, cells := 2, slots := 9, locals := 64 } : Room) ws #[(.ref a1), (.ref a2), (.int (0 : Int32)), (.int (3 : Int32)), .null] h0 (Qw43 Z a1 a2 kc c0 c1 c2 h0 n0) := by
 refine MetFree.of_bodySF (plainFor_of_name pn_k2) hisR ?_
 intro p e s m args below meth c s₁ Bd hml0 hP hK
 obtain ⟨rfl, hZ, hh⟩ := hP
 have hx := Bd.exec
 have hby := Bd.bytes
 have hml : c.maxLocals = 6 := hml0
 have hown : s.vm.findClass "java/lang/String" = some m.cls := findClass_of_methodNamed Bd.named
 have hnm := (name_of_methodNamed Bd.named Bd.method).1
 have X0 : Stand p l e ({ frames := 4, cells := 2, slots := 9, locals := 64 } : Room) s m #[(.ref a1), (.ref a2), (.int (0 : Int32)), (.int (3 : Int32)), .null] below meth c s₁ [] 0 0 := Stand.of_body Bd
 have e0 : s₁.heap = h0 := by rw [← hh, Bd.state]; rfl
 have N0 := Fr.nil n0
 obtain ⟨PP, hPs, pre0⟩ : ∃ PP : State → Prop, (∀ t, PP t → Steps p.tables e below (s₁.setTop (entryFrame m #[(.ref a1), (.ref a2), (.int (0 : Int32)), (.int (3 : Int32)), .null] 6)) t) ∧ own_pr p e below PP s₁ (mkF m 0 #[.val (.ref a1), .val (.ref a2), .val (.int (0 : Int32)), .val (.int (3 : Int32)), .val .null, .unset] []) := ⟨_, fun _ κ => κ, fun τ κ => castTop (ef_w41 m a1 a2 (0 : Int32) (3 : Int32)) κ⟩
 have EN9 := EN
 obtain ⟨z, fm, Sz, hz, -⟩ := EN9
 obtain ⟨T1, X1, e1, st1⟩ := initO X0 hx hZ hown (wd17 hw) (wd18 hw) (wd19 hw) e0 (g := (mkF m 1 #[.val (.ref a1), .val (.ref a2), .val (.int (0 : Int32)), .val (.int (3 : Int32)), .val .null, .unset] [(.ref a1)])) rfl hml.symm rfl (hb hby d3_1) (by decide) (W := 0) (by show 2 * 0 + _ ≤ _; exact Nat.le_of_eq rfl) (by decide)
 obtain ⟨T2, X2, e2, st2⟩ := getS2 X1 hx hZ hown (host := "") (Or.inl (wd45 hw)) Via.refl e1 Sz (g := (mkF m 27 #[.val (.ref a1), .val (.ref a2), .val (.int (0 : Int32)), .val (.int (3 : Int32)), .val .null, .unset] [])) rfl (hb hby d3_27)
 obtain ⟨_, T3, Lc3, X3, hQ3, st3⟩ := own_cS X2 hx hZ (y := own_z19) hown (wd108 hw) (wd109 hw) (wd110 hw) (wd111 hw) (by decide) (rmcz3 l Z a0 hw [] a2 kc c0 c1 c2 h0 n0 Z0 Ac EN hb0 hb1 hb2) 0 (by decide) (g := (mkF m 36 #[.val (.ref a1), .val (.ref a2), .val (.int (0 : Int32)), .val (.int (3 : Int32)), .val .null, .unset] [(.int (3 : Int32)), (.int (0 : Int32)), (.ref a2)])) rfl hml.symm [(.ref a2), (.int (0 : Int32)), (.int (3 : Int32))] [] (lenOf pd_tb1 rfl) rfl rfl (hb hby d3_36) e2 rfl
 obtain ⟨b3, kb3, cd3, NN3, vs3, rfl, N3q, E3, V3, hcod3⟩ := hQ3
 have N3 := Fr.app N0 N3q
 have F1_3 := F1.ext E3
 have C1_3 := C1.ext E3
 have E1_3 := E1.ext E3
 have Ac_3 := Ac.ext E3
 have EN_3 := EN.ext E3
 have K3 := (Keep.refl h0 []).ext E3
 have pre4 : own_pr p e below PP T3 (mkF m 45 #[.val (.ref a1), .val (.ref a2), .val (.int (0 : Int32)), .val (.int (3 : Int32)), .val .null, .val (.ref b3)] [(.int (3 : Int32)), (.ref b3), (.ref a1)]) := fun τ κ => pre0 τ (by
  show own_st p e below s₁ (mkF m 0 #[.val (.ref a1), .val (.ref a2), .val (.int (0 : Int32)), .val (.int (3 : Int32)), .val .null, .unset] []) _
  refine XS.aloadN X0.here hx rfl (hb hby d3_0) rfl rfl ?_
  refine st1 _ ?_
  refine XS.iloadN X1.here hx rfl (hb hby d3_4) rfl ?_
  refine XS.ifYes X1.here hx rfl (pc0 := 5) (pc' := 27) rfl (hb hby d3_5) rfl ((if0 _ _).trans (feq (by decide : ¬ ((3 : Int32) = (0 : Int32)))).2) (by decide) (by decide) ?_
  refine st2 _ ?_
  refine XS.ifNo X2.here hx rfl (hb hby d3_30) rfl ((if0 _ _).trans (feq hz).1) ?_
  refine XS.aloadN X2.here hx rfl (hb hby d3_33) rfl rfl ?_
  refine XS.iloadN X2.here hx rfl (hb hby d3_34) rfl ?_
  refine XS.iloadN X2.here hx rfl (hb hby d3_35) rfl ?_
  refine st3 _ ?_
  refine XS.astore X3.here hx rfl (hb hby d3_39) rfl rfl (l' := #[.val (.ref a1), .val (.ref a2), .val (.int (0 : Int32)), .val (.int (3 : Int32)), .val .null, .val (.ref b3)]) rfl ?_
  refine XS.aloadN X3.here hx rfl (hb hby d3_41) rfl rfl ?_
  refine XS.aload X3.here hx rfl (hb hby d3_42) rfl rfl ?_
  refine XS.iloadN X3.here hx rfl (hb hby d3_44) rfl ?_
  exact κ)
 rcases hcod3 with ⟨rfl, rfl, rfl, hxx⟩ | ⟨rfl, rfl, rfl, hxx⟩
 ·obtain ⟨_, T5, Lc5, X5, hQ5, st5⟩ := own_cS X3 hx hZ (y := own_z21) hown (wd115 hw) (wd116 hw) (wd110 hw) (wd117 hw) (by decide) (rmca3_0 l Z a0 hw [] b3 kb3 ([c0, c1, c2].map fun c => Value.int (own_lo8 c)) T3.heap n0 (Nat.le_trans Z0 E3.1) V3) 1 (by decide) (g := (mkF m 45 #[.val (.ref a1), .val (.ref a2), .val (.int (0 : Int32)), .val (.int (3 : Int32)), .val .null, .val (.ref b3)] [(.int (3 : Int32)), (.ref b3), (.ref a1)])) rfl hml.symm [(.ref b3), (.int (3 : Int32))] [(.ref a1)] (lenOf pd_ca1_1 rfl) rfl rfl (hb hby d3_45) rfl rfl
  obtain ⟨rfl, N5q, q5⟩ := hQ5
  have N5 := Fr.app N3 N5q
  obtain ⟨T6, h6, X6, e6, W6, st6⟩ := putFN X5 hx hZ hown (wd27 hw) Via.refl q5 C1_3 E1_3 (Or.inr ⟨(wd23 hw), rfl, hnm⟩) (wd7 hw) (ty := .byte) (v' := (.int (0 : Int32))) (by decide) rfl rfl (g := (mkF m 48 #[.val (.ref a1), .val (.ref a2), .val (.int (0 : Int32)), .val (.int (3 : Int32)), .val .null, .val (.ref b3)] [(.int (0 : Int32)), (.ref a1)])) rfl rfl (hb hby d3_48)
  have N6 := Fr.snoc X6 N5 g1
  have F1_6 := F1_3.other W6 (Or.inr (slot_ne (Or.inr (wd22 hw)) (Or.inr (wd23 hw)) (by decide) (t := (.array .byte)) (t' := .byte) (by decide) (by decide)))
  have C1_6 := C1_3.same W6
  have E1_6 := E1_3.wr W6
  have Ac_6 := Ac_3.other W6 (Ne.symm (E1_3.neArv Ac_3 (wd7 hw)))
  have EN_6 := EN_3.wr W6 trivial
  have V3_6 := V3.other W6 (Ne.symm (E1_3.neArv V3 (wd7 hw)))
  obtain ⟨T7, h7, X7, e7, W7, st7⟩ := putF X6 hx hZ hown (host := "") (Or.inl (wd26 hw)) Via.refl e6 F1_6 E1_6 (Or.inr ⟨(wd22 hw), rfl, hnm⟩) (wd7 hw) (ty := (.array .byte)) (by decide) rfl rfl (g := (mkF m 54 #[.val (.ref a1), .val (.ref a2), .val (.int (0 : Int32)), .val (.int (3 : Int32)), .val .null, .val (.ref b3)] [(.ref b3), (.ref a1)])) rfl rfl (hb hby d3_54)
  have N7 := Fr.snoc X7 N6 g1
  have F1_7 := F1_6.same W7
  have C1_7 := C1_6.other W7 (Or.inr (slot_ne (Or.inr (wd23 hw)) (Or.inr (wd22 hw)) (by decide) (t := .byte) (t' := (.array .byte)) (by decide) (by decide)))
  have E1_7 := E1_6.wr W7
  have Ac_7 := Ac_6.other W7 (Ne.symm (E1_6.neArv Ac_6 (wd7 hw)))
  have EN_7 := EN_6.wr W7 trivial
  have V3_7 := V3_6.other W7 (Ne.symm (E1_6.neArv V3_6 (wd7 hw)))
  have pre8 : own_pr p e below PP T7 (mkF m 57 #[.val (.ref a1), .val (.ref a2), .val (.int (0 : Int32)), .val (.int (3 : Int32)), .val .null, .val (.ref b3)] []) := fun τ κ => pre4 τ (by
   show own_st p e below T3 (mkF m 45 #[.val (.ref a1), .val (.ref a2), .val (.int (0 : Int32)), .val (.int (3 : Int32)), .val .null, .val (.ref b3)] [(.int (3 : Int32)), (.ref b3), (.ref a1)]) _
   refine st5 _ ?_
   refine st6 _ ?_
   refine XS.aloadN X6.here hx rfl (hb hby d3_51) rfl rfl ?_
   refine XS.aload X6.here hx rfl (hb hby d3_52) rfl rfl ?_
   refine st7 _ ?_
   exact κ)
  obtain ⟨fs9, hr9, hrun9, hended9, hW9, hsame9⟩ := X7.leave (v := none) (fun _ => rfl)
  refine ⟨_, _, hPs _ (pre8 _ ?_), hrun9, hended9, _, _, rfl, ?_, ⟨_, rfl⟩, hW9, hsame9.mono (by decide) (by decide)⟩
  ·show own_st p e below T7 (mkF m 57 #[.val (.ref a1), .val (.ref a2), .val (.int (0 : Int32)), .val (.int (3 : Int32)), .val .null, .val (.ref b3)] []) _
   exact X7.returnOut hx Bd.returns (hb hby d3_57) hr9
  ·show Qw43 Z a1 a2 kc c0 c1 c2 h0 n0 _ T7.heap _
   rw [e7]
   exact ⟨rfl, N7, (((Keep.refl h0 [a1]).ext E3).wr W6 (Or.inl (List.mem_singleton.mpr rfl))).wr W7 (Or.inl (List.mem_singleton.mpr rfl)), 0, b3, kb3, _, _, E1_7, F1_7, C1_7, V3_7, Or.inl ⟨rfl, rfl, rfl, hxx⟩⟩
 ·obtain ⟨_, T10, Lc10, X10, hQ10, st10⟩ := own_cS X3 hx hZ (y := own_z21) hown (wd115 hw) (wd116 hw) (wd110 hw) (wd117 hw) (by decide) (rmca3_1 l Z a0 hw [] b3 kb3 (own_wb [c0, c1, c2]) T3.heap n0 (Nat.le_trans Z0 E3.1) V3) 1 (by decide) (g := (mkF m 45 #[.val (.ref a1), .val (.ref a2), .val (.int (0 : Int32)), .val (.int (3 : Int32)), .val .null, .val (.ref b3)] [(.int (3 : Int32)), (.ref b3), (.ref a1)])) rfl hml.symm [(.ref b3), (.int (3 : Int32))] [(.ref a1)] (lenOf pd_ca1_1 rfl) rfl rfl (hb hby d3_45) rfl rfl
  obtain ⟨rfl, N10q, q10⟩ := hQ10
  have N10 := Fr.app N3 N10q
  obtain ⟨T11, h11, X11, e11, W11, st11⟩ := putFN X10 hx hZ hown (wd27 hw) Via.refl q10 C1_3 E1_3 (Or.inr ⟨(wd23 hw), rfl, hnm⟩) (wd7 hw) (ty := .byte) (v' := (.int (1 : Int32))) (by decide) rfl rfl (g := (mkF m 48 #[.val (.ref a1), .val (.ref a2), .val (.int (0 : Int32)), .val (.int (3 : Int32)), .val .null, .val (.ref b3)] [(.int (1 : Int32)), (.ref a1)])) rfl rfl (hb hby d3_48)
  have N11 := Fr.snoc X11 N10 g1
  have F1_11 := F1_3.other W11 (Or.inr (slot_ne (Or.inr (wd22 hw)) (Or.inr (wd23 hw)) (by decide) (t := (.array .byte)) (t' := .byte) (by decide) (by decide)))
  have C1_11 := C1_3.same W11
  have E1_11 := E1_3.wr W11
  have Ac_11 := Ac_3.other W11 (Ne.symm (E1_3.neArv Ac_3 (wd7 hw)))
  have EN_11 := EN_3.wr W11 trivial
  have V3_11 := V3.other W11 (Ne.symm (E1_3.neArv V3 (wd7 hw)))
  obtain ⟨T12, h12, X12, e12, W12, st12⟩ := putF X11 hx hZ hown (host := "") (Or.inl (wd26 hw)) Via.refl e11 F1_11 E1_11 (Or.inr ⟨(wd22 hw), rfl, hnm⟩) (wd7 hw) (ty := (.array .byte)) (by decide) rfl rfl (g := (mkF m 54 #[.val (.ref a1), .val (.ref a2), .val (.int (0 : Int32)), .val (.int (3 : Int32)), .val .null, .val (.ref b3)] [(.ref b3), (.ref a1)])) rfl rfl (hb hby d3_54)
  have N12 := Fr.snoc X12 N11 g1
  have F1_12 := F1_11.same W12
  have C1_12 := C1_11.other W12 (Or.inr (slot_ne (Or.inr (wd23 hw)) (Or.inr (wd22 hw)) (by decide) (t := .byte) (t' := (.array .byte)) (by decide) (by decide)))
  have E1_12 := E1_11.wr W12
  have Ac_12 := Ac_11.other W12 (Ne.symm (E1_11.neArv Ac_11 (wd7 hw)))
  have EN_12 := EN_11.wr W12 trivial
  have V3_12 := V3_11.other W12 (Ne.symm (E1_11.neArv V3_11 (wd7 hw)))
  have pre13 : own_pr p e below PP T12 (mkF m 57 #[.val (.ref a1), .val (.ref a2), .val (.int (0 : Int32)), .val (.int (3 : Int32)), .val .null, .val (.ref b3)] []) := fun τ κ => pre4 τ (by
   show own_st p e below T3 (mkF m 45 #[.val (.ref a1), .val (.ref a2), .val (.int (0 : Int32)), .val (.int (3 : Int32)), .val .null, .val (.ref b3)] [(.int (3 : Int32)), (.ref b3), (.ref a1)]) _
   refine st10 _ ?_
   refine st11 _ ?_
   refine XS.aloadN X11.here hx rfl (hb hby d3_51) rfl rfl ?_
   refine XS.aload X11.here hx rfl (hb hby d3_52) rfl rfl ?_
   refine st12 _ ?_
   exact κ)
  obtain ⟨fs14, hr14, hrun14, hended14, hW14, hsame14⟩ := X12.leave (v := none) (fun _ => rfl)
  refine ⟨_, _, hPs _ (pre13 _ ?_), hrun14, hended14, _, _, rfl, ?_, ⟨_, rfl⟩, hW14, hsame14.mono (by decide) (by decide)⟩
  ·show own_st p e below T12 (mkF m 57 #[.val (.ref a1), .val (.ref a2), .val (.int (0 : Int32)), .val (.int (3 : Int32)), .val .null, .val (.ref b3)] []) _
   exact X12.returnOut hx Bd.returns (hb hby d3_57) hr14
  ·show Qw43 Z a1 a2 kc c0 c1 c2 h0 n0 _ T12.heap _
   rw [e12]
   exact ⟨rfl, N12, (((Keep.refl h0 [a1]).ext E3).wr W11 (Or.inl (List.mem_singleton.mpr rfl))).wr W12 (Or.inl (List.mem_singleton.mpr rfl)), 1, b3, kb3, _, _, E1_12, F1_12, C1_12, V3_12, Or.inr ⟨rfl, rfl, rfl, hxx⟩⟩


def Qw13 (Z : State) (a1 a2 : Addr) (kc : ClassId) (c0 c1 c2 : Int32) (h0 : Heap) (n0 : Nat) (v : Option Value) (h : Heap) (L : List Loc) : Prop := v = none ∧ Fr n0 L ∧ Keep h0 h [a1] ∧ ∃ cd, own_s Z h a1 [c0, c1, c2] cd
theorem rmw13 (l : Launch) (Z : State) (a0 : Array Value) (hw : own_W Z a0) (ws : List Jvm.Cond) (a1 a2 : Addr) (kc : ClassId) (c0 c1 c2 : Int32) (h0 : Heap) (n0 : Nat) (Z0 : n0 ≤ h0.size) (F1 : Fld Z h0 a1 "java/lang/String" "value" "[B" .null) (C1 : Fld Z h0 a1 "java/lang/String" "coder" "B" (.int 0)) (E1 : Exa Z h0 a1 "java/lang/String") (g1 : n0 ≤ a1) (Ac : Arv Z h0 a2 kc .char (3 : Int32) ([c0, c1, c2].map Value.int) (.int 0)) (EN : own_env Z h0) (hb0 : own_b c0) (hb1 : own_b c1) (hb2 : own_b c2) :
  own_M l Z own_z1 own_c24 2 none ({ frames := 5, cells := 2, slots := 9, locals := 81 } : Room) ws #[(.ref a1), (.ref a2)] h0 (Qw13 Z a1 a2 kc c0 c1 c2 h0 n0) := by
 refine MetFree.of_bodySF (plainFor_of_name pn_k2) hisR ?_
 intro p e s m args below meth c s₁ Bd hml0 hP hK
 obtain ⟨rfl, hZ, hh⟩ := hP
 have hx := Bd.exec
 have hby := Bd.bytes
 have hml : c.maxLocals = 2 := hml0
 have hown : s.vm.findClass "java/lang/String" = some m.cls := findClass_of_methodNamed Bd.named
 have X0 : Stand p l e ({ frames := 5, cells := 2, slots := 9, locals := 81 } : Room) s m #[(.ref a1), (.ref a2)] below meth c s₁ [] 0 0 := Stand.of_body Bd
 have e0 : s₁.heap = h0 := by rw [← hh, Bd.state]; rfl
 have N0 := Fr.nil n0
 obtain ⟨PP, hPs, pre0⟩ : ∃ PP : State → Prop, (∀ t, PP t → Steps p.tables e below (s₁.setTop (entryFrame m #[(.ref a1), (.ref a2)] 2)) t) ∧ own_pr p e below PP s₁ (mkF m 0 #[.val (.ref a1), .val (.ref a2)] []) := ⟨_, fun _ κ => κ, fun τ κ => castTop (ef_w11 m a1 a2) κ⟩
 have Vc1 := Ac
 obtain ⟨cl1, Ar1, qq1, sz1, nn1, Ha1, Gf1⟩ := Vc1
 obtain ⟨_, T2, Lc2, X2, hQ2, st2⟩ := own_cI X0 hx hZ (y := own_z2) rfl hown (wd13 hw) (wd14 hw) (wd16 hw) (wd8 hw) (by decide) (rmw43 l Z a0 hw [] a1 a2 kc c0 c1 c2 h0 n0 Z0 F1 C1 E1 g1 Ac EN hb0 hb1 hb2) 0 (by decide) (g := (mkF m 6 #[.val (.ref a1), .val (.ref a2)] [.null, (.int (3 : Int32)), (.int (0 : Int32)), (.ref a2), (.ref a1)])) rfl hml.symm a1 [(.ref a2), (.int (0 : Int32)), (.int (3 : Int32)), .null] [] (lenOf pd_w41 rfl) rfl rfl (hb hby d2_6) e0 rfl
 obtain ⟨rfl, N2q, Kp2, S2⟩ := hQ2
 have N2 := Fr.app N0 N2q
 have pre3 : own_pr p e below PP T2 (mkF m 9 #[.val (.ref a1), .val (.ref a2)] []) := fun τ κ => pre0 τ (by
  show own_st p e below s₁ (mkF m 0 #[.val (.ref a1), .val (.ref a2)] []) _
  refine XS.aloadN X0.here hx rfl (hb hby d2_0) rfl rfl ?_
  refine XS.aloadN X0.here hx rfl (hb hby d2_1) rfl rfl ?_
  refine XS.iconst X0.here hx rfl (hb hby d2_2) ?_
  refine XS.aloadN X0.here hx rfl (hb hby d2_3) rfl rfl ?_
  refine X0.arraylength hx (by rw [e0]; exact Ar1.1) (State.isArrayOf_alike hZ.alike Ar1.2.1) (g := (mkF m 4 #[.val (.ref a1), .val (.ref a2)] [(.ref a2), (.int (0 : Int32)), (.ref a2), (.ref a1)])) rfl rfl (hb hby d2_4) _ ?_
  rw [len_of sz1 nn1]
  refine XS.aconstNull X0.here hx rfl (hb hby d2_5) ?_
  refine st2 _ ?_
  exact κ)
 obtain ⟨fs4, hr4, hrun4, hended4, hW4, hsame4⟩ := X2.leave (v := none) (fun _ => rfl)
 refine ⟨_, _, hPs _ (pre3 _ ?_), hrun4, hended4, _, _, rfl, ?_, ⟨_, rfl⟩, hW4, hsame4.mono (by decide) (by decide)⟩
 ·show own_st p e below T2 (mkF m 9 #[.val (.ref a1), .val (.ref a2)] []) _
  exact X2.returnOut hx Bd.returns (hb hby d2_9) hr4
 ·show Qw13 Z a1 a2 kc c0 c1 c2 h0 n0 _ T2.heap _
  exact ⟨rfl, N2, Kp2, S2⟩

def own_bb (cs : List Int32) (cd N : Int32) (C : Nat) (vs : List Value) : Prop := (cd = 0 ∧ N = Int32.ofNat C ∧ (∀ c ∈ cs, ¬ 255 < c) ∧ ∃ r, cs.length + r = C ∧ vs = (cs.map fun c => Value.int (own_lo8 c)) ++ List.replicate r (Value.int 0)) ∨ (cd = 1 ∧ N = Int32.ofNat (2 * C) ∧ (∃ c ∈ cs, 255 < c) ∧ ∃ r, cs.length + r = C ∧ vs = own_wb cs ++ List.replicate (2 * r) (Value.int 0))
def own_sbd (Z : State) (h : Heap) (b t : Addr) (cs : List Int32) (C : Nat) : Prop := ∃ (kb : ClassId) (cd N : Int32) (vs : List Value), Exa Z h b "java/lang/StringBuilder" ∧ Fld Z h b "java/lang/AbstractStringBuilder" "value" "[B" (.ref t) ∧ Fld Z h b "java/lang/AbstractStringBuilder" "coder" "B" (.int cd) ∧ Fld Z h b "java/lang/AbstractStringBuilder" "count" "I" (.int (Int32.ofNat cs.length)) ∧ Fld Z h b "java/lang/AbstractStringBuilder" "maybeLatin1" "Z" (.int 0) ∧ Exa Z h t "[B" ∧ Arv Z h t kb .byte N vs (Value.int 0) ∧ own_bb cs cd N C vs
theorem own_sbd.ext {Z : State} {h h' : Heap} {b t : Addr} {cs : List Int32} {C : Nat} (F : own_sbd Z h b t cs C) (E : Ext h h') : own_sbd Z h' b t cs C := by
 obtain ⟨kb, cd, N, vs, a1, a2, a3, a4, a5, a6, a7, a8⟩ := F
 exact ⟨kb, cd, N, vs, a1.ext E, a2.ext E, a3.ext E, a4.ext E, a5.ext E, a6.ext E, a7.ext E, a8⟩
theorem own_bbN {cs : List Int32} {cd N : Int32} {C : Nat} {vs : List Value} (h : own_bb cs cd N C vs) (hC : C ≤ 8) : N >>> (cd &&& 31) = Int32.ofNat C := by
 rcases h with ⟨rfl, rfl, -⟩ | ⟨rfl, rfl, -⟩
 ·exact own_sh0 _
 ·exact own_shr _ (by omega)
theorem own_bbl {cs : List Int32} {cd N : Int32} {C : Nat} {vs : List Value} (h : own_bb cs cd N C vs) : cs.length ≤ C := by
 rcases h with ⟨-, -, -, r, q, -⟩ | ⟨-, -, -, r, q, -⟩ <;> omega
theorem own_ng : ∀ n < 8, ∀ C < 9, ¬ (0 : Int32) < (Int32.ofNat n + (1 : Int32)) - Int32.ofNat C → n < C := by decide +kernel
theorem own_gg : ∀ n < 8, ∀ C < 9, (0 : Int32) < (Int32.ofNat n + (1 : Int32)) - Int32.ofNat C → C ≤ n := by decide +kernel
theorem own_rng (vs : List Value) (d : Value) (n : Nat) (h : vs.length = n) : (List.range n).map (fun i => vs.getD ((0 : Int32).toNatClampNeg + i) d) = vs := by
 subst h
 rw [show (0 : Int32).toNatClampNeg = 0 from rfl]
 apply List.ext_getElem
 ·simp
 ·intro i h1 h2
  simp [List.getD_eq_getElem?_getD, h2]
theorem own_rng2 (us rs : List Value) (d : Value) (n : Nat) (h : us.length = n) : us = (List.range n).map (fun i => (us ++ rs).getD ((0 : Int32).toNatClampNeg + i) d) := by
 subst h
 rw [show (0 : Int32).toNatClampNeg = 0 from rfl]
 apply List.ext_getElem
 ·simp
 ·intro i h1 h2
  simp [List.getD_eq_getElem?_getD, List.getElem?_append_left h1, h1]
theorem own_fin1 (vs : List Value) (d : Value) (a b : Nat) : (List.replicate b d).take (0 : Int32).toNatClampNeg ++ vs ++ (List.replicate b d).drop ((0 : Int32).toNatClampNeg + a) = vs ++ List.replicate (b - a) d := by
 rw [show (0 : Int32).toNatClampNeg = 0 from rfl]; simp
theorem own_gr {cs : List Int32} {cd N : Int32} {C : Nat} {vs : List Value} (h : own_bb cs cd N C vs) (e : cs.length = C) (h3 : C ≤ 3) :
  ∃ (q M : Int32) (nN nM : Nat), own_max (((Int32.ofNat cs.length + (1 : Int32)) <<< (cd &&& 31)) - N) (N + ((2 : Int32) <<< (cd &&& 31))) = q ∧ (0 : Int32) < N + q ∧ ¬ (2147483639 : Int32) < N + q ∧ ¬ N + q = (2147483647 : Int32) ∧ ((N + q) >>> (cd &&& 31)) <<< (cd &&& 31) = M ∧ ¬ M = N ∧ ¬ M < 0 ∧ own_min N M = N ∧ N.toNatClampNeg = nN ∧ M.toNatClampNeg = nM ∧ nN ≤ nM ∧ nM ≤ 16 ∧ vs.length = nN ∧ ¬ N < 0 ∧ own_bb cs cd M (2 * C + 2) (vs ++ List.replicate (nM - nN) (Value.int 0)) := by
 rcases h with ⟨rfl, rfl, hx, r, hr, rfl⟩ | ⟨rfl, rfl, hx, r, hr, rfl⟩
 ·have hb : own_bb cs 0 (Int32.ofNat (2 * C + 2)) (2 * C + 2) (((cs.map fun c => Value.int (own_lo8 c)) ++ List.replicate r (Value.int 0)) ++ List.replicate (2 * C + 2 - C) (Value.int 0)) := Or.inl ⟨rfl, rfl, hx, r + (2 * C + 2 - C), by omega, by rw [List.append_assoc, List.replicate_append_replicate]⟩
  have hv : ((cs.map fun c => Value.int (own_lo8 c)) ++ List.replicate r (Value.int 0)).length = C := by simp; omega
  refine ⟨_, Int32.ofNat (2 * C + 2), C, 2 * C + 2, rfl, ?_, ?_, ?_, ?_, ?_, ?_, ?_, own_nn _ (by omega), own_nn _ (by omega), by omega, by omega, hv, own_n0 _ (by omega), hb⟩ <;> (try rw [e]) <;> clear hb hv hr hx e <;> rcases (by omega : C = 0 ∨ C = 1 ∨ C = 2 ∨ C = 3) with rfl | rfl | rfl | rfl <;> decide
 ·have hb : own_bb cs 1 (Int32.ofNat (2 * (2 * C + 2))) (2 * C + 2) ((own_wb cs ++ List.replicate (2 * r) (Value.int 0)) ++ List.replicate (2 * (2 * C + 2) - 2 * C) (Value.int 0)) := Or.inr ⟨rfl, rfl, hx, r + (2 * C + 2 - C), by omega, by rw [List.append_assoc, List.replicate_append_replicate]; congr 2; omega⟩
  have hv : (own_wb cs ++ List.replicate (2 * r) (Value.int 0)).length = 2 * C := by simp [own_wlen]; omega
  refine ⟨_, Int32.ofNat (2 * (2 * C + 2)), 2 * C, 2 * (2 * C + 2), rfl, ?_, ?_, ?_, ?_, ?_, ?_, ?_, own_nn _ (by omega), own_nn _ (by omega), by omega, by omega, hv, own_n0 _ (by omega), hb⟩ <;> (try rw [e]) <;> clear hb hv hr hx e <;> rcases (by omega : C = 0 ∨ C = 1 ∨ C = 2 ∨ C = 3) with rfl | rfl | rfl | rfl <;> decide

theorem d16_0 : own_D own_c25 0 (.getstatic 18) 3 := by decide +kernel
theorem d16_3 : own_D own_c25 3 (.ifCond .eq 14) 3 := by decide +kernel
theorem d16_6 : own_D own_c25 6 (.aload_n 0) 1 := by decide +kernel
theorem d16_7 : own_D own_c25 7 (.getfield 22) 3 := by decide +kernel
theorem d16_10 : own_D own_c25 10 (.ifCond .ne 7) 3 := by decide +kernel
theorem d16_13 : own_D own_c25 13 (.iconst 1) 1 := by decide +kernel
theorem d16_14 : own_D own_c25 14 (.goto 4) 3 := by decide +kernel
theorem d16_17 : own_D own_c25 17 (.iconst 0) 1 := by decide +kernel
theorem d16_18 : own_D own_c25 18 (.ireturn) 1 := by decide +kernel


def Qbz0 (Z : State) (b : Addr) (h0 : Heap) (n0 : Nat) (v : Option Value) (h : Heap) (L : List Loc) : Prop := v = some (.int (1 : Int32)) ∧ Fr n0 L ∧ h = h0
theorem rmbz0 (l : Launch) (Z : State) (a0 : Array Value) (hw : own_W Z a0) (ws : List Jvm.Cond) (b : Addr) (h0 : Heap) (n0 : Nat) (Z0 : n0 ≤ h0.size) (EN : own_env Z h0) (C1 : Fld Z h0 b "java/lang/AbstractStringBuilder" "coder" "B" (.int 0)) :
  own_M l Z own_z15 own_c25 1 (some .boolean) ({ frames := 0, cells := 0, slots := 0, locals := 0 } : Room) ws #[(.ref b)] h0 (Qbz0 Z b h0 n0) := by
 refine MetFree.of_bodySF (plainFor_of_name pn_k7) hisR ?_
 intro p e s m args below meth c s₁ Bd hml0 hP hK
 obtain ⟨rfl, hZ, hh⟩ := hP
 have hx := Bd.exec
 have hby := Bd.bytes
 have hml : c.maxLocals = 1 := hml0
 have hown : s.vm.findClass "java/lang/AbstractStringBuilder" = some m.cls := findClass_of_methodNamed Bd.named
 have X0 : Stand p l e ({ frames := 0, cells := 0, slots := 0, locals := 0 } : Room) s m #[(.ref b)] below meth c s₁ [] 0 0 := Stand.of_body Bd
 have e0 : s₁.heap = h0 := by rw [← hh, Bd.state]; rfl
 have N0 := Fr.nil n0
 obtain ⟨PP, hPs, pre0⟩ : ∃ PP : State → Prop, (∀ t, PP t → Steps p.tables e below (s₁.setTop (entryFrame m #[(.ref b)] 1)) t) ∧ own_pr p e below PP s₁ (mkF m 0 #[.val (.ref b)] []) := ⟨_, fun _ κ => κ, fun τ κ => castTop (ef_ul m b) κ⟩
 obtain ⟨z, fm, Sz, hz, Sf, hfm, Sa, Sh, Sl⟩ := EN
 obtain ⟨T1, X1, e1, st1⟩ := getS2 X0 hx hZ hown (host := "") (Or.inl (wd56 hw)) Via.refl e0 Sz (g := (mkF m 0 #[.val (.ref b)] [])) rfl (hb hby d16_0)
 obtain ⟨T2, X2, e2, st2⟩ := getF X1 hx hZ hown (host := "") (Or.inl (wd59 hw)) Via.refl e1 C1 (g := (mkF m 7 #[.val (.ref b)] [(.ref b)])) rfl rfl (hb hby d16_7)
 have pre3 : own_pr p e below PP T2 (mkF m 18 #[.val (.ref b)] [(.int (1 : Int32))]) := fun τ κ => pre0 τ (by
  show own_st p e below s₁ (mkF m 0 #[.val (.ref b)] []) _
  refine st1 _ ?_
  refine XS.ifNo X1.here hx rfl (hb hby d16_3) rfl ((if0 _ _).trans (feq hz).1) ?_
  refine XS.aloadN X1.here hx rfl (hb hby d16_6) rfl rfl ?_
  refine st2 _ ?_
  refine XS.ifNo X2.here hx rfl (hb hby d16_10) rfl ((if0 _ _).trans (teq (by decide : (0 : Int32) = (0 : Int32))).2) ?_
  refine XS.iconst X2.here hx rfl (hb hby d16_13) ?_
  refine XS.goto X2.here hx rfl (pc0 := 14) (pc' := 18) rfl (hb hby d16_14) (by decide) (by decide) ?_
  exact κ)
 obtain ⟨fs4, hr4, hrun4, hended4, hW4, hsame4⟩ := X2.leave (v := some (.int (1 : Int32))) (fun h => by rw [Bd.returns] at h; cases h)
 refine ⟨_, _, hPs _ (pre3 _ ?_), hrun4, hended4, _, _, rfl, ?_, ⟨_, rfl⟩, hW4, hsame4.mono (by decide) (by decide)⟩
 ·show own_st p e below T2 (mkF m 18 #[.val (.ref b)] [(.int (1 : Int32))]) _
  exact retN X2 hx (t := .boolean) Bd.returns (by simp) (hb hby d16_18) hr4
 ·show Qbz0 Z b h0 n0 _ T2.heap _
  rw [e2]
  exact ⟨rfl, N0, rfl⟩


def Qbz1 (Z : State) (b : Addr) (h0 : Heap) (n0 : Nat) (v : Option Value) (h : Heap) (L : List Loc) : Prop := v = some (.int (0 : Int32)) ∧ Fr n0 L ∧ h = h0
theorem rmbz1 (l : Launch) (Z : State) (a0 : Array Value) (hw : own_W Z a0) (ws : List Jvm.Cond) (b : Addr) (h0 : Heap) (n0 : Nat) (Z0 : n0 ≤ h0.size) (EN : own_env Z h0) (C1 : Fld Z h0 b "java/lang/AbstractStringBuilder" "coder" "B" (.int 1)) :
  own_M l Z own_z15 own_c25 1 (some .boolean) ({ frames := 0, cells := 0, slots := 0, locals := 0 } : Room) ws #[(.ref b)] h0 (Qbz1 Z b h0 n0) := by
 refine MetFree.of_bodySF (plainFor_of_name pn_k7) hisR ?_
 intro p e s m args below meth c s₁ Bd hml0 hP hK
 obtain ⟨rfl, hZ, hh⟩ := hP
 have hx := Bd.exec
 have hby := Bd.bytes
 have hml : c.maxLocals = 1 := hml0
 have hown : s.vm.findClass "java/lang/AbstractStringBuilder" = some m.cls := findClass_of_methodNamed Bd.named
 have X0 : Stand p l e ({ frames := 0, cells := 0, slots := 0, locals := 0 } : Room) s m #[(.ref b)] below meth c s₁ [] 0 0 := Stand.of_body Bd
 have e0 : s₁.heap = h0 := by rw [← hh, Bd.state]; rfl
 have N0 := Fr.nil n0
 obtain ⟨PP, hPs, pre0⟩ : ∃ PP : State → Prop, (∀ t, PP t → Steps p.tables e below (s₁.setTop (entryFrame m #[(.ref b)] 1)) t) ∧ own_pr p e below PP s₁ (mkF m 0 #[.val (.ref b)] []) := ⟨_, fun _ κ => κ, fun τ κ => castTop (ef_ul m b) κ⟩
 obtain ⟨z, fm, Sz, hz, Sf, hfm, Sa, Sh, Sl⟩ := EN
 obtain ⟨T1, X1, e1, st1⟩ := getS2 X0 hx hZ hown (host := "") (Or.inl (wd56 hw)) Via.refl e0 Sz (g := (mkF m 0 #[.val (.ref b)] [])) rfl (hb hby d16_0)
 obtain ⟨T2, X2, e2, st2⟩ := getF X1 hx hZ hown (host := "") (Or.inl (wd59 hw)) Via.refl e1 C1 (g := (mkF m 7 #[.val (.ref b)] [(.ref b)])) rfl rfl (hb hby d16_7)
 have pre3 : own_pr p e below PP T2 (mkF m 18 #[.val (.ref b)] [(.int (0 : Int32))]) := fun τ κ => pre0 τ (by
  show own_st p e below s₁ (mkF m 0 #[.val (.ref b)] []) _
  refine st1 _ ?_
  refine XS.ifNo X1.here hx rfl (hb hby d16_3) rfl ((if0 _ _).trans (feq hz).1) ?_
  refine XS.aloadN X1.here hx rfl (hb hby d16_6) rfl rfl ?_
  refine st2 _ ?_
  refine XS.ifYes X2.here hx rfl (pc0 := 10) (pc' := 17) rfl (hb hby d16_10) rfl ((if0 _ _).trans (feq (by decide : ¬ ((1 : Int32) = (0 : Int32)))).2) (by decide) (by decide) ?_
  refine XS.iconst X2.here hx rfl (hb hby d16_17) ?_
  exact κ)
 obtain ⟨fs4, hr4, hrun4, hended4, hW4, hsame4⟩ := X2.leave (v := some (.int (0 : Int32))) (fun h => by rw [Bd.returns] at h; cases h)
 refine ⟨_, _, hPs _ (pre3 _ ?_), hrun4, hended4, _, _, rfl, ?_, ⟨_, rfl⟩, hW4, hsame4.mono (by decide) (by decide)⟩
 ·show own_st p e below T2 (mkF m 18 #[.val (.ref b)] [(.int (0 : Int32))]) _
  exact retN X2 hx (t := .boolean) Bd.returns (by simp) (hb hby d16_18) hr4
 ·show Qbz1 Z b h0 n0 _ T2.heap _
  rw [e2]
  exact ⟨rfl, N0, rfl⟩

theorem d13_0 : own_D own_c26 0 (.aload_n 0) 1 := by decide +kernel
theorem d13_1 : own_D own_c26 1 (.getfield 15) 3 := by decide +kernel
theorem d13_4 : own_D own_c26 4 (.areturn) 1 := by decide +kernel

theorem pd_gv : parseMethodDescriptor "()[B" = some ⟨[], some (.array .byte)⟩ := by decide +kernel

def Qgv (Z : State) (b t : Addr) (h0 : Heap) (n0 : Nat) (v : Option Value) (h : Heap) (L : List Loc) : Prop := v = some (.ref t) ∧ Fr n0 L ∧ h = h0
theorem rmgv (l : Launch) (Z : State) (a0 : Array Value) (hw : own_W Z a0) (ws : List Jvm.Cond) (b t : Addr) (h0 : Heap) (n0 : Nat) (Z0 : n0 ≤ h0.size) (Fv : Fld Z h0 b "java/lang/AbstractStringBuilder" "value" "[B" (.ref t)) :
  own_M l Z own_z12 own_c26 1 (some (.array .byte)) ({ frames := 0, cells := 0, slots := 0, locals := 0 } : Room) ws #[(.ref b)] h0 (Qgv Z b t h0 n0) := by
 refine MetFree.of_bodySF (plainFor_of_name pn_k7) hisR ?_
 intro p e s m args below meth c s₁ Bd hml0 hP hK
 obtain ⟨rfl, hZ, hh⟩ := hP
 have hx := Bd.exec
 have hby := Bd.bytes
 have hml : c.maxLocals = 1 := hml0
 have hown : s.vm.findClass "java/lang/AbstractStringBuilder" = some m.cls := findClass_of_methodNamed Bd.named
 have X0 : Stand p l e ({ frames := 0, cells := 0, slots := 0, locals := 0 } : Room) s m #[(.ref b)] below meth c s₁ [] 0 0 := Stand.of_body Bd
 have e0 : s₁.heap = h0 := by rw [← hh, Bd.state]; rfl
 have N0 := Fr.nil n0
 obtain ⟨PP, hPs, pre0⟩ : ∃ PP : State → Prop, (∀ t, PP t → Steps p.tables e below (s₁.setTop (entryFrame m #[(.ref b)] 1)) t) ∧ own_pr p e below PP s₁ (mkF m 0 #[.val (.ref b)] []) := ⟨_, fun _ κ => κ, fun τ κ => castTop (ef_ul m b) κ⟩
 obtain ⟨T1, X1, e1, st1⟩ := getF X0 hx hZ hown (host := "") (Or.inl (wd57 hw)) Via.refl e0 Fv (g := (mkF m 1 #[.val (.ref b)] [(.ref b)])) rfl rfl (hb hby d13_1)
 have pre2 : own_pr p e below PP T1 (mkF m 4 #[.val (.ref b)] [(.ref t)]) := fun τ κ => pre0 τ (by
  show own_st p e below s₁ (mkF m 0 #[.val (.ref b)] []) _
  refine XS.aloadN X0.here hx rfl (hb hby d13_0) rfl rfl ?_
  refine st1 _ ?_
  exact κ)
 obtain ⟨fs3, hr3, hrun3, hended3, hW3, hsame3⟩ := X1.leave (v := some (.ref t)) (fun h => by rw [Bd.returns] at h; cases h)
 refine ⟨_, _, hPs _ (pre2 _ ?_), hrun3, hended3, _, _, rfl, ?_, ⟨_, rfl⟩, hW3, hsame3.mono (by decide) (by decide)⟩
 ·show own_st p e below T1 (mkF m 4 #[.val (.ref b)] [(.ref t)]) _
  exact retOut X1 hx (t := (.array .byte)) Bd.returns rfl (Or.inr (Or.inr (Or.inr (Or.inr ⟨rfl, rfl, rfl⟩)))) (hb hby d13_4) hr3
 ·show Qgv Z b t h0 n0 _ T1.heap _
  rw [e1]
  exact ⟨rfl, N0, rfl⟩

theorem d15_0 : own_D own_c27 0 (.aload_n 0) 1 := by decide +kernel
theorem d15_1 : own_D own_c27 1 (.getfield 79) 3 := by decide +kernel
theorem d15_4 : own_D own_c27 4 (.ireturn) 1 := by decide +kernel


def Qal (Z : State) (b : Addr) (n : Int32) (h0 : Heap) (n0 : Nat) (v : Option Value) (h : Heap) (L : List Loc) : Prop := v = some (.int n) ∧ Fr n0 L ∧ h = h0
theorem rmal (l : Launch) (Z : State) (a0 : Array Value) (hw : own_W Z a0) (ws : List Jvm.Cond) (b : Addr) (n : Int32) (h0 : Heap) (n0 : Nat) (Z0 : n0 ≤ h0.size) (Fn : Fld Z h0 b "java/lang/AbstractStringBuilder" "count" "I" (.int n)) :
  own_M l Z own_z13 own_c27 1 (some .int) ({ frames := 0, cells := 0, slots := 0, locals := 0 } : Room) ws #[(.ref b)] h0 (Qal Z b n h0 n0) := by
 refine MetFree.of_bodySF (plainFor_of_name pn_k7) hisR ?_
 intro p e s m args below meth c s₁ Bd hml0 hP hK
 obtain ⟨rfl, hZ, hh⟩ := hP
 have hx := Bd.exec
 have hby := Bd.bytes
 have hml : c.maxLocals = 1 := hml0
 have hown : s.vm.findClass "java/lang/AbstractStringBuilder" = some m.cls := findClass_of_methodNamed Bd.named
 have X0 : Stand p l e ({ frames := 0, cells := 0, slots := 0, locals := 0 } : Room) s m #[(.ref b)] below meth c s₁ [] 0 0 := Stand.of_body Bd
 have e0 : s₁.heap = h0 := by rw [← hh, Bd.state]; rfl
 have N0 := Fr.nil n0
 obtain ⟨PP, hPs, pre0⟩ : ∃ PP : State → Prop, (∀ t, PP t → Steps p.tables e below (s₁.setTop (entryFrame m #[(.ref b)] 1)) t) ∧ own_pr p e below PP s₁ (mkF m 0 #[.val (.ref b)] []) := ⟨_, fun _ κ => κ, fun τ κ => castTop (ef_ul m b) κ⟩
 obtain ⟨T1, X1, e1, st1⟩ := getF X0 hx hZ hown (host := "") (Or.inl (wd87 hw)) Via.refl e0 Fn (g := (mkF m 1 #[.val (.ref b)] [(.ref b)])) rfl rfl (hb hby d15_1)
 have pre2 : own_pr p e below PP T1 (mkF m 4 #[.val (.ref b)] [(.int n)]) := fun τ κ => pre0 τ (by
  show own_st p e below s₁ (mkF m 0 #[.val (.ref b)] []) _
  refine XS.aloadN X0.here hx rfl (hb hby d15_0) rfl rfl ?_
  refine st1 _ ?_
  exact κ)
 obtain ⟨fs3, hr3, hrun3, hended3, hW3, hsame3⟩ := X1.leave (v := some (.int n)) (fun h => by rw [Bd.returns] at h; cases h)
 refine ⟨_, _, hPs _ (pre2 _ ?_), hrun3, hended3, _, _, rfl, ?_, ⟨_, rfl⟩, hW3, hsame3.mono (by decide) (by decide)⟩
 ·show own_st p e below T1 (mkF m 4 #[.val (.ref b)] [(.int n)]) _
  exact retOut X1 hx (t := .int) Bd.returns rfl (Or.inl ⟨rfl, Or.inl rfl, _, rfl⟩) (hb hby d15_4) hr3
 ·show Qal Z b n h0 n0 _ T1.heap _
  rw [e1]
  exact ⟨rfl, N0, rfl⟩

theorem d14_0 : own_D own_c28 0 (.aload_n 0) 1 := by decide +kernel
theorem d14_1 : own_D own_c28 1 (.invokespecial 343) 3 := by decide +kernel
theorem d14_4 : own_D own_c28 4 (.ireturn) 1 := by decide +kernel


def Qbl (Z : State) (b : Addr) (n : Int32) (h0 : Heap) (n0 : Nat) (v : Option Value) (h : Heap) (L : List Loc) : Prop := v = some (.int n) ∧ Fr n0 L ∧ h = h0
theorem rmbl (l : Launch) (Z : State) (a0 : Array Value) (hw : own_W Z a0) (ws : List Jvm.Cond) (b : Addr) (n : Int32) (h0 : Heap) (n0 : Nat) (Z0 : n0 ≤ h0.size) (E1 : Exa Z h0 b "java/lang/StringBuilder") (Fn : Fld Z h0 b "java/lang/AbstractStringBuilder" "count" "I" (.int n)) :
  own_M l Z own_z14 own_c28 1 (some .int) ({ frames := 1, cells := 0, slots := 0, locals := 12 } : Room) ws #[(.ref b)] h0 (Qbl Z b n h0 n0) := by
 refine MetFree.of_bodySF (plainFor_of_name pn_k6) hisR ?_
 intro p e s m args below meth c s₁ Bd hml0 hP hK
 obtain ⟨rfl, hZ, hh⟩ := hP
 have hx := Bd.exec
 have hby := Bd.bytes
 have hml : c.maxLocals = 1 := hml0
 have hown : s.vm.findClass "java/lang/StringBuilder" = some m.cls := findClass_of_methodNamed Bd.named
 have X0 : Stand p l e ({ frames := 1, cells := 0, slots := 0, locals := 12 } : Room) s m #[(.ref b)] below meth c s₁ [] 0 0 := Stand.of_body Bd
 have e0 : s₁.heap = h0 := by rw [← hh, Bd.state]; rfl
 have N0 := Fr.nil n0
 obtain ⟨PP, hPs, pre0⟩ : ∃ PP : State → Prop, (∀ t, PP t → Steps p.tables e below (s₁.setTop (entryFrame m #[(.ref b)] 1)) t) ∧ own_pr p e below PP s₁ (mkF m 0 #[.val (.ref b)] []) := ⟨_, fun _ κ => κ, fun τ κ => castTop (ef_ul m b) κ⟩
 obtain ⟨_, _, ⟨T1, L1, k1, n1⟩, -, X1, ⟨Lc1, hQ1, l1, y1, z1⟩, st1⟩ := superBack X0 hx hZ (y := own_z13) hown (wd84 hw) (own_same (wd76 hw) (wd80 hw) rfl (by decide)) (wd80 hw) (wd85 hw) (by decide) (backOf (W := 0) (rmal l Z a0 hw [] b n h0 n0 Z0 Fn) hZ (wd86 hw) (wd53 hw) (by decide) (by decide)) e0 (Ins.self E1) (g := (mkF m 1 #[.val (.ref b)] [(.ref b)])) rfl hml.symm (wd86 hw) (argsL := []) (rest := []) (lenOf pd_sl rfl) rfl (by show 2 * 0 + _ ≤ _; exact Nat.le_of_eq rfl) (hb hby d14_1) (fun _ _ => ⟨rfl, e0, (by decide : 0 + 0 ≤ _), (by decide : 0 + 0 ≤ _)⟩)
 dsimp only [Pt.U, Pt.locs, Pt.cells, Pt.slots] at X1 l1 y1 z1 st1 hQ1
 subst l1 y1 z1
 obtain ⟨rfl, N1q, q1⟩ := hQ1
 have N1 := Fr.app N0 N1q
 have pre2 : own_pr p e below PP T1 (mkF m 4 #[.val (.ref b)] [(.int n)]) := fun τ κ => pre0 τ (by
  show own_st p e below s₁ (mkF m 0 #[.val (.ref b)] []) _
  refine XS.aloadN X0.here hx rfl (hb hby d14_0) rfl rfl ?_
  refine st1.trans ?_
  exact κ)
 obtain ⟨fs3, hr3, hrun3, hended3, hW3, hsame3⟩ := X1.leave (v := some (.int n)) (fun h => by rw [Bd.returns] at h; cases h)
 refine ⟨_, _, hPs _ (pre2 _ ?_), hrun3, hended3, _, _, rfl, ?_, ⟨_, rfl⟩, hW3, hsame3.mono (by decide) (by decide)⟩
 ·show own_st p e below T1 (mkF m 4 #[.val (.ref b)] [(.int n)]) _
  exact retOut X1 hx (t := .int) Bd.returns rfl (Or.inl ⟨rfl, Or.inl rfl, _, rfl⟩) (hb hby d14_4) hr3
 ·show Qbl Z b n h0 n0 _ T1.heap _
  rw [q1]
  exact ⟨rfl, N1, rfl⟩

theorem d9_0 : own_D own_c29 0 (.aload_n 0) 1 := by decide +kernel
theorem d9_1 : own_D own_c29 1 (.invokespecial 3) 3 := by decide +kernel
theorem d9_4 : own_D own_c29 4 (.getstatic 18) 3 := by decide +kernel
theorem d9_7 : own_D own_c29 7 (.ifCond .eq 18) 3 := by decide +kernel
theorem d9_10 : own_D own_c29 10 (.aload_n 0) 1 := by decide +kernel
theorem d9_11 : own_D own_c29 11 (.iload_n 1) 1 := by decide +kernel
theorem d9_12 : own_D own_c29 12 (.newarray .byte) 2 := by decide +kernel
theorem d9_14 : own_D own_c29 14 (.putfield 15) 3 := by decide +kernel
theorem d9_17 : own_D own_c29 17 (.aload_n 0) 1 := by decide +kernel
theorem d9_18 : own_D own_c29 18 (.iconst 0) 1 := by decide +kernel
theorem d9_19 : own_D own_c29 19 (.putfield 22) 3 := by decide +kernel
theorem d9_22 : own_D own_c29 22 (.goto 16) 3 := by decide +kernel
theorem d9_38 : own_D own_c29 38 (.return_) 1 := by decide +kernel

theorem pd_ai : parseMethodDescriptor "(I)V" = some ⟨[.int], none⟩ := by decide +kernel

def Qai (Z : State) (b : Addr) (k : Nat) (h0 : Heap) (n0 : Nat) (v : Option Value) (h : Heap) (L : List Loc) : Prop := v = none ∧ Fr n0 L ∧ ∃ t, Keep h0 h [b] ∧ h0.size ≤ t ∧ own_sbd Z h b t [] k
theorem rmai (l : Launch) (Z : State) (a0 : Array Value) (hw : own_W Z a0) (ws : List Jvm.Cond) (b : Addr) (k : Nat) (h0 : Heap) (n0 : Nat) (Z0 : n0 ≤ h0.size) (E1 : Exa Z h0 b "java/lang/StringBuilder") (Fv : Fld Z h0 b "java/lang/AbstractStringBuilder" "value" "[B" .null) (Fc : Fld Z h0 b "java/lang/AbstractStringBuilder" "coder" "B" (.int 0)) (Fn : Fld Z h0 b "java/lang/AbstractStringBuilder" "count" "I" (.int 0)) (Fm : Fld Z h0 b "java/lang/AbstractStringBuilder" "maybeLatin1" "Z" (.int 0)) (g1 : n0 ≤ b) (EN : own_env Z h0) (hk : k ≤ 3) :
  own_M l Z own_z8 own_c29 2 none ({ frames := 1, cells := 1, slots := 3, locals := 12 } : Room) ws #[(.ref b), (.int (Int32.ofNat k))] h0 (Qai Z b k h0 n0) := by
 refine MetFree.of_bodySF (plainFor_of_name pn_k7) hisR ?_
 intro p e s m args below meth c s₁ Bd hml0 hP hK
 obtain ⟨rfl, hZ, hh⟩ := hP
 have hx := Bd.exec
 have hby := Bd.bytes
 have hml : c.maxLocals = 2 := hml0
 have hown : s.vm.findClass "java/lang/AbstractStringBuilder" = some m.cls := findClass_of_methodNamed Bd.named
 have X0 : Stand p l e ({ frames := 1, cells := 1, slots := 3, locals := 12 } : Room) s m #[(.ref b), (.int (Int32.ofNat k))] below meth c s₁ [] 0 0 := Stand.of_body Bd
 have e0 : s₁.heap = h0 := by rw [← hh, Bd.state]; rfl
 have N0 := Fr.nil n0
 obtain ⟨PP, hPs, pre0⟩ : ∃ PP : State → Prop, (∀ t, PP t → Steps p.tables e below (s₁.setTop (entryFrame m #[(.ref b), (.int (Int32.ofNat k))] 2)) t) ∧ own_pr p e below PP s₁ (mkF m 0 #[.val (.ref b), .val (.int (Int32.ofNat k))] []) := ⟨_, fun _ κ => κ, fun τ κ => castTop (ef_gc m b (Int32.ofNat k)) κ⟩
 obtain ⟨z, fm, Sz, hz, -⟩ := EN
 obtain ⟨T1, X1, e1, st1⟩ := initO X0 hx hZ hown (wd55 hw) (wd18 hw) (wd19 hw) e0 (g := (mkF m 1 #[.val (.ref b), .val (.int (Int32.ofNat k))] [(.ref b)])) rfl hml.symm rfl (hb hby d9_1) (by decide) (W := 0) (by show 2 * 0 + _ ≤ _; exact Nat.le_of_eq rfl) (by decide)
 obtain ⟨T2, X2, e2, st2⟩ := getS2 X1 hx hZ hown (host := "") (Or.inl (wd56 hw)) Via.refl e1 Sz (g := (mkF m 4 #[.val (.ref b), .val (.int (Int32.ofNat k))] [])) rfl (hb hby d9_4)
 obtain ⟨T3, h3, k3, X3, e3, E3, A3, Q3, st3⟩ := newPE (aty := .byte) X2 hx hZ (wd21 hw) e2 (g := (mkF m 12 #[.val (.ref b), .val (.int (Int32.ofNat k))] [(.int (Int32.ofNat k)), (.ref b)])) rfl (hb hby d9_12) rfl (own_n0 k (by omega)) (cap := 3) (by rw [own_nn k (by omega)]; exact hk) (by decide) (by decide) (by decide) (ad := "[B") (by decide)
 obtain ⟨b3, gb3⟩ : ∃ z, z = h0.size := ⟨_, rfl⟩
 rw [← gb3] at A3 Q3 st3
 have gn3 : n0 ≤ b3 := Nat.le_trans Z0 (Nat.le_of_eq gb3.symm)
 have sz3_b : h0.size ≤ b3 := Nat.le_trans (Keep.refl h0 []).1 (Nat.le_of_eq gb3.symm)
 have ne_b_b3 : b ≠ b3 := Nat.ne_of_lt (Nat.lt_of_lt_of_le E1.lt (Nat.le_of_eq gb3.symm))
 have E1_3 := E1.ext E3
 have Fv_3 := Fv.ext E3
 have Fc_3 := Fc.ext E3
 have Fn_3 := Fn.ext E3
 have Fm_3 := Fm.ext E3
 have K3 := (Keep.refl h0 []).ext E3
 have V3 : Arv Z h3 b3 k3 .byte (Int32.ofNat k) (List.replicate k (.int (0 : Int32))) (.int (0 : Int32)) := (Arv.new A3 (own_n0 k (by omega))).pad (pad_rep [] (.int (0 : Int32)) k)
 obtain ⟨T4, h4, X4, e4, W4, st4⟩ := putF X3 hx hZ hown (host := "") (Or.inl (wd57 hw)) Via.refl e3 Fv_3 E1_3 (Or.inl (wd58 hw)) (wd33 hw) (ty := (.array .byte)) (by decide) rfl rfl (g := (mkF m 14 #[.val (.ref b), .val (.int (Int32.ofNat k))] [(.ref b3), (.ref b)])) rfl rfl (hb hby d9_14)
 have N4 := Fr.snoc X4 N0 g1
 have E1_4 := E1_3.wr W4
 have Fv_4 := Fv_3.same W4
 have Fc_4 := Fc_3.other W4 (Or.inr (slot_ne (Or.inl (wd60 hw)) (Or.inl (wd58 hw)) (by decide) (t := .byte) (t' := (.array .byte)) (by decide) (by decide)))
 have Fn_4 := Fn_3.other W4 (Or.inr (slot_ne (Or.inl (wd88 hw)) (Or.inl (wd58 hw)) (by decide) (t := .int) (t' := (.array .byte)) (by decide) (by decide)))
 have Fm_4 := Fm_3.other W4 (Or.inr (slot_ne (Or.inl (wd276 hw)) (Or.inl (wd58 hw)) (by decide) (t := .boolean) (t' := (.array .byte)) (by decide) (by decide)))
 have V3_4 := V3.other W4 (Ne.symm (E1_3.neArv V3 (wd33 hw)))
 have Q3_4 := Q3.wr W4
 obtain ⟨T5, h5, X5, e5, W5, st5⟩ := putFN X4 hx hZ hown (wd59 hw) Via.refl e4 Fc_4 E1_4 (Or.inl (wd60 hw)) (wd33 hw) (ty := .byte) (v' := (.int (0 : Int32))) (by decide) rfl rfl (g := (mkF m 19 #[.val (.ref b), .val (.int (Int32.ofNat k))] [(.int (0 : Int32)), (.ref b)])) rfl rfl (hb hby d9_19)
 have N5 := Fr.snoc X5 N4 g1
 have E1_5 := E1_4.wr W5
 have Fv_5 := Fv_4.other W5 (Or.inr (slot_ne (Or.inl (wd58 hw)) (Or.inl (wd60 hw)) (by decide) (t := (.array .byte)) (t' := .byte) (by decide) (by decide)))
 have Fc_5 := Fc_4.same W5
 have Fn_5 := Fn_4.other W5 (Or.inr (slot_ne (Or.inl (wd88 hw)) (Or.inl (wd60 hw)) (by decide) (t := .int) (t' := .byte) (by decide) (by decide)))
 have Fm_5 := Fm_4.other W5 (Or.inr (slot_ne (Or.inl (wd276 hw)) (Or.inl (wd60 hw)) (by decide) (t := .boolean) (t' := .byte) (by decide) (by decide)))
 have V3_5 := V3_4.other W5 (Ne.symm (E1_4.neArv V3_4 (wd33 hw)))
 have Q3_5 := Q3_4.wr W5
 have pre6 : own_pr p e below PP T5 (mkF m 38 #[.val (.ref b), .val (.int (Int32.ofNat k))] []) := fun τ κ => pre0 τ (by
  show own_st p e below s₁ (mkF m 0 #[.val (.ref b), .val (.int (Int32.ofNat k))] []) _
  refine XS.aloadN X0.here hx rfl (hb hby d9_0) rfl rfl ?_
  refine st1 _ ?_
  refine st2 _ ?_
  refine XS.ifNo X2.here hx rfl (hb hby d9_7) rfl ((if0 _ _).trans (feq hz).1) ?_
  refine XS.aloadN X2.here hx rfl (hb hby d9_10) rfl rfl ?_
  refine XS.iloadN X2.here hx rfl (hb hby d9_11) rfl ?_
  refine st3 _ ?_
  refine st4 _ ?_
  refine XS.aloadN X4.here hx rfl (hb hby d9_17) rfl rfl ?_
  refine XS.iconst X4.here hx rfl (hb hby d9_18) ?_
  refine st5 _ ?_
  refine XS.goto X5.here hx rfl (pc0 := 22) (pc' := 38) rfl (hb hby d9_22) (by decide) (by decide) ?_
  exact κ)
 obtain ⟨fs7, hr7, hrun7, hended7, hW7, hsame7⟩ := X5.leave (v := none) (fun _ => rfl)
 refine ⟨_, _, hPs _ (pre6 _ ?_), hrun7, hended7, _, _, rfl, ?_, ⟨_, rfl⟩, hW7, hsame7.mono (by decide) (by decide)⟩
 ·show own_st p e below T5 (mkF m 38 #[.val (.ref b), .val (.int (Int32.ofNat k))] []) _
  exact X5.returnOut hx Bd.returns (hb hby d9_38) hr7
 ·show Qai Z b k h0 n0 _ T5.heap _
  rw [e5]
  exact ⟨rfl, N5, b3, (((Keep.refl h0 [b]).ext E3).wr W4 (Or.inl (List.mem_singleton.mpr rfl))).wr W5 (Or.inl (List.mem_singleton.mpr rfl)), sz3_b, k3, 0, _, _, E1_5, Fv_5, Fc_5, Fn_5, Fm_5, Q3_5, V3_5, Or.inl ⟨rfl, rfl, (fun _ q => nomatch q), k, Nat.zero_add _, rfl⟩⟩

theorem d8_0 : own_D own_c30 0 (.aload_n 0) 1 := by decide +kernel
theorem d8_1 : own_D own_c30 1 (.iload_n 1) 1 := by decide +kernel
theorem d8_2 : own_D own_c30 2 (.invokespecial 1) 3 := by decide +kernel
theorem d8_5 : own_D own_c30 5 (.return_) 1 := by decide +kernel


def Qsbi (Z : State) (b : Addr) (k : Nat) (h0 : Heap) (n0 : Nat) (v : Option Value) (h : Heap) (L : List Loc) : Prop := v = none ∧ Fr n0 L ∧ ∃ t, Keep h0 h [b] ∧ h0.size ≤ t ∧ own_sbd Z h b t [] k
theorem rmsbi (l : Launch) (Z : State) (a0 : Array Value) (hw : own_W Z a0) (ws : List Jvm.Cond) (b : Addr) (k : Nat) (h0 : Heap) (n0 : Nat) (Z0 : n0 ≤ h0.size) (E1 : Exa Z h0 b "java/lang/StringBuilder") (Fv : Fld Z h0 b "java/lang/AbstractStringBuilder" "value" "[B" .null) (Fc : Fld Z h0 b "java/lang/AbstractStringBuilder" "coder" "B" (.int 0)) (Fn : Fld Z h0 b "java/lang/AbstractStringBuilder" "count" "I" (.int 0)) (Fm : Fld Z h0 b "java/lang/AbstractStringBuilder" "maybeLatin1" "Z" (.int 0)) (g1 : n0 ≤ b) (EN : own_env Z h0) (hk : k ≤ 3) :
  own_M l Z own_z7 own_c30 2 none ({ frames := 2, cells := 1, slots := 3, locals := 25 } : Room) ws #[(.ref b), (.int (Int32.ofNat k))] h0 (Qsbi Z b k h0 n0) := by
 refine MetFree.of_bodySF (plainFor_of_name pn_k6) hisR ?_
 intro p e s m args below meth c s₁ Bd hml0 hP hK
 obtain ⟨rfl, hZ, hh⟩ := hP
 have hx := Bd.exec
 have hby := Bd.bytes
 have hml : c.maxLocals = 2 := hml0
 have hown : s.vm.findClass "java/lang/StringBuilder" = some m.cls := findClass_of_methodNamed Bd.named
 have X0 : Stand p l e ({ frames := 2, cells := 1, slots := 3, locals := 25 } : Room) s m #[(.ref b), (.int (Int32.ofNat k))] below meth c s₁ [] 0 0 := Stand.of_body Bd
 have e0 : s₁.heap = h0 := by rw [← hh, Bd.state]; rfl
 have N0 := Fr.nil n0
 obtain ⟨PP, hPs, pre0⟩ : ∃ PP : State → Prop, (∀ t, PP t → Steps p.tables e below (s₁.setTop (entryFrame m #[(.ref b), (.int (Int32.ofNat k))] 2)) t) ∧ own_pr p e below PP s₁ (mkF m 0 #[.val (.ref b), .val (.int (Int32.ofNat k))] []) := ⟨_, fun _ κ => κ, fun τ κ => castTop (ef_gc m b (Int32.ofNat k)) κ⟩
 obtain ⟨_, T1, Lc1, X1, hQ1, st1⟩ := own_cI X0 hx hZ (y := own_z8) rfl hown (wd49 hw) (wd50 hw) (wd54 hw) (wd53 hw) (by decide) (rmai l Z a0 hw [] b k h0 n0 Z0 E1 Fv Fc Fn Fm g1 EN hk) 0 (by decide) (g := (mkF m 2 #[.val (.ref b), .val (.int (Int32.ofNat k))] [(.int (Int32.ofNat k)), (.ref b)])) rfl hml.symm b [(.int (Int32.ofNat k))] [] (lenOf pd_ai rfl) rfl rfl (hb hby d8_2) e0 rfl
 obtain ⟨rfl, N1q, qq1⟩ := hQ1
 have N1 := Fr.app N0 N1q
 have pre2 : own_pr p e below PP T1 (mkF m 5 #[.val (.ref b), .val (.int (Int32.ofNat k))] []) := fun τ κ => pre0 τ (by
  show own_st p e below s₁ (mkF m 0 #[.val (.ref b), .val (.int (Int32.ofNat k))] []) _
  refine XS.aloadN X0.here hx rfl (hb hby d8_0) rfl rfl ?_
  refine XS.iloadN X0.here hx rfl (hb hby d8_1) rfl ?_
  refine st1 _ ?_
  exact κ)
 obtain ⟨fs3, hr3, hrun3, hended3, hW3, hsame3⟩ := X1.leave (v := none) (fun _ => rfl)
 refine ⟨_, _, hPs _ (pre2 _ ?_), hrun3, hended3, _, _, rfl, ?_, ⟨_, rfl⟩, hW3, hsame3.mono (by decide) (by decide)⟩
 ·show own_st p e below T1 (mkF m 5 #[.val (.ref b), .val (.int (Int32.ofNat k))] []) _
  exact X1.returnOut hx Bd.returns (hb hby d8_5) hr3
 ·show Qsbi Z b k h0 n0 _ T1.heap _
  exact ⟨rfl, N1, qq1⟩

theorem d41_0 : own_D own_c31 0 (.iload_n 0) 1 := by decide +kernel
theorem d41_1 : own_D own_c31 1 (.iload_n 1) 1 := by decide +kernel
theorem d41_2 : own_D own_c31 2 (.iload_n 2) 1 := by decide +kernel
theorem d41_3 : own_D own_c31 3 (.invokestatic 194) 3 := by decide +kernel
theorem d41_6 : own_D own_c31 6 (.iadd) 1 := by decide +kernel
theorem d41_7 : own_D own_c31 7 (.istore_n 3) 1 := by decide +kernel
theorem d41_8 : own_D own_c31 8 (.iconst 0) 1 := by decide +kernel
theorem d41_9 : own_D own_c31 9 (.iload_n 3) 1 := by decide +kernel
theorem d41_10 : own_D own_c31 10 (.if_icmp .ge 11) 3 := by decide +kernel
theorem d41_13 : own_D own_c31 13 (.iload_n 3) 1 := by decide +kernel
theorem d41_14 : own_D own_c31 14 (.ldc 200) 2 := by decide +kernel
theorem d41_16 : own_D own_c31 16 (.if_icmp .gt 5) 3 := by decide +kernel
theorem d41_19 : own_D own_c31 19 (.iload_n 3) 1 := by decide +kernel
theorem d41_20 : own_D own_c31 20 (.ireturn) 1 := by decide +kernel

theorem pd_nl : parseMethodDescriptor "(III)I" = some ⟨[.int, .int, .int], some .int⟩ := by decide +kernel

theorem ef_nl (m : MethodId) (x0 : Int32) (x1 : Int32) (x2 : Int32)  : entryFrame m #[(.int x0), (.int x1), (.int x2)] 4 = mkF m 0 #[.val (.int x0), .val (.int x1), .val (.int x2), .unset] [] := by first | (simp [entryFrame, mkF, argsToLocals, Value.category]; done) | rfl
def Qnl (Z : State) (p1 p2 p3 q : Int32) (h0 : Heap) (n0 : Nat) (v : Option Value) (h : Heap) (L : List Loc) : Prop := v = some (.int (p1 + q)) ∧ Fr n0 L ∧ h = h0
theorem rmnl (l : Launch) (Z : State) (a0 : Array Value) (hw : own_W Z a0) (ws : List Jvm.Cond) (p1 p2 p3 q : Int32) (h0 : Heap) (n0 : Nat) (Z0 : n0 ≤ h0.size) (hq : own_max p2 p3 = q) (h1 : (0 : Int32) < p1 + q) (h2 : ¬ (2147483639 : Int32) < p1 + q) :
  own_M l Z own_z42 own_c31 4 (some .int) ({ frames := 1, cells := 0, slots := 0, locals := 14 } : Room) ws #[(.int p1), (.int p2), (.int p3)] h0 (Qnl Z p1 p2 p3 q h0 n0) := by
 refine MetFree.of_bodySF (plainFor_of_name pn_k9) hisR ?_
 intro p e s m args below meth c s₁ Bd hml0 hP hK
 obtain ⟨rfl, hZ, hh⟩ := hP
 have hx := Bd.exec
 have hby := Bd.bytes
 have hml : c.maxLocals = 4 := hml0
 have hown : s.vm.findClass "jdk/internal/util/ArraysSupport" = some m.cls := findClass_of_methodNamed Bd.named
 have X0 : Stand p l e ({ frames := 1, cells := 0, slots := 0, locals := 14 } : Room) s m #[(.int p1), (.int p2), (.int p3)] below meth c s₁ [] 0 0 := Stand.of_body Bd
 have e0 : s₁.heap = h0 := by rw [← hh, Bd.state]; rfl
 have N0 := Fr.nil n0
 obtain ⟨PP, hPs, pre0⟩ : ∃ PP : State → Prop, (∀ t, PP t → Steps p.tables e below (s₁.setTop (entryFrame m #[(.int p1), (.int p2), (.int p3)] 4)) t) ∧ own_pr p e below PP s₁ (mkF m 0 #[.val (.int p1), .val (.int p2), .val (.int p3), .unset] []) := ⟨_, fun _ κ => κ, fun τ κ => castTop (ef_nl m p1 p2 p3) κ⟩
 obtain ⟨_, T1, Lc1, X1, hQ1, st1⟩ := own_cS X0 hx hZ (y := own_z31) hown (wd205 hw) (wd159 hw) (wd160 hw) (wd161 hw) (by decide) (rmmx l Z a0 hw [] p2 p3 q h0 n0 Z0 hq) 1 (by decide) (g := (mkF m 3 #[.val (.int p1), .val (.int p2), .val (.int p3), .unset] [(.int p3), (.int p2), (.int p1)])) rfl hml.symm [(.int p2), (.int p3)] [(.int p1)] (lenOf pd_mx rfl) rfl rfl (hb hby d41_3) e0 rfl
 obtain ⟨rfl, N1q, q1⟩ := hQ1
 have N1 := Fr.app N0 N1q
 have pre2 : own_pr p e below PP T1 (mkF m 20 #[.val (.int p1), .val (.int p2), .val (.int p3), .val (.int (p1 + q))] [(.int (p1 + q))]) := fun τ κ => pre0 τ (by
  show own_st p e below s₁ (mkF m 0 #[.val (.int p1), .val (.int p2), .val (.int p3), .unset] []) _
  refine XS.iloadN X0.here hx rfl (hb hby d41_0) rfl ?_
  refine XS.iloadN X0.here hx rfl (hb hby d41_1) rfl ?_
  refine XS.iloadN X0.here hx rfl (hb hby d41_2) rfl ?_
  refine st1 _ ?_
  refine XS.iadd X1.here hx rfl (hb hby d41_6) rfl ?_
  refine XS.istoreN X1.here hx rfl (hb hby d41_7) rfl (l' := #[.val (.int p1), .val (.int p2), .val (.int p3), .val (.int (p1 + q))]) rfl ?_
  refine XS.iconst X1.here hx rfl (hb hby d41_8) ?_
  refine XS.iloadN X1.here hx rfl (hb hby d41_9) rfl ?_
  refine XS.icmpNo X1.here hx rfl (hb hby d41_10) rfl (tlt h1).2.1 ?_
  refine XS.iloadN X1.here hx rfl (hb hby d41_13) rfl ?_
  refine X1.ldcI hx hown (mvT hZ (wd206 hw)) (g := (mkF m 14 #[.val (.int p1), .val (.int p2), .val (.int p3), .val (.int (p1 + q))] [(.int (p1 + q))])) rfl (hb hby d41_14) ?_
  refine XS.icmpNo X1.here hx rfl (hb hby d41_16) rfl (flt h2).2.2.1 ?_
  refine XS.iloadN X1.here hx rfl (hb hby d41_19) rfl ?_
  exact κ)
 obtain ⟨fs3, hr3, hrun3, hended3, hW3, hsame3⟩ := X1.leave (v := some (.int (p1 + q))) (fun h => by rw [Bd.returns] at h; cases h)
 refine ⟨_, _, hPs _ (pre2 _ ?_), hrun3, hended3, _, _, rfl, ?_, ⟨_, rfl⟩, hW3, hsame3.mono (by decide) (by decide)⟩
 ·show own_st p e below T1 (mkF m 20 #[.val (.int p1), .val (.int p2), .val (.int p3), .val (.int (p1 + q))] [(.int (p1 + q))]) _
  exact retOut X1 hx (t := .int) Bd.returns rfl (Or.inl ⟨rfl, Or.inl rfl, _, rfl⟩) (hb hby d41_20) hr3
 ·show Qnl Z p1 p2 p3 q h0 n0 _ T1.heap _
  rw [q1]
  exact ⟨rfl, N1, rfl⟩

theorem d40_0 : own_D own_c32 0 (.aload_n 0) 1 := by decide +kernel
theorem d40_1 : own_D own_c32 1 (.getfield 15) 3 := by decide +kernel
theorem d40_4 : own_D own_c32 4 (.arraylength) 1 := by decide +kernel
theorem d40_5 : own_D own_c32 5 (.istore_n 2) 1 := by decide +kernel
theorem d40_6 : own_D own_c32 6 (.iload_n 1) 1 := by decide +kernel
theorem d40_7 : own_D own_c32 7 (.aload_n 0) 1 := by decide +kernel
theorem d40_8 : own_D own_c32 8 (.getfield 22) 3 := by decide +kernel
theorem d40_11 : own_D own_c32 11 (.ishl) 1 := by decide +kernel
theorem d40_12 : own_D own_c32 12 (.istore_n 3) 1 := by decide +kernel
theorem d40_13 : own_D own_c32 13 (.iload_n 3) 1 := by decide +kernel
theorem d40_14 : own_D own_c32 14 (.iload_n 2) 1 := by decide +kernel
theorem d40_15 : own_D own_c32 15 (.isub) 1 := by decide +kernel
theorem d40_16 : own_D own_c32 16 (.istore 4) 2 := by decide +kernel
theorem d40_18 : own_D own_c32 18 (.iload_n 2) 1 := by decide +kernel
theorem d40_19 : own_D own_c32 19 (.iload 4) 2 := by decide +kernel
theorem d40_21 : own_D own_c32 21 (.iload_n 2) 1 := by decide +kernel
theorem d40_22 : own_D own_c32 22 (.iconst 2) 1 := by decide +kernel
theorem d40_23 : own_D own_c32 23 (.aload_n 0) 1 := by decide +kernel
theorem d40_24 : own_D own_c32 24 (.getfield 22) 3 := by decide +kernel
theorem d40_27 : own_D own_c32 27 (.ishl) 1 := by decide +kernel
theorem d40_28 : own_D own_c32 28 (.iadd) 1 := by decide +kernel
theorem d40_29 : own_D own_c32 29 (.invokestatic 114) 3 := by decide +kernel
theorem d40_32 : own_D own_c32 32 (.istore 5) 2 := by decide +kernel
theorem d40_34 : own_D own_c32 34 (.iload 5) 2 := by decide +kernel
theorem d40_36 : own_D own_c32 36 (.ldc 39) 2 := by decide +kernel
theorem d40_38 : own_D own_c32 38 (.if_icmp .ne 13) 3 := by decide +kernel
theorem d40_51 : own_D own_c32 51 (.iload 5) 2 := by decide +kernel
theorem d40_53 : own_D own_c32 53 (.aload_n 0) 1 := by decide +kernel
theorem d40_54 : own_D own_c32 54 (.getfield 22) 3 := by decide +kernel
theorem d40_57 : own_D own_c32 57 (.ishr) 1 := by decide +kernel
theorem d40_58 : own_D own_c32 58 (.ireturn) 1 := by decide +kernel


theorem ef_nc (m : MethodId) (x0 : Addr) (x1 : Int32)  : entryFrame m #[(.ref x0), (.int x1)] 6 = mkF m 0 #[.val (.ref x0), .val (.int x1), .unset, .unset, .unset, .unset] [] := by first | (simp [entryFrame, mkF, argsToLocals, Value.category]; done) | rfl
def Qnc (Z : State) (b t : Addr) (kb : ClassId) (cd N p1 q : Int32) (vs : List Value) (h0 : Heap) (n0 : Nat) (v : Option Value) (h : Heap) (L : List Loc) : Prop := v = some (.int ((N + q) >>> (cd &&& 31))) ∧ Fr n0 L ∧ h = h0
theorem rmnc (l : Launch) (Z : State) (a0 : Array Value) (hw : own_W Z a0) (ws : List Jvm.Cond) (b t : Addr) (kb : ClassId) (cd N p1 q : Int32) (vs : List Value) (h0 : Heap) (n0 : Nat) (Z0 : n0 ≤ h0.size) (Fv : Fld Z h0 b "java/lang/AbstractStringBuilder" "value" "[B" (.ref t)) (Fc : Fld Z h0 b "java/lang/AbstractStringBuilder" "coder" "B" (.int cd)) (Va : Arv Z h0 t kb .byte N vs (.int 0)) (hq : own_max ((p1 <<< (cd &&& 31)) - N) (N + ((2 : Int32) <<< (cd &&& 31))) = q) (h1 : (0 : Int32) < N + q) (h2 : ¬ (2147483639 : Int32) < N + q) (h3 : ¬ N + q = (2147483647 : Int32)) :
  own_M l Z own_z41 own_c32 6 (some .int) ({ frames := 2, cells := 0, slots := 0, locals := 29 } : Room) ws #[(.ref b), (.int p1)] h0 (Qnc Z b t kb cd N p1 q vs h0 n0) := by
 refine MetFree.of_bodySF (plainFor_of_name pn_k7) hisR ?_
 intro p e s m args below meth c s₁ Bd hml0 hP hK
 obtain ⟨rfl, hZ, hh⟩ := hP
 have hx := Bd.exec
 have hby := Bd.bytes
 have hml : c.maxLocals = 6 := hml0
 have hown : s.vm.findClass "java/lang/AbstractStringBuilder" = some m.cls := findClass_of_methodNamed Bd.named
 have X0 : Stand p l e ({ frames := 2, cells := 0, slots := 0, locals := 29 } : Room) s m #[(.ref b), (.int p1)] below meth c s₁ [] 0 0 := Stand.of_body Bd
 have e0 : s₁.heap = h0 := by rw [← hh, Bd.state]; rfl
 have N0 := Fr.nil n0
 obtain ⟨PP, hPs, pre0⟩ : ∃ PP : State → Prop, (∀ t, PP t → Steps p.tables e below (s₁.setTop (entryFrame m #[(.ref b), (.int p1)] 6)) t) ∧ own_pr p e below PP s₁ (mkF m 0 #[.val (.ref b), .val (.int p1), .unset, .unset, .unset, .unset] []) := ⟨_, fun _ κ => κ, fun τ κ => castTop (ef_nc m b p1) κ⟩
 obtain ⟨T1, X1, e1, st1⟩ := getF X0 hx hZ hown (host := "") (Or.inl (wd57 hw)) Via.refl e0 Fv (g := (mkF m 1 #[.val (.ref b), .val (.int p1), .unset, .unset, .unset, .unset] [(.ref b)])) rfl rfl (hb hby d40_1)
 have Vc2 := Va
 obtain ⟨cl2, Ar2, qq2, sz2, nn2, Ha2, Gf2⟩ := Vc2
 obtain ⟨T3, X3, e3, st3⟩ := getF X1 hx hZ hown (host := "") (Or.inl (wd59 hw)) Via.refl e1 Fc (g := (mkF m 8 #[.val (.ref b), .val (.int p1), .val (.int N), .unset, .unset, .unset] [(.ref b), (.int p1)])) rfl rfl (hb hby d40_8)
 obtain ⟨T4, X4, e4, st4⟩ := getF X3 hx hZ hown (host := "") (Or.inl (wd59 hw)) Via.refl e3 Fc (g := (mkF m 24 #[.val (.ref b), .val (.int p1), .val (.int N), .val (.int (p1 <<< (cd &&& 31))), .val (.int ((p1 <<< (cd &&& 31)) - N)), .unset] [(.ref b), (.int (2 : Int32)), (.int N), (.int ((p1 <<< (cd &&& 31)) - N)), (.int N)])) rfl rfl (hb hby d40_24)
 obtain ⟨_, T5, Lc5, X5, hQ5, st5⟩ := own_cS X4 hx hZ (y := own_z42) hown (wd201 hw) (wd202 hw) (wd203 hw) (wd204 hw) (by decide) (rmnl l Z a0 hw [] N ((p1 <<< (cd &&& 31)) - N) (N + ((2 : Int32) <<< (cd &&& 31))) q h0 n0 Z0 hq h1 h2) 0 (by decide) (g := (mkF m 29 #[.val (.ref b), .val (.int p1), .val (.int N), .val (.int (p1 <<< (cd &&& 31))), .val (.int ((p1 <<< (cd &&& 31)) - N)), .unset] [(.int (N + ((2 : Int32) <<< (cd &&& 31)))), (.int ((p1 <<< (cd &&& 31)) - N)), (.int N)])) rfl hml.symm [(.int N), (.int ((p1 <<< (cd &&& 31)) - N)), (.int (N + ((2 : Int32) <<< (cd &&& 31))))] [] (lenOf pd_nl rfl) rfl rfl (hb hby d40_29) e4 rfl
 obtain ⟨rfl, N5q, q5⟩ := hQ5
 have N5 := Fr.app N0 N5q
 obtain ⟨T6, X6, e6, st6⟩ := getF X5 hx hZ hown (host := "") (Or.inl (wd59 hw)) Via.refl q5 Fc (g := (mkF m 54 #[.val (.ref b), .val (.int p1), .val (.int N), .val (.int (p1 <<< (cd &&& 31))), .val (.int ((p1 <<< (cd &&& 31)) - N)), .val (.int (N + q))] [(.ref b), (.int (N + q))])) rfl rfl (hb hby d40_54)
 have pre7 : own_pr p e below PP T6 (mkF m 58 #[.val (.ref b), .val (.int p1), .val (.int N), .val (.int (p1 <<< (cd &&& 31))), .val (.int ((p1 <<< (cd &&& 31)) - N)), .val (.int (N + q))] [(.int ((N + q) >>> (cd &&& 31)))]) := fun τ κ => pre0 τ (by
  show own_st p e below s₁ (mkF m 0 #[.val (.ref b), .val (.int p1), .unset, .unset, .unset, .unset] []) _
  refine XS.aloadN X0.here hx rfl (hb hby d40_0) rfl rfl ?_
  refine st1 _ ?_
  refine X1.arraylength hx (by rw [e1]; exact Ar2.1) (State.isArrayOf_alike hZ.alike Ar2.2.1) (g := (mkF m 4 #[.val (.ref b), .val (.int p1), .unset, .unset, .unset, .unset] [(.ref t)])) rfl rfl (hb hby d40_4) _ ?_
  rw [len_of sz2 nn2]
  refine XS.istoreN X1.here hx rfl (hb hby d40_5) rfl (l' := #[.val (.ref b), .val (.int p1), .val (.int N), .unset, .unset, .unset]) rfl ?_
  refine XS.iloadN X1.here hx rfl (hb hby d40_6) rfl ?_
  refine XS.aloadN X1.here hx rfl (hb hby d40_7) rfl rfl ?_
  refine st3 _ ?_
  refine XS.ishl X3.here hx rfl (hb hby d40_11) rfl ?_
  refine XS.istoreN X3.here hx rfl (hb hby d40_12) rfl (l' := #[.val (.ref b), .val (.int p1), .val (.int N), .val (.int (p1 <<< (cd &&& 31))), .unset, .unset]) rfl ?_
  refine XS.iloadN X3.here hx rfl (hb hby d40_13) rfl ?_
  refine XS.iloadN X3.here hx rfl (hb hby d40_14) rfl ?_
  refine XS.isub X3.here hx rfl (hb hby d40_15) rfl ?_
  refine XS.istore X3.here hx rfl (hb hby d40_16) rfl (l' := #[.val (.ref b), .val (.int p1), .val (.int N), .val (.int (p1 <<< (cd &&& 31))), .val (.int ((p1 <<< (cd &&& 31)) - N)), .unset]) rfl ?_
  refine XS.iloadN X3.here hx rfl (hb hby d40_18) rfl ?_
  refine XS.iload X3.here hx rfl (hb hby d40_19) rfl ?_
  refine XS.iloadN X3.here hx rfl (hb hby d40_21) rfl ?_
  refine XS.iconst X3.here hx rfl (hb hby d40_22) ?_
  refine XS.aloadN X3.here hx rfl (hb hby d40_23) rfl rfl ?_
  refine st4 _ ?_
  refine XS.ishl X4.here hx rfl (hb hby d40_27) rfl ?_
  refine XS.iadd X4.here hx rfl (hb hby d40_28) rfl ?_
  refine st5 _ ?_
  refine XS.istore X5.here hx rfl (hb hby d40_32) rfl (l' := #[.val (.ref b), .val (.int p1), .val (.int N), .val (.int (p1 <<< (cd &&& 31))), .val (.int ((p1 <<< (cd &&& 31)) - N)), .val (.int (N + q))]) rfl ?_
  refine XS.iload X5.here hx rfl (hb hby d40_34) rfl ?_
  refine X5.ldcI hx hown (mvT hZ (wd207 hw)) (g := (mkF m 36 #[.val (.ref b), .val (.int p1), .val (.int N), .val (.int (p1 <<< (cd &&& 31))), .val (.int ((p1 <<< (cd &&& 31)) - N)), .val (.int (N + q))] [(.int (N + q))])) rfl (hb hby d40_36) ?_
  refine XS.icmpYes X5.here hx rfl (pc0 := 38) (pc' := 51) rfl (hb hby d40_38) rfl (feq h3).2 (by decide) (by decide) ?_
  refine XS.iload X5.here hx rfl (hb hby d40_51) rfl ?_
  refine XS.aloadN X5.here hx rfl (hb hby d40_53) rfl rfl ?_
  refine st6 _ ?_
  refine XS.ishr X6.here hx rfl (hb hby d40_57) rfl ?_
  exact κ)
 obtain ⟨fs8, hr8, hrun8, hended8, hW8, hsame8⟩ := X6.leave (v := some (.int ((N + q) >>> (cd &&& 31)))) (fun h => by rw [Bd.returns] at h; cases h)
 refine ⟨_, _, hPs _ (pre7 _ ?_), hrun8, hended8, _, _, rfl, ?_, ⟨_, rfl⟩, hW8, hsame8.mono (by decide) (by decide)⟩
 ·show own_st p e below T6 (mkF m 58 #[.val (.ref b), .val (.int p1), .val (.int N), .val (.int (p1 <<< (cd &&& 31))), .val (.int ((p1 <<< (cd &&& 31)) - N)), .val (.int (N + q))] [(.int ((N + q) >>> (cd &&& 31)))]) _
  exact retOut X6 hx (t := .int) Bd.returns rfl (Or.inl ⟨rfl, Or.inl rfl, _, rfl⟩) (hb hby d40_58) hr8
 ·show Qnc Z b t kb cd N p1 q vs h0 n0 _ T6.heap _
  rw [e6]
  exact ⟨rfl, N5, rfl⟩

theorem d42_0 : own_D own_c33 0 (.iload_n 1) 1 := by decide +kernel
theorem d42_1 : own_D own_c33 1 (.aload_n 0) 1 := by decide +kernel
theorem d42_2 : own_D own_c33 2 (.arraylength) 1 := by decide +kernel
theorem d42_3 : own_D own_c33 3 (.if_icmp .ne 11) 3 := by decide +kernel
theorem d42_14 : own_D own_c33 14 (.iload_n 1) 1 := by decide +kernel
theorem d42_15 : own_D own_c33 15 (.newarray .byte) 2 := by decide +kernel
theorem d42_17 : own_D own_c33 17 (.astore_n 2) 1 := by decide +kernel
theorem d42_18 : own_D own_c33 18 (.aload_n 0) 1 := by decide +kernel
theorem d42_19 : own_D own_c33 19 (.iconst 0) 1 := by decide +kernel
theorem d42_20 : own_D own_c33 20 (.aload_n 2) 1 := by decide +kernel
theorem d42_21 : own_D own_c33 21 (.iconst 0) 1 := by decide +kernel
theorem d42_22 : own_D own_c33 22 (.aload_n 0) 1 := by decide +kernel
theorem d42_23 : own_D own_c33 23 (.arraylength) 1 := by decide +kernel
theorem d42_24 : own_D own_c33 24 (.iload_n 1) 1 := by decide +kernel
theorem d42_25 : own_D own_c33 25 (.invokestatic 304) 3 := by decide +kernel
theorem d42_28 : own_D own_c33 28 (.invokestatic 150) 3 := by decide +kernel
theorem d42_31 : own_D own_c33 31 (.aload_n 2) 1 := by decide +kernel
theorem d42_32 : own_D own_c33 32 (.areturn) 1 := by decide +kernel

theorem pd_cof : parseMethodDescriptor "([BI)[B" = some ⟨[(.array .byte), .int], some (.array .byte)⟩ := by decide +kernel

theorem ef_cof (m : MethodId) (x0 : Addr) (x1 : Int32)  : entryFrame m #[(.ref x0), (.int x1)] 3 = mkF m 0 #[.val (.ref x0), .val (.int x1), .unset] [] := by first | (simp [entryFrame, mkF, argsToLocals, Value.category]; done) | rfl
def Qcof (Z : State) (a1 : Addr) (k1 : ClassId) (N M : Int32) (vs : List Value) (nN nM : Nat) (h0 : Heap) (n0 : Nat) (v : Option Value) (h : Heap) (L : List Loc) : Prop := ∃ b kb, v = some (.ref b) ∧ Fr n0 L ∧ Ext h0 h ∧ h0.size ≤ b ∧ Exa Z h b "[B" ∧ Arv Z h b kb .byte M (vs ++ List.replicate (nM - nN) (.int 0)) (.int 0)
theorem rmcof (l : Launch) (Z : State) (a0 : Array Value) (hw : own_W Z a0) (ws : List Jvm.Cond) (a1 : Addr) (k1 : ClassId) (N M : Int32) (vs : List Value) (nN nM : Nat) (h0 : Heap) (n0 : Nat) (Z0 : n0 ≤ h0.size) (As : Arv Z h0 a1 k1 .byte N vs (.int 0)) (hne : ¬ M = N) (hM0 : ¬ M < 0) (hmn : own_min N M = N) (hcN : N.toNatClampNeg = nN) (hcM : M.toNatClampNeg = nM) (hNM : nN ≤ nM) (h16 : nM ≤ 16) (hvl : vs.length = nN) (hN0 : ¬ N < 0) :
  own_M l Z own_z43 own_c33 3 (some (.array .byte)) ({ frames := 1, cells := 1, slots := 16, locals := 40 } : Room) ws #[(.ref a1), (.int M)] h0 (Qcof Z a1 k1 N M vs nN nM h0 n0) := by
 refine MetFree.of_bodySF (plainFor_of_name pn_k8) hisR ?_
 intro p e s m args below meth c s₁ Bd hml0 hP hK
 obtain ⟨rfl, hZ, hh⟩ := hP
 have hx := Bd.exec
 have hby := Bd.bytes
 have hml : c.maxLocals = 3 := hml0
 have hown : s.vm.findClass "java/util/Arrays" = some m.cls := findClass_of_methodNamed Bd.named
 have X0 : Stand p l e ({ frames := 1, cells := 1, slots := 16, locals := 40 } : Room) s m #[(.ref a1), (.int M)] below meth c s₁ [] 0 0 := Stand.of_body Bd
 have e0 : s₁.heap = h0 := by rw [← hh, Bd.state]; rfl
 have N0 := Fr.nil n0
 obtain ⟨PP, hPs, pre0⟩ : ∃ PP : State → Prop, (∀ t, PP t → Steps p.tables e below (s₁.setTop (entryFrame m #[(.ref a1), (.int M)] 3)) t) ∧ own_pr p e below PP s₁ (mkF m 0 #[.val (.ref a1), .val (.int M), .unset] []) := ⟨_, fun _ κ => κ, fun τ κ => castTop (ef_cof m a1 M) κ⟩
 have Vc1 := As
 obtain ⟨cl1, Ar1, qq1, sz1, nn1, Ha1, Gf1⟩ := Vc1
 obtain ⟨T2, h2, k2, X2, e2, E2, A2, Q2, st2⟩ := newPE (aty := .byte) X0 hx hZ (wd21 hw) e0 (g := (mkF m 15 #[.val (.ref a1), .val (.int M), .unset] [(.int M)])) rfl (hb hby d42_15) rfl hM0 (cap := 16) (by rw [hcM]; exact h16) (by decide) (by decide) (by decide) (ad := "[B") (by decide)
 obtain ⟨b2, gb2⟩ : ∃ z, z = h0.size := ⟨_, rfl⟩
 rw [← gb2] at A2 Q2 st2
 have gn2 : n0 ≤ b2 := Nat.le_trans Z0 (Nat.le_of_eq gb2.symm)
 have sz2_b : h0.size ≤ b2 := Nat.le_trans (Keep.refl h0 []).1 (Nat.le_of_eq gb2.symm)
 have ne_a1_b2 : a1 ≠ b2 := Nat.ne_of_lt (Nat.lt_of_lt_of_le As.lt (Nat.le_of_eq gb2.symm))
 have As_2 := As.ext E2
 have K2 := (Keep.refl h0 []).ext E2
 have V2 : Arv Z h2 b2 k2 .byte M (List.replicate nM (.int (0 : Int32))) (.int (0 : Int32)) := (Arv.new A2 hM0).pad (pad_rep [] (.int (0 : Int32)) nM)
 have Vc3 := As_2
 obtain ⟨cl3, Ar3, qq3, sz3, nn3, Ha3, Gf3⟩ := Vc3
 obtain ⟨_, T4, Lc4, X4, hQ4, st4⟩ := own_cS X2 hx hZ (y := own_z32) hown (wd211 hw) (wd163 hw) (wd160 hw) (wd164 hw) (by decide) (rmmn l Z a0 hw [] N M N h2 n0 (Nat.le_trans Z0 E2.1) hmn) 4 (by decide) (g := (mkF m 25 #[.val (.ref a1), .val (.int M), .val (.ref b2)] [(.int M), (.int N), (.int (0 : Int32)), (.ref b2), (.int (0 : Int32)), (.ref a1)])) rfl hml.symm [(.int N), (.int M)] [(.int (0 : Int32)), (.ref b2), (.int (0 : Int32)), (.ref a1)] (lenOf pd_mx rfl) rfl rfl (hb hby d42_25) e2 rfl
 obtain ⟨rfl, N4q, q4⟩ := hQ4
 have N4 := Fr.app N0 N4q
 obtain ⟨T5, h5, L5, X5, e5, N5, Kc5, V5, st5⟩ := cpA X4 hx hZ hown (wd212 hw) (wd215 hw) (wd213 hw) (wd214 hw) q4 As_2 V2 (sp := (0 : Int32)) (dp := (0 : Int32)) (nn := N) (us := vs) (Or.inl ⟨rfl, rfl⟩) (by decide) (by decide) hN0 (Nat.le_of_eq (Nat.zero_add _)) (by rw [hcN, hcM]; exact Nat.le_trans (Nat.le_of_eq (Nat.zero_add _)) hNM) (own_rng vs _ _ (hvl.trans hcN.symm)).symm (by rw [hcN, List.length_replicate]; exact Nat.le_trans (Nat.le_of_eq (Nat.zero_add _)) hNM) N4 gn2 (g := (mkF m 28 #[.val (.ref a1), .val (.int M), .val (.ref b2)] [(.int N), (.int (0 : Int32)), (.ref b2), (.int (0 : Int32)), (.ref a1)])) rfl hml.symm rfl (hb hby d42_28) (by decide) (W := 0) (by show 2 * 0 + _ ≤ _; exact Nat.le_of_eq rfl) (by decide)
 have K5 := K2.trans Kc5 (fun x hx => by cases List.mem_singleton.mp hx; exact Or.inr sz2_b)
 have Qx5 := Q2.keep Kc5
 have pre6 : own_pr p e below PP T5 (mkF m 32 #[.val (.ref a1), .val (.int M), .val (.ref b2)] [(.ref b2)]) := fun τ κ => pre0 τ (by
  show own_st p e below s₁ (mkF m 0 #[.val (.ref a1), .val (.int M), .unset] []) _
  refine XS.iloadN X0.here hx rfl (hb hby d42_0) rfl ?_
  refine XS.aloadN X0.here hx rfl (hb hby d42_1) rfl rfl ?_
  refine X0.arraylength hx (by rw [e0]; exact Ar1.1) (State.isArrayOf_alike hZ.alike Ar1.2.1) (g := (mkF m 2 #[.val (.ref a1), .val (.int M), .unset] [(.ref a1), (.int M)])) rfl rfl (hb hby d42_2) _ ?_
  rw [len_of sz1 nn1]
  refine XS.icmpYes X0.here hx rfl (pc0 := 3) (pc' := 14) rfl (hb hby d42_3) rfl (feq hne).2 (by decide) (by decide) ?_
  refine XS.iloadN X0.here hx rfl (hb hby d42_14) rfl ?_
  refine st2 _ ?_
  refine XS.astoreN X2.here hx rfl (hb hby d42_17) rfl rfl (l' := #[.val (.ref a1), .val (.int M), .val (.ref b2)]) rfl ?_
  refine XS.aloadN X2.here hx rfl (hb hby d42_18) rfl rfl ?_
  refine XS.iconst X2.here hx rfl (hb hby d42_19) ?_
  refine XS.aloadN X2.here hx rfl (hb hby d42_20) rfl rfl ?_
  refine XS.iconst X2.here hx rfl (hb hby d42_21) ?_
  refine XS.aloadN X2.here hx rfl (hb hby d42_22) rfl rfl ?_
  refine X2.arraylength hx (by rw [e2]; exact Ar3.1) (State.isArrayOf_alike hZ.alike Ar3.2.1) (g := (mkF m 23 #[.val (.ref a1), .val (.int M), .val (.ref b2)] [(.ref a1), (.int (0 : Int32)), (.ref b2), (.int (0 : Int32)), (.ref a1)])) rfl rfl (hb hby d42_23) _ ?_
  rw [len_of sz3 nn3]
  refine XS.iloadN X2.here hx rfl (hb hby d42_24) rfl ?_
  refine st4 _ ?_
  refine st5 _ ?_
  refine XS.aloadN X5.here hx rfl (hb hby d42_31) rfl rfl ?_
  exact κ)
 obtain ⟨fs7, hr7, hrun7, hended7, hW7, hsame7⟩ := X5.leave (v := some (.ref b2)) (fun h => by rw [Bd.returns] at h; cases h)
 refine ⟨_, _, hPs _ (pre6 _ ?_), hrun7, hended7, _, _, rfl, ?_, ⟨_, rfl⟩, hW7, hsame7.mono (by decide) (by decide)⟩
 ·show own_st p e below T5 (mkF m 32 #[.val (.ref a1), .val (.int M), .val (.ref b2)] [(.ref b2)]) _
  exact retOut X5 hx (t := (.array .byte)) Bd.returns rfl (Or.inr (Or.inr (Or.inr (Or.inr ⟨rfl, rfl, rfl⟩)))) (hb hby d42_32) hr7
 ·show Qcof Z a1 k1 N M vs nN nM h0 n0 _ T5.heap _
  rw [e5]
  have q := V5
  rw [hcN, own_fin1] at q
  exact ⟨_, _, rfl, N5, own_ext K5, sz2_b, Qx5, q⟩

theorem d35_0 : own_D own_c34 0 (.aload_n 0) 1 := by decide +kernel
theorem d35_1 : own_D own_c34 1 (.getfield 15) 3 := by decide +kernel
theorem d35_4 : own_D own_c34 4 (.arraylength) 1 := by decide +kernel
theorem d35_5 : own_D own_c34 5 (.aload_n 0) 1 := by decide +kernel
theorem d35_6 : own_D own_c34 6 (.getfield 22) 3 := by decide +kernel
theorem d35_9 : own_D own_c34 9 (.ishr) 1 := by decide +kernel
theorem d35_10 : own_D own_c34 10 (.istore_n 2) 1 := by decide +kernel
theorem d35_11 : own_D own_c34 11 (.iload_n 1) 1 := by decide +kernel
theorem d35_12 : own_D own_c34 12 (.iload_n 2) 1 := by decide +kernel
theorem d35_13 : own_D own_c34 13 (.isub) 1 := by decide +kernel
theorem d35_14 : own_D own_c34 14 (.ifCond .le 24) 3 := by decide +kernel
theorem d35_17 : own_D own_c34 17 (.aload_n 0) 1 := by decide +kernel
theorem d35_18 : own_D own_c34 18 (.aload_n 0) 1 := by decide +kernel
theorem d35_19 : own_D own_c34 19 (.getfield 15) 3 := by decide +kernel
theorem d35_22 : own_D own_c34 22 (.aload_n 0) 1 := by decide +kernel
theorem d35_23 : own_D own_c34 23 (.iload_n 1) 1 := by decide +kernel
theorem d35_24 : own_D own_c34 24 (.invokevirtual 104) 3 := by decide +kernel
theorem d35_27 : own_D own_c34 27 (.aload_n 0) 1 := by decide +kernel
theorem d35_28 : own_D own_c34 28 (.getfield 22) 3 := by decide +kernel
theorem d35_31 : own_D own_c34 31 (.ishl) 1 := by decide +kernel
theorem d35_32 : own_D own_c34 32 (.invokestatic 108) 3 := by decide +kernel
theorem d35_35 : own_D own_c34 35 (.putfield 15) 3 := by decide +kernel
theorem d35_38 : own_D own_c34 38 (.return_) 1 := by decide +kernel


def Qec (Z : State) (b t : Addr) (cs : List Int32) (C k : Nat) (h0 : Heap) (n0 : Nat) (v : Option Value) (h : Heap) (L : List Loc) : Prop := v = none ∧ Fr n0 L ∧ ∃ t' C', Keep h0 h [b] ∧ (t' = t ∨ h0.size ≤ t') ∧ own_sbd Z h b t' cs C' ∧ cs.length < C' ∧ (C' = k ∨ C' = 2 * k + 2)
theorem rmec (l : Launch) (Z : State) (a0 : Array Value) (hw : own_W Z a0) (ws : List Jvm.Cond) (b t : Addr) (cs : List Int32) (C k : Nat) (h0 : Heap) (n0 : Nat) (Z0 : n0 ≤ h0.size) (SBd : own_sbd Z h0 b t cs C) (g1 : n0 ≤ b) (hk : k ≤ 3) (hC : C = k ∨ C = 2 * k + 2) (hl : cs.length < 2 * k) :
  own_M l Z own_z36 own_c34 3 none ({ frames := 3, cells := 1, slots := 16, locals := 56 } : Room) ws #[(.ref b), (.int (Int32.ofNat cs.length + (1 : Int32)))] h0 (Qec Z b t cs C k h0 n0) := by
 refine MetFree.of_bodySF (plainFor_of_name pn_k7) hisR ?_
 intro p e s m args below meth c s₁ Bd hml0 hP hK
 obtain ⟨rfl, hZ, hh⟩ := hP
 have hx := Bd.exec
 have hby := Bd.bytes
 have hml : c.maxLocals = 3 := hml0
 have hown : s.vm.findClass "java/lang/AbstractStringBuilder" = some m.cls := findClass_of_methodNamed Bd.named
 have X0 : Stand p l e ({ frames := 3, cells := 1, slots := 16, locals := 56 } : Room) s m #[(.ref b), (.int (Int32.ofNat cs.length + (1 : Int32)))] below meth c s₁ [] 0 0 := Stand.of_body Bd
 have e0 : s₁.heap = h0 := by rw [← hh, Bd.state]; rfl
 have N0 := Fr.nil n0
 obtain ⟨PP, hPs, pre0⟩ : ∃ PP : State → Prop, (∀ t, PP t → Steps p.tables e below (s₁.setTop (entryFrame m #[(.ref b), (.int (Int32.ofNat cs.length + (1 : Int32)))] 3)) t) ∧ own_pr p e below PP s₁ (mkF m 0 #[.val (.ref b), .val (.int (Int32.ofNat cs.length + (1 : Int32))), .unset] []) := ⟨_, fun _ κ => κ, fun τ κ => castTop (ef_cof m b (Int32.ofNat cs.length + (1 : Int32))) κ⟩
 have SB0 := SBd
 obtain ⟨kb, cd, N, vs, E1, Fv, Fc, Fn, Fm, Et, Va, hbb⟩ := SB0
 have hNC := own_bbN hbb (by omega)
 obtain ⟨T1, X1, e1, st1⟩ := getF X0 hx hZ hown (host := "") (Or.inl (wd57 hw)) Via.refl e0 Fv (g := (mkF m 1 #[.val (.ref b), .val (.int (Int32.ofNat cs.length + (1 : Int32))), .unset] [(.ref b)])) rfl rfl (hb hby d35_1)
 have Vc2 := Va
 obtain ⟨cl2, Ar2, qq2, sz2, nn2, Ha2, Gf2⟩ := Vc2
 obtain ⟨T3, X3, e3, st3⟩ := getF X1 hx hZ hown (host := "") (Or.inl (wd59 hw)) Via.refl e1 Fc (g := (mkF m 6 #[.val (.ref b), .val (.int (Int32.ofNat cs.length + (1 : Int32))), .unset] [(.ref b), (.int N)])) rfl rfl (hb hby d35_6)
 have pre4 : own_pr p e below PP T3 (mkF m 14 #[.val (.ref b), .val (.int (Int32.ofNat cs.length + (1 : Int32))), .val (.int (N >>> (cd &&& 31)))] [(.int ((Int32.ofNat cs.length + (1 : Int32)) - (N >>> (cd &&& 31))))]) := fun τ κ => pre0 τ (by
  show own_st p e below s₁ (mkF m 0 #[.val (.ref b), .val (.int (Int32.ofNat cs.length + (1 : Int32))), .unset] []) _
  refine XS.aloadN X0.here hx rfl (hb hby d35_0) rfl rfl ?_
  refine st1 _ ?_
  refine X1.arraylength hx (by rw [e1]; exact Ar2.1) (State.isArrayOf_alike hZ.alike Ar2.2.1) (g := (mkF m 4 #[.val (.ref b), .val (.int (Int32.ofNat cs.length + (1 : Int32))), .unset] [(.ref t)])) rfl rfl (hb hby d35_4) _ ?_
  rw [len_of sz2 nn2]
  refine XS.aloadN X1.here hx rfl (hb hby d35_5) rfl rfl ?_
  refine st3 _ ?_
  refine XS.ishr X3.here hx rfl (hb hby d35_9) rfl ?_
  refine XS.istoreN X3.here hx rfl (hb hby d35_10) rfl (l' := #[.val (.ref b), .val (.int (Int32.ofNat cs.length + (1 : Int32))), .val (.int (N >>> (cd &&& 31)))]) rfl ?_
  refine XS.iloadN X3.here hx rfl (hb hby d35_11) rfl ?_
  refine XS.iloadN X3.here hx rfl (hb hby d35_12) rfl ?_
  refine XS.isub X3.here hx rfl (hb hby d35_13) rfl ?_
  exact κ)
 by_cases hc14 : (0 : Int32) < ((Int32.ofNat cs.length + (1 : Int32)) - (N >>> (cd &&& 31)))
 ·obtain ⟨T5, X5, e5, st5⟩ := getF X3 hx hZ hown (host := "") (Or.inl (wd57 hw)) Via.refl e3 Fv (g := (mkF m 19 #[.val (.ref b), .val (.int (Int32.ofNat cs.length + (1 : Int32))), .val (.int (N >>> (cd &&& 31)))] [(.ref b), (.ref b)])) rfl rfl (hb hby d35_19)
  have hcx := hc14
  rw [hNC] at hcx
  have hCn := own_gg _ (by omega) _ (by omega) hcx
  have hln := own_bbl hbb
  have hCk : C = k := by omega
  obtain ⟨q, M, nN, nM, u1, u2, u3, u4, u5, u6, u7, u8, u9, u10, u11, u12, u13, u14, hb2⟩ := own_gr hbb (by omega) (by omega)
  obtain ⟨_, T6, Lc6, X6, hQ6, st6⟩ := own_cV X5 hx hZ (y := own_z41) (z := own_z41) hown (wd196 hw) (own_decl (wd197 hw) (wd200 hw)) (wd199 hw) rfl (wd199 hw) (wd197 hw) (wd200 hw) (wd53 hw) (by decide) (rmnc l Z a0 hw [] b t kb cd N (Int32.ofNat cs.length + (1 : Int32)) q vs h0 n0 Z0 Fv Fc Va u1 u2 u3 u4) E1 2 (by decide) (g := (mkF m 24 #[.val (.ref b), .val (.int (Int32.ofNat cs.length + (1 : Int32))), .val (.int (N >>> (cd &&& 31)))] [(.int (Int32.ofNat cs.length + (1 : Int32))), (.ref b), (.ref t), (.ref b)])) rfl hml.symm [(.int (Int32.ofNat cs.length + (1 : Int32)))] [(.ref t), (.ref b)] (lenOf pd_bl1 rfl) rfl rfl (hb hby d35_24) e5 rfl
  obtain ⟨rfl, N6q, q6⟩ := hQ6
  have N6 := Fr.app N0 N6q
  obtain ⟨T7, X7, e7, st7⟩ := getF X6 hx hZ hown (host := "") (Or.inl (wd59 hw)) Via.refl q6 Fc (g := (mkF m 28 #[.val (.ref b), .val (.int (Int32.ofNat cs.length + (1 : Int32))), .val (.int (N >>> (cd &&& 31)))] [(.ref b), (.int ((N + q) >>> (cd &&& 31))), (.ref t), (.ref b)])) rfl rfl (hb hby d35_28)
  obtain ⟨_, T8, Lc8, X8, hQ8, st8⟩ := own_cS X7 hx hZ (y := own_z43) hown (wd208 hw) (wd209 hw) (wd96 hw) (wd210 hw) (by decide) (rmcof l Z a0 hw [] t kb N M vs nN nM h0 n0 Z0 Va u6 u7 u8 u9 u10 u11 u12 u13 u14) 1 (by decide) (g := (mkF m 32 #[.val (.ref b), .val (.int (Int32.ofNat cs.length + (1 : Int32))), .val (.int (N >>> (cd &&& 31)))] [(.int M), (.ref t), (.ref b)])) rfl hml.symm [(.ref t), (.int M)] [(.ref b)] (lenOf pd_cof rfl) rfl rfl (hb hby d35_32) e7 rfl
  obtain ⟨b8, kb8, rfl, N8q, E8, gz8, Q8, V8⟩ := hQ8
  have N8 := Fr.app N6 N8q
  have E1_8 := E1.ext E8
  have Fv_8 := Fv.ext E8
  have Fc_8 := Fc.ext E8
  have Fn_8 := Fn.ext E8
  have Fm_8 := Fm.ext E8
  have Et_8 := Et.ext E8
  have Va_8 := Va.ext E8
  have K8 := (Keep.refl h0 []).ext E8
  obtain ⟨T9, h9, X9, e9, W9, st9⟩ := putF X8 hx hZ hown (host := "") (Or.inl (wd57 hw)) Via.refl rfl Fv_8 E1_8 (Or.inl (wd58 hw)) (wd33 hw) (ty := (.array .byte)) (by decide) rfl rfl (g := (mkF m 35 #[.val (.ref b), .val (.int (Int32.ofNat cs.length + (1 : Int32))), .val (.int (N >>> (cd &&& 31)))] [(.ref b8), (.ref b)])) rfl rfl (hb hby d35_35)
  have N9 := Fr.snoc X9 N8 g1
  have E1_9 := E1_8.wr W9
  have Fv_9 := Fv_8.same W9
  have Fc_9 := Fc_8.other W9 (Or.inr (slot_ne (Or.inl (wd60 hw)) (Or.inl (wd58 hw)) (by decide) (t := .byte) (t' := (.array .byte)) (by decide) (by decide)))
  have Fn_9 := Fn_8.other W9 (Or.inr (slot_ne (Or.inl (wd88 hw)) (Or.inl (wd58 hw)) (by decide) (t := .int) (t' := (.array .byte)) (by decide) (by decide)))
  have Fm_9 := Fm_8.other W9 (Or.inr (slot_ne (Or.inl (wd276 hw)) (Or.inl (wd58 hw)) (by decide) (t := .boolean) (t' := (.array .byte)) (by decide) (by decide)))
  have Q8_9 := Q8.wr W9
  have V8_9 := V8.other W9 (Ne.symm (E1_8.neArv V8 (wd33 hw)))
  have pre10 : own_pr p e below PP T9 (mkF m 38 #[.val (.ref b), .val (.int (Int32.ofNat cs.length + (1 : Int32))), .val (.int (N >>> (cd &&& 31)))] []) := fun τ κ => pre4 τ (by
   show own_st p e below T3 (mkF m 14 #[.val (.ref b), .val (.int (Int32.ofNat cs.length + (1 : Int32))), .val (.int (N >>> (cd &&& 31)))] [(.int ((Int32.ofNat cs.length + (1 : Int32)) - (N >>> (cd &&& 31))))]) _
   refine XS.ifNo X3.here hx rfl (hb hby d35_14) rfl ((if0 _ _).trans (tlt hc14).2.2.2) ?_
   refine XS.aloadN X3.here hx rfl (hb hby d35_17) rfl rfl ?_
   refine XS.aloadN X3.here hx rfl (hb hby d35_18) rfl rfl ?_
   refine st5 _ ?_
   refine XS.aloadN X5.here hx rfl (hb hby d35_22) rfl rfl ?_
   refine XS.iloadN X5.here hx rfl (hb hby d35_23) rfl ?_
   refine st6 _ ?_
   refine XS.aloadN X6.here hx rfl (hb hby d35_27) rfl rfl ?_
   refine st7 _ ?_
   refine XS.ishl X7.here hx rfl (hb hby d35_31) rfl ?_
   show own_st p e below T7 (mkF m 32 #[.val (.ref b), .val (.int (Int32.ofNat cs.length + (1 : Int32))), .val (.int (N >>> (cd &&& 31)))] [(.int (((N + q) >>> (cd &&& 31)) <<< (cd &&& 31))), (.ref t), (.ref b)]) _
   rw [u5]
   refine st8 _ ?_
   refine st9 _ ?_
   exact κ)
  obtain ⟨fs11, hr11, hrun11, hended11, hW11, hsame11⟩ := X9.leave (v := none) (fun _ => rfl)
  refine ⟨_, _, hPs _ (pre10 _ ?_), hrun11, hended11, _, _, rfl, ?_, ⟨_, rfl⟩, hW11, hsame11.mono (by decide) (by decide)⟩
  ·show own_st p e below T9 (mkF m 38 #[.val (.ref b), .val (.int (Int32.ofNat cs.length + (1 : Int32))), .val (.int (N >>> (cd &&& 31)))] []) _
   exact X9.returnOut hx Bd.returns (hb hby d35_38) hr11
  ·show Qec Z b t cs C k h0 n0 _ T9.heap _
   rw [e9]
   exact ⟨rfl, N9, b8, 2 * C + 2, ((Keep.refl h0 [b]).ext E8).wr W9 (Or.inl (List.mem_singleton.mpr rfl)), Or.inr gz8, ⟨_, _, _, _, E1_9, Fv_9, Fc_9, Fn_9, Fm_9, Q8_9, V8_9, hb2⟩, by omega, by omega⟩
 have pre12 : own_pr p e below PP T3 (mkF m 38 #[.val (.ref b), .val (.int (Int32.ofNat cs.length + (1 : Int32))), .val (.int (N >>> (cd &&& 31)))] []) := fun τ κ => pre4 τ (by
  show own_st p e below T3 (mkF m 14 #[.val (.ref b), .val (.int (Int32.ofNat cs.length + (1 : Int32))), .val (.int (N >>> (cd &&& 31)))] [(.int ((Int32.ofNat cs.length + (1 : Int32)) - (N >>> (cd &&& 31))))]) _
  refine XS.ifYes X3.here hx rfl (pc0 := 14) (pc' := 38) rfl (hb hby d35_14) rfl ((if0 _ _).trans (flt hc14).2.2.2) (by decide) (by decide) ?_
  exact κ)
 obtain ⟨fs13, hr13, hrun13, hended13, hW13, hsame13⟩ := X3.leave (v := none) (fun _ => rfl)
 refine ⟨_, _, hPs _ (pre12 _ ?_), hrun13, hended13, _, _, rfl, ?_, ⟨_, rfl⟩, hW13, hsame13.mono (by decide) (by decide)⟩
 ·show own_st p e below T3 (mkF m 38 #[.val (.ref b), .val (.int (Int32.ofNat cs.length + (1 : Int32))), .val (.int (N >>> (cd &&& 31)))] []) _
  exact X3.returnOut hx Bd.returns (hb hby d35_38) hr13
 ·show Qec Z b t cs C k h0 n0 _ T3.heap _
  rw [e3]
  have hcx := hc14
  rw [hNC] at hcx
  exact ⟨rfl, N0, t, C, Keep.refl h0 [b], Or.inl rfl, SBd, own_ng _ (by omega) _ (by omega) hcx, hC⟩

theorem own_sub0 (x : Int32) : x - (0 : Int32) = x := by
 apply Int32.toInt_inj.mp
 have q := rng32 x
 rw [Int32.toInt_sub, show (0 : Int32).toInt = 0 from rfl, Int.sub_zero]
 exact Int.bmod_eq_of_le (by omega) (by omega)
theorem own_ltle {a b c : Int32} (h : a < b) (h2 : b ≤ c) : a < c := by
 rw [Int32.lt_iff_toInt_lt] at h ⊢
 rw [Int32.le_iff_toInt_le] at h2
 omega
theorem own_mnl : ∀ C < 17, ∀ n < C + 1, own_min (Int32.ofNat C) (Int32.ofNat n) = Int32.ofNat n := by decide +kernel
theorem own_nle : ∀ C < 17, ∀ n < C + 1, Int32.ofNat n ≤ Int32.ofNat C := by decide +kernel
theorem own_off : ∀ C < 9, ∀ n < C + 1, ¬ (((Int32.ofNat (2 * C) >>> ((1 : Int32) &&& 31)) ||| (0 : Int32)) ||| Int32.ofNat n) < 0 ∧ ¬ ((Int32.ofNat (2 * C) >>> ((1 : Int32) &&& 31)) - (0 : Int32)) < Int32.ofNat n := by decide +kernel
theorem own_shc : ∀ C < 9, ¬ Int32.ofNat C < 0 ∧ Int32.ofNat C < (1073741823 : Int32) ∧ Int32.ofNat C <<< ((1 : Int32) &&& 31) = Int32.ofNat (2 * C) := by decide +kernel
theorem own_set1 (y : Value) : ∀ (A B : List Value) (x : Value), (A ++ x :: B).set A.length y = A ++ y :: B
 | [], B, x => rfl
 | a :: A, B, x => by simp only [List.cons_append, List.length_cons, List.set_cons_succ, own_set1 y A B x]
theorem own_lset (cs : List Int32) (c : Int32) (r : Nat) : ((cs.map fun c => Value.int (own_lo8 c)) ++ List.replicate (r + 1) (Value.int 0)).set cs.length (.int (own_lo8 c)) = ((cs ++ [c]).map fun c => Value.int (own_lo8 c)) ++ List.replicate r (Value.int 0) := by
 have q := own_set1 (.int (own_lo8 c)) (cs.map fun c => Value.int (own_lo8 c)) (List.replicate r (Value.int 0)) (Value.int 0)
 rw [List.length_map] at q
 rw [List.replicate_succ, q, List.map_append, List.append_assoc]; rfl
theorem own_wset (cs : List Int32) (c : Int32) (r : Nat) : ((own_wb cs ++ List.replicate (2 * (r + 1)) (Value.int 0)).set (2 * cs.length) (.int (own_lo8 c))).set (2 * cs.length + 1) (.int (own_hi8 c)) = own_wb (cs ++ [c]) ++ List.replicate (2 * r) (Value.int 0) := by
 have q := own_set1 (.int (own_lo8 c)) (own_wb cs) (.int 0 :: List.replicate (2 * r) (Value.int 0)) (Value.int 0)
 have q2 := own_set1 (.int (own_hi8 c)) (own_wb cs ++ [.int (own_lo8 c)]) (List.replicate (2 * r) (Value.int 0)) (Value.int 0)
 rw [own_wlen] at q
 rw [List.length_append, own_wlen, List.append_assoc] at q2
 rw [show 2 * (r + 1) = 2 * r + 1 + 1 from by omega, List.replicate_succ, List.replicate_succ, q, own_wapp]
 refine Eq.trans q2 ?_
 simp [own_wb]
theorem own_bbL {cs : List Int32} {c : Int32} {C r : Nat} (hx : ∀ x ∈ cs, ¬ 255 < x) (hc : ¬ (255 : Int32) < c) (hr : cs.length + r = C) (hl : cs.length < C) : own_bb (cs ++ [c]) 0 (Int32.ofNat C) C (((cs.map fun c => Value.int (own_lo8 c)) ++ List.replicate r (Value.int 0)).set cs.length (.int (own_lo8 c))) := by
 obtain ⟨r', rfl⟩ : ∃ r', r = r' + 1 := ⟨r - 1, by omega⟩
 refine Or.inl ⟨rfl, rfl, fun x hx' => ?_, r', by simp; omega, own_lset cs c r'⟩
 rcases List.mem_append.mp hx' with q | q
 ·exact hx x q
 ·cases List.mem_singleton.mp q; exact hc
theorem own_bbW {cs : List Int32} {c : Int32} {C r : Nat} (hx : ∃ x ∈ cs ++ [c], 255 < x) (hr : cs.length + r = C) (hl : cs.length < C) : own_bb (cs ++ [c]) 1 (Int32.ofNat (2 * C)) C (((own_wb cs ++ List.replicate (2 * r) (Value.int 0)).set (2 * cs.length) (.int (own_lo8 c))).set (2 * cs.length + 1) (.int (own_hi8 c))) := by
 obtain ⟨r', rfl⟩ : ∃ r', r = r' + 1 := ⟨r - 1, by omega⟩
 exact Or.inr ⟨rfl, rfl, hx, r', by simp; omega, own_wset cs c r'⟩

theorem d44_0 : own_D own_c35 0 (.iload_n 1) 1 := by decide +kernel
theorem d44_1 : own_D own_c35 1 (.iload_n 0) 1 := by decide +kernel
theorem d44_2 : own_D own_c35 2 (.if_icmp .ge 35) 3 := by decide +kernel
theorem d44_37 : own_D own_c35 37 (.return_) 1 := by decide +kernel


def Qckl (Z : State) (p2 : Int32) (h0 : Heap) (n0 : Nat) (v : Option Value) (h : Heap) (L : List Loc) : Prop := v = none ∧ Fr n0 L ∧ h = h0
theorem rmckl (l : Launch) (Z : State) (a0 : Array Value) (hw : own_W Z a0) (ws : List Jvm.Cond) (p2 : Int32) (h0 : Heap) (n0 : Nat) (Z0 : n0 ≤ h0.size) (hp : ¬ p2 < (0 : Int32)) :
  own_M l Z own_z46 own_c35 2 none ({ frames := 0, cells := 0, slots := 0, locals := 0 } : Room) ws #[(.int (0 : Int32)), (.int p2)] h0 (Qckl Z p2 h0 n0) := by
 refine MetFree.of_bodySF (plainFor_of_name pn_k8) hisR ?_
 intro p e s m args below meth c s₁ Bd hml0 hP hK
 obtain ⟨rfl, hZ, hh⟩ := hP
 have hx := Bd.exec
 have hby := Bd.bytes
 have hml : c.maxLocals = 2 := hml0
 have hown : s.vm.findClass "java/util/Arrays" = some m.cls := findClass_of_methodNamed Bd.named
 have X0 : Stand p l e ({ frames := 0, cells := 0, slots := 0, locals := 0 } : Room) s m #[(.int (0 : Int32)), (.int p2)] below meth c s₁ [] 0 0 := Stand.of_body Bd
 have e0 : s₁.heap = h0 := by rw [← hh, Bd.state]; rfl
 have N0 := Fr.nil n0
 obtain ⟨PP, hPs, pre0⟩ : ∃ PP : State → Prop, (∀ t, PP t → Steps p.tables e below (s₁.setTop (entryFrame m #[(.int (0 : Int32)), (.int p2)] 2)) t) ∧ own_pr p e below PP s₁ (mkF m 0 #[.val (.int (0 : Int32)), .val (.int p2)] []) := ⟨_, fun _ κ => κ, fun τ κ => castTop (ef_mx m (0 : Int32) p2) κ⟩
 have pre1 : own_pr p e below PP s₁ (mkF m 37 #[.val (.int (0 : Int32)), .val (.int p2)] []) := fun τ κ => pre0 τ (by
  show own_st p e below s₁ (mkF m 0 #[.val (.int (0 : Int32)), .val (.int p2)] []) _
  refine XS.iloadN X0.here hx rfl (hb hby d44_0) rfl ?_
  refine XS.iloadN X0.here hx rfl (hb hby d44_1) rfl ?_
  refine XS.icmpYes X0.here hx rfl (pc0 := 2) (pc' := 37) rfl (hb hby d44_2) rfl (flt hp).2.1 (by decide) (by decide) ?_
  exact κ)
 obtain ⟨fs2, hr2, hrun2, hended2, hW2, hsame2⟩ := X0.leave (v := none) (fun _ => rfl)
 refine ⟨_, _, hPs _ (pre1 _ ?_), hrun2, hended2, _, _, rfl, ?_, ⟨_, rfl⟩, hW2, hsame2.mono (by decide) (by decide)⟩
 ·show own_st p e below s₁ (mkF m 37 #[.val (.int (0 : Int32)), .val (.int p2)] []) _
  exact X0.returnOut hx Bd.returns (hb hby d44_37) hr2
 ·show Qckl Z p2 h0 n0 _ s₁.heap _
  rw [e0]
  exact ⟨rfl, N0, rfl⟩

theorem d43_0 : own_D own_c36 0 (.iload_n 1) 1 := by decide +kernel
theorem d43_1 : own_D own_c36 1 (.iload_n 2) 1 := by decide +kernel
theorem d43_2 : own_D own_c36 2 (.invokestatic 343) 3 := by decide +kernel
theorem d43_5 : own_D own_c36 5 (.iload_n 2) 1 := by decide +kernel
theorem d43_6 : own_D own_c36 6 (.iload_n 1) 1 := by decide +kernel
theorem d43_7 : own_D own_c36 7 (.isub) 1 := by decide +kernel
theorem d43_8 : own_D own_c36 8 (.istore_n 3) 1 := by decide +kernel
theorem d43_9 : own_D own_c36 9 (.iload_n 3) 1 := by decide +kernel
theorem d43_10 : own_D own_c36 10 (.newarray .byte) 2 := by decide +kernel
theorem d43_12 : own_D own_c36 12 (.astore 4) 2 := by decide +kernel
theorem d43_14 : own_D own_c36 14 (.aload_n 0) 1 := by decide +kernel
theorem d43_15 : own_D own_c36 15 (.iload_n 1) 1 := by decide +kernel
theorem d43_16 : own_D own_c36 16 (.aload 4) 2 := by decide +kernel
theorem d43_18 : own_D own_c36 18 (.iconst 0) 1 := by decide +kernel
theorem d43_19 : own_D own_c36 19 (.aload_n 0) 1 := by decide +kernel
theorem d43_20 : own_D own_c36 20 (.arraylength) 1 := by decide +kernel
theorem d43_21 : own_D own_c36 21 (.iload_n 1) 1 := by decide +kernel
theorem d43_22 : own_D own_c36 22 (.isub) 1 := by decide +kernel
theorem d43_23 : own_D own_c36 23 (.iload_n 3) 1 := by decide +kernel
theorem d43_24 : own_D own_c36 24 (.invokestatic 304) 3 := by decide +kernel
theorem d43_27 : own_D own_c36 27 (.invokestatic 150) 3 := by decide +kernel
theorem d43_30 : own_D own_c36 30 (.aload 4) 2 := by decide +kernel
theorem d43_32 : own_D own_c36 32 (.areturn) 1 := by decide +kernel

theorem pd_crb : parseMethodDescriptor "([BII)[B" = some ⟨[(.array .byte), .int, .int], some (.array .byte)⟩ := by decide +kernel

def Qcrb (Z : State) (a1 : Addr) (k1 : ClassId) (N p2 : Int32) (vs us : List Value) (nN n2 : Nat) (h0 : Heap) (n0 : Nat) (v : Option Value) (h : Heap) (L : List Loc) : Prop := ∃ b kb, v = some (.ref b) ∧ Fr n0 L ∧ Ext h0 h ∧ h0.size ≤ b ∧ Exa Z h b "[B" ∧ Arv Z h b kb .byte p2 us (.int 0)
theorem rmcrb (l : Launch) (Z : State) (a0 : Array Value) (hw : own_W Z a0) (ws : List Jvm.Cond) (a1 : Addr) (k1 : ClassId) (N p2 : Int32) (vs us : List Value) (nN n2 : Nat) (h0 : Heap) (n0 : Nat) (Z0 : n0 ≤ h0.size) (As : Arv Z h0 a1 k1 .byte N vs (.int 0)) (Ea : Exa Z h0 a1 "[B") (hp : ¬ p2 < (0 : Int32)) (hmn : own_min N p2 = p2) (hc2 : p2.toNatClampNeg = n2) (hcN : N.toNatClampNeg = nN) (h2N : n2 ≤ nN) (h16 : nN ≤ 16) (hvl : vs.length = nN) (hus : us = (List.range n2).map fun i => vs.getD ((0 : Int32).toNatClampNeg + i) (.int 0)) :
  own_M l Z own_z45 own_c36 5 (some (.array .byte)) ({ frames := 1, cells := 1, slots := 16, locals := 40 } : Room) ws #[(.ref a1), (.int (0 : Int32)), (.int p2)] h0 (Qcrb Z a1 k1 N p2 vs us nN n2 h0 n0) := by
 refine MetFree.of_bodySF (plainFor_of_name pn_k8) hisR ?_
 intro p e s m args below meth c s₁ Bd hml0 hP hK
 obtain ⟨rfl, hZ, hh⟩ := hP
 have hx := Bd.exec
 have hby := Bd.bytes
 have hml : c.maxLocals = 5 := hml0
 have hown : s.vm.findClass "java/util/Arrays" = some m.cls := findClass_of_methodNamed Bd.named
 have X0 : Stand p l e ({ frames := 1, cells := 1, slots := 16, locals := 40 } : Room) s m #[(.ref a1), (.int (0 : Int32)), (.int p2)] below meth c s₁ [] 0 0 := Stand.of_body Bd
 have e0 : s₁.heap = h0 := by rw [← hh, Bd.state]; rfl
 have N0 := Fr.nil n0
 obtain ⟨PP, hPs, pre0⟩ : ∃ PP : State → Prop, (∀ t, PP t → Steps p.tables e below (s₁.setTop (entryFrame m #[(.ref a1), (.int (0 : Int32)), (.int p2)] 5)) t) ∧ own_pr p e below PP s₁ (mkF m 0 #[.val (.ref a1), .val (.int (0 : Int32)), .val (.int p2), .unset, .unset] []) := ⟨_, fun _ κ => κ, fun τ κ => castTop (ef_tb1 m a1 (0 : Int32) p2) κ⟩
 obtain ⟨_, T1, Lc1, X1, hQ1, st1⟩ := own_cS X0 hx hZ (y := own_z46) hown (wd219 hw) (wd220 hw) (wd96 hw) (wd221 hw) (by decide) (rmckl l Z a0 hw [] p2 h0 n0 Z0 hp) 0 (by decide) (g := (mkF m 2 #[.val (.ref a1), .val (.int (0 : Int32)), .val (.int p2), .unset, .unset] [(.int p2), (.int (0 : Int32))])) rfl hml.symm [(.int (0 : Int32)), (.int p2)] [] (lenOf pd_ki rfl) rfl rfl (hb hby d43_2) e0 rfl
 obtain ⟨rfl, N1q, q1⟩ := hQ1
 have N1 := Fr.app N0 N1q
 obtain ⟨T2, h2, k2, X2, e2, E2, A2, Q2, st2⟩ := newPE (aty := .byte) X1 hx hZ (wd21 hw) q1 (g := (mkF m 10 #[.val (.ref a1), .val (.int (0 : Int32)), .val (.int p2), .val (.int p2), .unset] [(.int p2)])) rfl (hb hby d43_10) rfl hp (cap := 16) (by rw [hc2]; exact Nat.le_trans h2N h16) (by decide) (by decide) (by decide) (ad := "[B") (by decide)
 obtain ⟨b2, gb2⟩ : ∃ z, z = h0.size := ⟨_, rfl⟩
 rw [← gb2] at A2 Q2 st2
 have gn2 : n0 ≤ b2 := Nat.le_trans Z0 (Nat.le_of_eq gb2.symm)
 have sz2_b : h0.size ≤ b2 := Nat.le_trans (Keep.refl h0 []).1 (Nat.le_of_eq gb2.symm)
 have ne_a1_b2 : a1 ≠ b2 := Nat.ne_of_lt (Nat.lt_of_lt_of_le As.lt (Nat.le_of_eq gb2.symm))
 have As_2 := As.ext E2
 have K2 := (Keep.refl h0 []).ext E2
 have V2 : Arv Z h2 b2 k2 .byte p2 (List.replicate n2 (.int (0 : Int32))) (.int (0 : Int32)) := (Arv.new A2 hp).pad (pad_rep [] (.int (0 : Int32)) n2)
 have Vc3 := As_2
 obtain ⟨cl3, Ar3, qq3, sz3, nn3, Ha3, Gf3⟩ := Vc3
 obtain ⟨_, T4, Lc4, X4, hQ4, st4⟩ := own_cS X2 hx hZ (y := own_z32) hown (wd211 hw) (wd163 hw) (wd160 hw) (wd164 hw) (by decide) (rmmn l Z a0 hw [] N p2 p2 h2 n0 (Nat.le_trans Z0 E2.1) hmn) 4 (by decide) (g := (mkF m 24 #[.val (.ref a1), .val (.int (0 : Int32)), .val (.int p2), .val (.int p2), .val (.ref b2)] [(.int p2), (.int N), (.int (0 : Int32)), (.ref b2), (.int (0 : Int32)), (.ref a1)])) rfl hml.symm [(.int N), (.int p2)] [(.int (0 : Int32)), (.ref b2), (.int (0 : Int32)), (.ref a1)] (lenOf pd_mx rfl) rfl rfl (hb hby d43_24) e2 rfl
 obtain ⟨rfl, N4q, q4⟩ := hQ4
 have N4 := Fr.app N1 N4q
 obtain ⟨T5, h5, L5, X5, e5, N5, Kc5, V5, st5⟩ := cpA X4 hx hZ hown (wd212 hw) (wd215 hw) (wd213 hw) (wd214 hw) q4 As_2 V2 (sp := (0 : Int32)) (dp := (0 : Int32)) (nn := p2) (us := us) (Or.inl ⟨rfl, rfl⟩) (by decide) (by decide) hp (by rw [hc2, hcN]; exact Nat.le_trans (Nat.le_of_eq (Nat.zero_add _)) h2N) (Nat.le_of_eq (Nat.zero_add _)) (by rw [hc2]; exact hus) (by rw [hc2, List.length_replicate]; exact (Nat.le_of_eq (Nat.zero_add _))) N4 gn2 (g := (mkF m 27 #[.val (.ref a1), .val (.int (0 : Int32)), .val (.int p2), .val (.int p2), .val (.ref b2)] [(.int p2), (.int (0 : Int32)), (.ref b2), (.int (0 : Int32)), (.ref a1)])) rfl hml.symm rfl (hb hby d43_27) (by decide) (W := 0) (by show 2 * 0 + _ ≤ _; exact Nat.le_of_eq rfl) (by decide)
 have K5 := K2.trans Kc5 (fun x hx => by cases List.mem_singleton.mp hx; exact Or.inr sz2_b)
 have Qx5 := Q2.keep Kc5
 have pre6 : own_pr p e below PP T5 (mkF m 32 #[.val (.ref a1), .val (.int (0 : Int32)), .val (.int p2), .val (.int p2), .val (.ref b2)] [(.ref b2)]) := fun τ κ => pre0 τ (by
  show own_st p e below s₁ (mkF m 0 #[.val (.ref a1), .val (.int (0 : Int32)), .val (.int p2), .unset, .unset] []) _
  refine XS.iloadN X0.here hx rfl (hb hby d43_0) rfl ?_
  refine XS.iloadN X0.here hx rfl (hb hby d43_1) rfl ?_
  refine st1 _ ?_
  refine XS.iloadN X1.here hx rfl (hb hby d43_5) rfl ?_
  refine XS.iloadN X1.here hx rfl (hb hby d43_6) rfl ?_
  refine XS.isub X1.here hx rfl (hb hby d43_7) rfl ?_
  show own_st p e below T1 (mkF m 8 #[.val (.ref a1), .val (.int (0 : Int32)), .val (.int p2), .unset, .unset] [(.int (p2 - (0 : Int32)))]) _
  rw [own_sub0]
  refine XS.istoreN X1.here hx rfl (hb hby d43_8) rfl (l' := #[.val (.ref a1), .val (.int (0 : Int32)), .val (.int p2), .val (.int p2), .unset]) rfl ?_
  refine XS.iloadN X1.here hx rfl (hb hby d43_9) rfl ?_
  refine st2 _ ?_
  refine XS.astore X2.here hx rfl (hb hby d43_12) rfl rfl (l' := #[.val (.ref a1), .val (.int (0 : Int32)), .val (.int p2), .val (.int p2), .val (.ref b2)]) rfl ?_
  refine XS.aloadN X2.here hx rfl (hb hby d43_14) rfl rfl ?_
  refine XS.iloadN X2.here hx rfl (hb hby d43_15) rfl ?_
  refine XS.aload X2.here hx rfl (hb hby d43_16) rfl rfl ?_
  refine XS.iconst X2.here hx rfl (hb hby d43_18) ?_
  refine XS.aloadN X2.here hx rfl (hb hby d43_19) rfl rfl ?_
  refine X2.arraylength hx (by rw [e2]; exact Ar3.1) (State.isArrayOf_alike hZ.alike Ar3.2.1) (g := (mkF m 20 #[.val (.ref a1), .val (.int (0 : Int32)), .val (.int p2), .val (.int p2), .val (.ref b2)] [(.ref a1), (.int (0 : Int32)), (.ref b2), (.int (0 : Int32)), (.ref a1)])) rfl rfl (hb hby d43_20) _ ?_
  rw [len_of sz3 nn3]
  refine XS.iloadN X2.here hx rfl (hb hby d43_21) rfl ?_
  refine XS.isub X2.here hx rfl (hb hby d43_22) rfl ?_
  show own_st p e below T2 (mkF m 23 #[.val (.ref a1), .val (.int (0 : Int32)), .val (.int p2), .val (.int p2), .val (.ref b2)] [(.int (N - (0 : Int32))), (.int (0 : Int32)), (.ref b2), (.int (0 : Int32)), (.ref a1)]) _
  rw [own_sub0]
  refine XS.iloadN X2.here hx rfl (hb hby d43_23) rfl ?_
  refine st4 _ ?_
  refine st5 _ ?_
  refine XS.aload X5.here hx rfl (hb hby d43_30) rfl rfl ?_
  exact κ)
 obtain ⟨fs7, hr7, hrun7, hended7, hW7, hsame7⟩ := X5.leave (v := some (.ref b2)) (fun h => by rw [Bd.returns] at h; cases h)
 refine ⟨_, _, hPs _ (pre6 _ ?_), hrun7, hended7, _, _, rfl, ?_, ⟨_, rfl⟩, hW7, hsame7.mono (by decide) (by decide)⟩
 ·show own_st p e below T5 (mkF m 32 #[.val (.ref a1), .val (.int (0 : Int32)), .val (.int p2), .val (.int p2), .val (.ref b2)] [(.ref b2)]) _
  exact retOut X5 hx (t := (.array .byte)) Bd.returns rfl (Or.inr (Or.inr (Or.inr (Or.inr ⟨rfl, rfl, rfl⟩)))) (hb hby d43_32) hr7
 ·show Qcrb Z a1 k1 N p2 vs us nN n2 h0 n0 _ T5.heap _
  rw [e5]
  have q := V5
  rw [hc2, own_fin1, Nat.sub_self, List.replicate_zero, List.append_nil] at q
  exact ⟨_, _, rfl, N5, own_ext K5, sz2_b, Qx5, q⟩

theorem d17_0 : own_D own_c37 0 (.iload_n 1) 1 := by decide +kernel
theorem d17_1 : own_D own_c37 1 (.ifCond .ne 9) 3 := by decide +kernel
theorem d17_4 : own_D own_c37 4 (.iload_n 2) 1 := by decide +kernel
theorem d17_5 : own_D own_c37 5 (.aload_n 0) 1 := by decide +kernel
theorem d17_6 : own_D own_c37 6 (.arraylength) 1 := by decide +kernel
theorem d17_7 : own_D own_c37 7 (.if_icmp .eq 10) 3 := by decide +kernel
theorem d17_10 : own_D own_c37 10 (.aload_n 0) 1 := by decide +kernel
theorem d17_11 : own_D own_c37 11 (.iload_n 1) 1 := by decide +kernel
theorem d17_12 : own_D own_c37 12 (.iload_n 2) 1 := by decide +kernel
theorem d17_13 : own_D own_c37 13 (.invokestatic 339) 3 := by decide +kernel
theorem d17_16 : own_D own_c37 16 (.areturn) 1 := by decide +kernel
theorem d17_17 : own_D own_c37 17 (.aload_n 0) 1 := by decide +kernel
theorem d17_18 : own_D own_c37 18 (.invokevirtual 310) 3 := by decide +kernel
theorem d17_21 : own_D own_c37 21 (.checkcast 311) 3 := by decide +kernel
theorem d17_24 : own_D own_c37 24 (.areturn) 1 := by decide +kernel


def Qcr (Z : State) (a1 : Addr) (k1 : ClassId) (N p2 : Int32) (vs us : List Value) (nN n2 : Nat) (h0 : Heap) (n0 : Nat) (v : Option Value) (h : Heap) (L : List Loc) : Prop := ∃ b kb, v = some (.ref b) ∧ Fr n0 L ∧ Ext h0 h ∧ h0.size ≤ b ∧ Exa Z h b "[B" ∧ Arv Z h b kb .byte p2 us (.int 0)
theorem rmcr (l : Launch) (Z : State) (a0 : Array Value) (hw : own_W Z a0) (ws : List Jvm.Cond) (a1 : Addr) (k1 : ClassId) (N p2 : Int32) (vs us : List Value) (nN n2 : Nat) (h0 : Heap) (n0 : Nat) (Z0 : n0 ≤ h0.size) (As : Arv Z h0 a1 k1 .byte N vs (.int 0)) (Ea : Exa Z h0 a1 "[B") (hp : ¬ p2 < (0 : Int32)) (hmn : own_min N p2 = p2) (hc2 : p2.toNatClampNeg = n2) (hcN : N.toNatClampNeg = nN) (h2N : n2 ≤ nN) (h16 : nN ≤ 16) (hvl : vs.length = nN) (hus : us = (List.range n2).map fun i => vs.getD ((0 : Int32).toNatClampNeg + i) (.int 0)) :
  own_M l Z own_z16 own_c37 3 (some (.array .byte)) ({ frames := 2, cells := 1, slots := 16, locals := 56 } : Room) ws #[(.ref a1), (.int (0 : Int32)), (.int p2)] h0 (Qcr Z a1 k1 N p2 vs us nN n2 h0 n0) := by
 refine MetFree.of_bodySF (plainFor_of_name pn_k8) hisR ?_
 intro p e s m args below meth c s₁ Bd hml0 hP hK
 obtain ⟨rfl, hZ, hh⟩ := hP
 have hx := Bd.exec
 have hby := Bd.bytes
 have hml : c.maxLocals = 3 := hml0
 have hown : s.vm.findClass "java/util/Arrays" = some m.cls := findClass_of_methodNamed Bd.named
 have X0 : Stand p l e ({ frames := 2, cells := 1, slots := 16, locals := 56 } : Room) s m #[(.ref a1), (.int (0 : Int32)), (.int p2)] below meth c s₁ [] 0 0 := Stand.of_body Bd
 have e0 : s₁.heap = h0 := by rw [← hh, Bd.state]; rfl
 have N0 := Fr.nil n0
 obtain ⟨PP, hPs, pre0⟩ : ∃ PP : State → Prop, (∀ t, PP t → Steps p.tables e below (s₁.setTop (entryFrame m #[(.ref a1), (.int (0 : Int32)), (.int p2)] 3)) t) ∧ own_pr p e below PP s₁ (mkF m 0 #[.val (.ref a1), .val (.int (0 : Int32)), .val (.int p2)] []) := ⟨_, fun _ κ => κ, fun τ κ => castTop (ef_pc m a1 (0 : Int32) p2) κ⟩
 have Vc1 := As
 obtain ⟨cl1, Ar1, qq1, sz1, nn1, Ha1, Gf1⟩ := Vc1
 have pre2 : own_pr p e below PP s₁ (mkF m 7 #[.val (.ref a1), .val (.int (0 : Int32)), .val (.int p2)] [(.int N), (.int p2)]) := fun τ κ => pre0 τ (by
  show own_st p e below s₁ (mkF m 0 #[.val (.ref a1), .val (.int (0 : Int32)), .val (.int p2)] []) _
  refine XS.iloadN X0.here hx rfl (hb hby d17_0) rfl ?_
  refine XS.ifNo X0.here hx rfl (hb hby d17_1) rfl ((if0 _ _).trans (teq (by decide : (0 : Int32) = (0 : Int32))).2) ?_
  refine XS.iloadN X0.here hx rfl (hb hby d17_4) rfl ?_
  refine XS.aloadN X0.here hx rfl (hb hby d17_5) rfl rfl ?_
  refine X0.arraylength hx (by rw [e0]; exact Ar1.1) (State.isArrayOf_alike hZ.alike Ar1.2.1) (g := (mkF m 6 #[.val (.ref a1), .val (.int (0 : Int32)), .val (.int p2)] [(.ref a1), (.int p2)])) rfl rfl (hb hby d17_6) _ ?_
  rw [len_of sz1 nn1]
  exact κ)
 by_cases hc7 : p2 = N
 ·obtain ⟨T3, h3, X3, e3, E3, A3, Q3, st3⟩ := cloneH X0 hx hZ hown (wd98 hw) (wd99 hw) (wd103 hw) (wd101 hw) (wd102 hw) (wd104 hw) e0 (Arv.arh As) Ea (g := (mkF m 18 #[.val (.ref a1), .val (.int (0 : Int32)), .val (.int p2)] [(.ref a1)])) rfl hml.symm rfl (hb hby d17_18) (by decide) (W := 0) (cap := 16) (by show 2 * 0 + _ ≤ _; exact Nat.le_of_eq rfl) (by decide) (by rw [hcN]; exact h16) (by decide) (by decide)
  obtain ⟨b3, gb3⟩ : ∃ z, z = h0.size := ⟨_, rfl⟩
  rw [← gb3] at A3 Q3 st3
  have gn3 : n0 ≤ b3 := Nat.le_trans Z0 (Nat.le_of_eq gb3.symm)
  have sz3_b : h0.size ≤ b3 := Nat.le_trans (Keep.refl h0 []).1 (Nat.le_of_eq gb3.symm)
  have ne_a1_b3 : a1 ≠ b3 := Nat.ne_of_lt (Nat.lt_of_lt_of_le As.lt (Nat.le_of_eq gb3.symm))
  have As_3 := As.ext E3
  have K3 := (Keep.refl h0 []).ext E3
  obtain ⟨T4, X4, e4, st4⟩ := castY X3 hx hZ hown (wd105 hw) e3 (Ins.self Q3) (g := (mkF m 21 #[.val (.ref a1), .val (.int (0 : Int32)), .val (.int p2)] [(.ref b3)])) rfl rfl (hb hby d17_21)
  have pre5 : own_pr p e below PP T4 (mkF m 24 #[.val (.ref a1), .val (.int (0 : Int32)), .val (.int p2)] [(.ref b3)]) := fun τ κ => pre2 τ (by
   show own_st p e below s₁ (mkF m 7 #[.val (.ref a1), .val (.int (0 : Int32)), .val (.int p2)] [(.int N), (.int p2)]) _
   refine XS.icmpYes X0.here hx rfl (pc0 := 7) (pc' := 17) rfl (hb hby d17_7) rfl (teq hc7).1 (by decide) (by decide) ?_
   refine XS.aloadN X0.here hx rfl (hb hby d17_17) rfl rfl ?_
   refine st3 _ ?_
   refine st4 _ ?_
   exact κ)
  obtain ⟨fs6, hr6, hrun6, hended6, hW6, hsame6⟩ := X4.leave (v := some (.ref b3)) (fun h => by rw [Bd.returns] at h; cases h)
  refine ⟨_, _, hPs _ (pre5 _ ?_), hrun6, hended6, _, _, rfl, ?_, ⟨_, rfl⟩, hW6, hsame6.mono (by decide) (by decide)⟩
  ·show own_st p e below T4 (mkF m 24 #[.val (.ref a1), .val (.int (0 : Int32)), .val (.int p2)] [(.ref b3)]) _
   exact retOut X4 hx (t := (.array .byte)) Bd.returns rfl (Or.inr (Or.inr (Or.inr (Or.inr ⟨rfl, rfl, rfl⟩)))) (hb hby d17_24) hr6
  ·show Qcr Z a1 k1 N p2 vs us nN n2 h0 n0 _ T4.heap _
   rw [e4]
   have e2 : us = vs := by rw [hus, ← hc2, hc7]; exact own_rng vs _ _ (hvl.trans hcN.symm)
   rw [e2, hc7]
   exact ⟨_, _, rfl, N0, E3, sz3_b, Q3, A3⟩
 obtain ⟨_, T7, Lc7, X7, hQ7, st7⟩ := own_cS X0 hx hZ (y := own_z45) hown (wd216 hw) (wd217 hw) (wd96 hw) (wd218 hw) (by decide) (rmcrb l Z a0 hw [] a1 k1 N p2 vs us nN n2 h0 n0 Z0 As Ea hp hmn hc2 hcN h2N h16 hvl hus) 0 (by decide) (g := (mkF m 13 #[.val (.ref a1), .val (.int (0 : Int32)), .val (.int p2)] [(.int p2), (.int (0 : Int32)), (.ref a1)])) rfl hml.symm [(.ref a1), (.int (0 : Int32)), (.int p2)] [] (lenOf pd_crb rfl) rfl rfl (hb hby d17_13) e0 rfl
 obtain ⟨b7, kb7, rfl, N7q, E7, gz7, Q7, V7⟩ := hQ7
 have N7 := Fr.app N0 N7q
 have pre8 : own_pr p e below PP T7 (mkF m 16 #[.val (.ref a1), .val (.int (0 : Int32)), .val (.int p2)] [(.ref b7)]) := fun τ κ => pre2 τ (by
  show own_st p e below s₁ (mkF m 7 #[.val (.ref a1), .val (.int (0 : Int32)), .val (.int p2)] [(.int N), (.int p2)]) _
  refine XS.icmpNo X0.here hx rfl (hb hby d17_7) rfl (feq hc7).1 ?_
  refine XS.aloadN X0.here hx rfl (hb hby d17_10) rfl rfl ?_
  refine XS.iloadN X0.here hx rfl (hb hby d17_11) rfl ?_
  refine XS.iloadN X0.here hx rfl (hb hby d17_12) rfl ?_
  refine st7 _ ?_
  exact κ)
 obtain ⟨fs9, hr9, hrun9, hended9, hW9, hsame9⟩ := X7.leave (v := some (.ref b7)) (fun h => by rw [Bd.returns] at h; cases h)
 refine ⟨_, _, hPs _ (pre8 _ ?_), hrun9, hended9, _, _, rfl, ?_, ⟨_, rfl⟩, hW9, hsame9.mono (by decide) (by decide)⟩
 ·show own_st p e below T7 (mkF m 16 #[.val (.ref a1), .val (.int (0 : Int32)), .val (.int p2)] [(.ref b7)]) _
  exact retOut X7 hx (t := (.array .byte)) Bd.returns rfl (Or.inr (Or.inr (Or.inr (Or.inr ⟨rfl, rfl, rfl⟩)))) (hb hby d17_16) hr9
 ·show Qcr Z a1 k1 N p2 vs us nN n2 h0 n0 _ T7.heap _
  exact ⟨_, _, rfl, N7, E7, gz7, Q7, V7⟩

theorem d12_0 : own_D own_c38 0 (.aload_n 0) 1 := by decide +kernel
theorem d12_1 : own_D own_c38 1 (.invokespecial 1) 3 := by decide +kernel
theorem d12_4 : own_D own_c38 4 (.aload_n 1) 1 := by decide +kernel
theorem d12_5 : own_D own_c38 5 (.invokevirtual 552) 3 := by decide +kernel
theorem d12_8 : own_D own_c38 8 (.astore_n 3) 1 := by decide +kernel
theorem d12_9 : own_D own_c38 9 (.aload_n 1) 1 := by decide +kernel
theorem d12_10 : own_D own_c38 10 (.invokevirtual 549) 3 := by decide +kernel
theorem d12_13 : own_D own_c38 13 (.istore 4) 2 := by decide +kernel
theorem d12_15 : own_D own_c38 15 (.aload_n 1) 1 := by decide +kernel
theorem d12_16 : own_D own_c38 16 (.invokevirtual 1047) 3 := by decide +kernel
theorem d12_19 : own_D own_c38 19 (.ifCond .eq 22) 3 := by decide +kernel
theorem d12_22 : own_D own_c38 22 (.aload_n 0) 1 := by decide +kernel
theorem d12_23 : own_D own_c38 23 (.iconst 0) 1 := by decide +kernel
theorem d12_24 : own_D own_c38 24 (.putfield 15) 3 := by decide +kernel
theorem d12_27 : own_D own_c38 27 (.aload_n 0) 1 := by decide +kernel
theorem d12_28 : own_D own_c38 28 (.aload_n 3) 1 := by decide +kernel
theorem d12_29 : own_D own_c38 29 (.iconst 0) 1 := by decide +kernel
theorem d12_30 : own_D own_c38 30 (.iload 4) 2 := by decide +kernel
theorem d12_32 : own_D own_c38 32 (.invokestatic 54) 3 := by decide +kernel
theorem d12_35 : own_D own_c38 35 (.putfield 9) 3 := by decide +kernel
theorem d12_38 : own_D own_c38 38 (.goto 59) 3 := by decide +kernel
theorem d12_41 : own_D own_c38 41 (.getstatic 38) 3 := by decide +kernel
theorem d12_44 : own_D own_c38 44 (.ifCond .eq 35) 3 := by decide +kernel
theorem d12_47 : own_D own_c38 47 (.aload_n 1) 1 := by decide +kernel
theorem d12_48 : own_D own_c38 48 (.getfield 1048) 3 := by decide +kernel
theorem d12_51 : own_D own_c38 51 (.ifCond .eq 28) 3 := by decide +kernel
theorem d12_79 : own_D own_c38 79 (.aload_n 0) 1 := by decide +kernel
theorem d12_80 : own_D own_c38 80 (.iconst 1) 1 := by decide +kernel
theorem d12_81 : own_D own_c38 81 (.putfield 15) 3 := by decide +kernel
theorem d12_84 : own_D own_c38 84 (.aload_n 0) 1 := by decide +kernel
theorem d12_85 : own_D own_c38 85 (.aload_n 3) 1 := by decide +kernel
theorem d12_86 : own_D own_c38 86 (.iconst 0) 1 := by decide +kernel
theorem d12_87 : own_D own_c38 87 (.iload 4) 2 := by decide +kernel
theorem d12_89 : own_D own_c38 89 (.iconst 1) 1 := by decide +kernel
theorem d12_90 : own_D own_c38 90 (.ishl) 1 := by decide +kernel
theorem d12_91 : own_D own_c38 91 (.invokestatic 54) 3 := by decide +kernel
theorem d12_94 : own_D own_c38 94 (.putfield 9) 3 := by decide +kernel
theorem d12_97 : own_D own_c38 97 (.return_) 1 := by decide +kernel

theorem pd_sa : parseMethodDescriptor "(Ljava/lang/AbstractStringBuilder;Ljava/lang/Void;)V" = some ⟨[(.object "java/lang/AbstractStringBuilder"), (.object "java/lang/Void")], none⟩ := by decide +kernel

theorem ef_sa (m : MethodId) (x0 : Addr) (x1 : Addr)  : entryFrame m #[(.ref x0), (.ref x1), .null] 5 = mkF m 0 #[.val (.ref x0), .val (.ref x1), .val .null, .unset, .unset] [] := by first | (simp [entryFrame, mkF, argsToLocals, Value.category]; done) | rfl
def Qsa (Z : State) (x b t : Addr) (cs : List Int32) (C : Nat) (h0 : Heap) (n0 : Nat) (v : Option Value) (h : Heap) (L : List Loc) : Prop := v = none ∧ Fr n0 L ∧ Keep h0 h [x] ∧ ∃ cd, own_s Z h x cs cd
theorem rmsa (l : Launch) (Z : State) (a0 : Array Value) (hw : own_W Z a0) (ws : List Jvm.Cond) (x b t : Addr) (cs : List Int32) (C : Nat) (h0 : Heap) (n0 : Nat) (Z0 : n0 ≤ h0.size) (Fx : Fld Z h0 x "java/lang/String" "value" "[B" .null) (Cx : Fld Z h0 x "java/lang/String" "coder" "B" (.int 0)) (Ex : Exa Z h0 x "java/lang/String") (gx : n0 ≤ x) (SBd : own_sbd Z h0 b t cs C) (EN : own_env Z h0) (hC8 : C ≤ 8) :
  own_M l Z own_z11 own_c38 5 none ({ frames := 3, cells := 1, slots := 16, locals := 71 } : Room) ws #[(.ref x), (.ref b), .null] h0 (Qsa Z x b t cs C h0 n0) := by
 refine MetFree.of_bodySF (plainFor_of_name pn_k2) hisR ?_
 intro p e s m args below meth c s₁ Bd hml0 hP hK
 obtain ⟨rfl, hZ, hh⟩ := hP
 have hx := Bd.exec
 have hby := Bd.bytes
 have hml : c.maxLocals = 5 := hml0
 have hown : s.vm.findClass "java/lang/String" = some m.cls := findClass_of_methodNamed Bd.named
 have hnm := (name_of_methodNamed Bd.named Bd.method).1
 have X0 : Stand p l e ({ frames := 3, cells := 1, slots := 16, locals := 71 } : Room) s m #[(.ref x), (.ref b), .null] below meth c s₁ [] 0 0 := Stand.of_body Bd
 have e0 : s₁.heap = h0 := by rw [← hh, Bd.state]; rfl
 have N0 := Fr.nil n0
 obtain ⟨PP, hPs, pre0⟩ : ∃ PP : State → Prop, (∀ t, PP t → Steps p.tables e below (s₁.setTop (entryFrame m #[(.ref x), (.ref b), .null] 5)) t) ∧ own_pr p e below PP s₁ (mkF m 0 #[.val (.ref x), .val (.ref b), .val .null, .unset, .unset] []) := ⟨_, fun _ κ => κ, fun τ κ => castTop (ef_sa m x b) κ⟩
 have SB0 := SBd
 obtain ⟨kb, cd, N, vs, E1, Fv, Fc, Fn, Fm, Et, Va, hbb⟩ := SB0
 have hln := own_bbl hbb
 have EN9 := EN
 obtain ⟨z, fm, Sz, hz, -⟩ := EN9
 rcases hbb with ⟨rfl, rfl, hxx, r, hr, rfl⟩ | ⟨rfl, rfl, hxx, r, hr, rfl⟩
 ·obtain ⟨T1, X1, e1, st1⟩ := initO X0 hx hZ hown (wd17 hw) (wd18 hw) (wd19 hw) e0 (g := (mkF m 1 #[.val (.ref x), .val (.ref b), .val .null, .unset, .unset] [(.ref x)])) rfl hml.symm rfl (hb hby d12_1) (by decide) (W := 0) (by show 2 * 0 + _ ≤ _; exact Nat.le_of_eq rfl) (by decide)
  obtain ⟨_, T2, Lc2, X2, hQ2, st2⟩ := own_cV X1 hx hZ (y := own_z12) (z := own_z12) hown (wd73 hw) (wd74 hw) (wd76 hw) rfl (wd76 hw) (wd75 hw) (wd77 hw) (wd53 hw) (by decide) (rmgv l Z a0 hw [] b t h0 n0 Z0 Fv) E1 0 (by decide) (g := (mkF m 5 #[.val (.ref x), .val (.ref b), .val .null, .unset, .unset] [(.ref b)])) rfl hml.symm [] [] (lenOf pd_gv rfl) rfl rfl (hb hby d12_5) e1 rfl
  obtain ⟨rfl, N2q, q2⟩ := hQ2
  have N2 := Fr.app N0 N2q
  obtain ⟨_, T3, Lc3, X3, hQ3, st3⟩ := own_cV X2 hx hZ (y := own_z13) (z := own_z14) hown (wd78 hw) (wd79 hw) (wd76 hw) rfl (wd81 hw) (wd82 hw) (wd83 hw) (wd34 hw) (by decide) (rmbl l Z a0 hw [] b (Int32.ofNat cs.length) h0 n0 Z0 E1 Fn) E1 0 (by decide) (g := (mkF m 10 #[.val (.ref x), .val (.ref b), .val .null, .val (.ref t), .unset] [(.ref b)])) rfl hml.symm [] [] (lenOf pd_sl rfl) rfl rfl (hb hby d12_10) q2 rfl
  obtain ⟨rfl, N3q, q3⟩ := hQ3
  have N3 := Fr.app N2 N3q
  obtain ⟨_, T4, Lc4, X4, hQ4, st4⟩ := own_cV X3 hx hZ (y := own_z15) (z := own_z15) hown (wd89 hw) (wd90 hw) (wd92 hw) rfl (wd92 hw) (wd91 hw) (wd93 hw) (wd53 hw) (by decide) (rmbz0 l Z a0 hw [] b h0 n0 Z0 EN Fc) E1 0 (by decide) (g := (mkF m 16 #[.val (.ref x), .val (.ref b), .val .null, .val (.ref t), .val (.int (Int32.ofNat cs.length))] [(.ref b)])) rfl hml.symm [] [] (lenOf pd_l1 rfl) rfl rfl (hb hby d12_16) q3 rfl
  obtain ⟨rfl, N4q, q4⟩ := hQ4
  have N4 := Fr.app N3 N4q
  obtain ⟨T5, h5, X5, e5, W5, st5⟩ := putFN X4 hx hZ hown (wd27 hw) Via.refl q4 Cx Ex (Or.inr ⟨(wd23 hw), rfl, hnm⟩) (wd7 hw) (ty := .byte) (v' := (.int (0 : Int32))) (by decide) rfl rfl (g := (mkF m 24 #[.val (.ref x), .val (.ref b), .val .null, .val (.ref t), .val (.int (Int32.ofNat cs.length))] [(.int (0 : Int32)), (.ref x)])) rfl rfl (hb hby d12_24)
  have N5 := Fr.snoc X5 N4 gx
  have Fx_5 := Fx.other W5 (Or.inr (slot_ne (Or.inr (wd22 hw)) (Or.inr (wd23 hw)) (by decide) (t := (.array .byte)) (t' := .byte) (by decide) (by decide)))
  have Cx_5 := Cx.same W5
  have Ex_5 := Ex.wr W5
  have Va_5 := Va.other W5 (Ne.symm (Ex.neArv Va (wd7 hw)))
  have Et_5 := Et.wr W5
  obtain ⟨_, T6, Lc6, X6, hQ6, st6⟩ := own_cS X5 hx hZ (y := own_z16) hown (wd94 hw) (wd95 hw) (wd96 hw) (wd97 hw) (by decide) (rmcr l Z a0 hw [] t kb (Int32.ofNat C) (Int32.ofNat cs.length) ((cs.map fun c => Value.int (own_lo8 c)) ++ (List.replicate r (.int 0))) (cs.map fun c => Value.int (own_lo8 c)) C cs.length h5 n0 (Nat.le_trans Z0 (Nat.le_of_eq W5.size.symm)) Va_5 Et_5 (own_n0 _ (by omega)) (own_mnl _ (by omega) _ (by omega)) (own_nn _ (by omega)) (own_nn _ (by omega)) (by omega) (by omega) (by simp; omega) (own_rng2 (cs.map fun c => Value.int (own_lo8 c)) (List.replicate r (.int 0)) _ _ (by simp))) 1 (by decide) (g := (mkF m 32 #[.val (.ref x), .val (.ref b), .val .null, .val (.ref t), .val (.int (Int32.ofNat cs.length))] [(.int (Int32.ofNat cs.length)), (.int (0 : Int32)), (.ref t), (.ref x)])) rfl hml.symm [(.ref t), (.int (0 : Int32)), (.int (Int32.ofNat cs.length))] [(.ref x)] (lenOf pd_crb rfl) rfl rfl (hb hby d12_32) e5 rfl
  obtain ⟨b6, kb6, rfl, N6q, E6, gz6, Q6, V6⟩ := hQ6
  have N6 := Fr.app N5 N6q
  have Fx_6 := Fx_5.ext E6
  have Cx_6 := Cx_5.ext E6
  have Ex_6 := Ex_5.ext E6
  have Va_6 := Va_5.ext E6
  have Et_6 := Et_5.ext E6
  obtain ⟨T7, h7, X7, e7, W7, st7⟩ := putF X6 hx hZ hown (host := "") (Or.inl (wd26 hw)) Via.refl rfl Fx_6 Ex_6 (Or.inr ⟨(wd22 hw), rfl, hnm⟩) (wd7 hw) (ty := (.array .byte)) (by decide) rfl rfl (g := (mkF m 35 #[.val (.ref x), .val (.ref b), .val .null, .val (.ref t), .val (.int (Int32.ofNat cs.length))] [(.ref b6), (.ref x)])) rfl rfl (hb hby d12_35)
  have N7 := Fr.snoc X7 N6 gx
  have Fx_7 := Fx_6.same W7
  have Cx_7 := Cx_6.other W7 (Or.inr (slot_ne (Or.inr (wd23 hw)) (Or.inr (wd22 hw)) (by decide) (t := .byte) (t' := (.array .byte)) (by decide) (by decide)))
  have Ex_7 := Ex_6.wr W7
  have V6_7 := V6.other W7 (Ne.symm (Ex_6.neArv V6 (wd7 hw)))
  have pre8 : own_pr p e below PP T7 (mkF m 97 #[.val (.ref x), .val (.ref b), .val .null, .val (.ref t), .val (.int (Int32.ofNat cs.length))] []) := fun τ κ => pre0 τ (by
   show own_st p e below s₁ (mkF m 0 #[.val (.ref x), .val (.ref b), .val .null, .unset, .unset] []) _
   refine XS.aloadN X0.here hx rfl (hb hby d12_0) rfl rfl ?_
   refine st1 _ ?_
   refine XS.aloadN X1.here hx rfl (hb hby d12_4) rfl rfl ?_
   refine st2 _ ?_
   refine XS.astoreN X2.here hx rfl (hb hby d12_8) rfl rfl (l' := #[.val (.ref x), .val (.ref b), .val .null, .val (.ref t), .unset]) rfl ?_
   refine XS.aloadN X2.here hx rfl (hb hby d12_9) rfl rfl ?_
   refine st3 _ ?_
   refine XS.istore X3.here hx rfl (hb hby d12_13) rfl (l' := #[.val (.ref x), .val (.ref b), .val .null, .val (.ref t), .val (.int (Int32.ofNat cs.length))]) rfl ?_
   refine XS.aloadN X3.here hx rfl (hb hby d12_15) rfl rfl ?_
   refine st4 _ ?_
   refine XS.ifNo X4.here hx rfl (hb hby d12_19) rfl ((if0 _ _).trans (feq (by decide : ¬ ((1 : Int32) = (0 : Int32)))).1) ?_
   refine XS.aloadN X4.here hx rfl (hb hby d12_22) rfl rfl ?_
   refine XS.iconst X4.here hx rfl (hb hby d12_23) ?_
   refine st5 _ ?_
   refine XS.aloadN X5.here hx rfl (hb hby d12_27) rfl rfl ?_
   refine XS.aloadN X5.here hx rfl (hb hby d12_28) rfl rfl ?_
   refine XS.iconst X5.here hx rfl (hb hby d12_29) ?_
   refine XS.iload X5.here hx rfl (hb hby d12_30) rfl ?_
   refine st6 _ ?_
   refine st7 _ ?_
   refine XS.goto X7.here hx rfl (pc0 := 38) (pc' := 97) rfl (hb hby d12_38) (by decide) (by decide) ?_
   exact κ)
  obtain ⟨fs9, hr9, hrun9, hended9, hW9, hsame9⟩ := X7.leave (v := none) (fun _ => rfl)
  refine ⟨_, _, hPs _ (pre8 _ ?_), hrun9, hended9, _, _, rfl, ?_, ⟨_, rfl⟩, hW9, hsame9.mono (by decide) (by decide)⟩
  ·show own_st p e below T7 (mkF m 97 #[.val (.ref x), .val (.ref b), .val .null, .val (.ref t), .val (.int (Int32.ofNat cs.length))] []) _
   exact X7.returnOut hx Bd.returns (hb hby d12_97) hr9
  ·show Qsa Z x b t cs C h0 n0 _ T7.heap _
   rw [e7]
   exact ⟨rfl, N7, (((Keep.refl h0 [x]).wr W5 (Or.inl (List.mem_singleton.mpr rfl))).ext E6).wr W7 (Or.inl (List.mem_singleton.mpr rfl)), 0, b6, kb6, _, _, Ex_7, Fx_7, Cx_7, V6_7, Or.inl ⟨rfl, rfl, rfl, hxx⟩⟩
 ·obtain ⟨T10, X10, e10, st10⟩ := initO X0 hx hZ hown (wd17 hw) (wd18 hw) (wd19 hw) e0 (g := (mkF m 1 #[.val (.ref x), .val (.ref b), .val .null, .unset, .unset] [(.ref x)])) rfl hml.symm rfl (hb hby d12_1) (by decide) (W := 0) (by show 2 * 0 + _ ≤ _; exact Nat.le_of_eq rfl) (by decide)
  obtain ⟨_, T11, Lc11, X11, hQ11, st11⟩ := own_cV X10 hx hZ (y := own_z12) (z := own_z12) hown (wd73 hw) (wd74 hw) (wd76 hw) rfl (wd76 hw) (wd75 hw) (wd77 hw) (wd53 hw) (by decide) (rmgv l Z a0 hw [] b t h0 n0 Z0 Fv) E1 0 (by decide) (g := (mkF m 5 #[.val (.ref x), .val (.ref b), .val .null, .unset, .unset] [(.ref b)])) rfl hml.symm [] [] (lenOf pd_gv rfl) rfl rfl (hb hby d12_5) e10 rfl
  obtain ⟨rfl, N11q, q11⟩ := hQ11
  have N11 := Fr.app N0 N11q
  obtain ⟨_, T12, Lc12, X12, hQ12, st12⟩ := own_cV X11 hx hZ (y := own_z13) (z := own_z14) hown (wd78 hw) (wd79 hw) (wd76 hw) rfl (wd81 hw) (wd82 hw) (wd83 hw) (wd34 hw) (by decide) (rmbl l Z a0 hw [] b (Int32.ofNat cs.length) h0 n0 Z0 E1 Fn) E1 0 (by decide) (g := (mkF m 10 #[.val (.ref x), .val (.ref b), .val .null, .val (.ref t), .unset] [(.ref b)])) rfl hml.symm [] [] (lenOf pd_sl rfl) rfl rfl (hb hby d12_10) q11 rfl
  obtain ⟨rfl, N12q, q12⟩ := hQ12
  have N12 := Fr.app N11 N12q
  obtain ⟨_, T13, Lc13, X13, hQ13, st13⟩ := own_cV X12 hx hZ (y := own_z15) (z := own_z15) hown (wd89 hw) (wd90 hw) (wd92 hw) rfl (wd92 hw) (wd91 hw) (wd93 hw) (wd53 hw) (by decide) (rmbz1 l Z a0 hw [] b h0 n0 Z0 EN Fc) E1 0 (by decide) (g := (mkF m 16 #[.val (.ref x), .val (.ref b), .val .null, .val (.ref t), .val (.int (Int32.ofNat cs.length))] [(.ref b)])) rfl hml.symm [] [] (lenOf pd_l1 rfl) rfl rfl (hb hby d12_16) q12 rfl
  obtain ⟨rfl, N13q, q13⟩ := hQ13
  have N13 := Fr.app N12 N13q
  obtain ⟨T14, X14, e14, st14⟩ := getS2 X13 hx hZ hown (host := "") (Or.inl (wd45 hw)) Via.refl q13 Sz (g := (mkF m 41 #[.val (.ref x), .val (.ref b), .val .null, .val (.ref t), .val (.int (Int32.ofNat cs.length))] [])) rfl (hb hby d12_41)
  obtain ⟨T15, X15, e15, st15⟩ := getF X14 hx hZ hown (host := "") (Or.inl (wd275 hw)) Via.refl e14 Fm (g := (mkF m 48 #[.val (.ref x), .val (.ref b), .val .null, .val (.ref t), .val (.int (Int32.ofNat cs.length))] [(.ref b)])) rfl rfl (hb hby d12_48)
  obtain ⟨T16, h16, X16, e16, W16, st16⟩ := putFN X15 hx hZ hown (wd27 hw) Via.refl e15 Cx Ex (Or.inr ⟨(wd23 hw), rfl, hnm⟩) (wd7 hw) (ty := .byte) (v' := (.int (1 : Int32))) (by decide) rfl rfl (g := (mkF m 81 #[.val (.ref x), .val (.ref b), .val .null, .val (.ref t), .val (.int (Int32.ofNat cs.length))] [(.int (1 : Int32)), (.ref x)])) rfl rfl (hb hby d12_81)
  have N16 := Fr.snoc X16 N13 gx
  have Fx_16 := Fx.other W16 (Or.inr (slot_ne (Or.inr (wd22 hw)) (Or.inr (wd23 hw)) (by decide) (t := (.array .byte)) (t' := .byte) (by decide) (by decide)))
  have Cx_16 := Cx.same W16
  have Ex_16 := Ex.wr W16
  have Va_16 := Va.other W16 (Ne.symm (Ex.neArv Va (wd7 hw)))
  have Et_16 := Et.wr W16
  obtain ⟨_, T17, Lc17, X17, hQ17, st17⟩ := own_cS X16 hx hZ (y := own_z16) hown (wd94 hw) (wd95 hw) (wd96 hw) (wd97 hw) (by decide) (rmcr l Z a0 hw [] t kb (Int32.ofNat (2 * C)) (Int32.ofNat (2 * cs.length)) ((own_wb cs) ++ (List.replicate (2 * r) (.int 0))) (own_wb cs) (2 * C) (2 * cs.length) h16 n0 (Nat.le_trans Z0 (Nat.le_of_eq W16.size.symm)) Va_16 Et_16 (own_n0 _ (by omega)) (own_mnl _ (by omega) _ (by omega)) (own_nn _ (by omega)) (own_nn _ (by omega)) (by omega) (by omega) (by simp [own_wlen]; omega) (own_rng2 (own_wb cs) (List.replicate (2 * r) (.int 0)) _ _ (own_wlen cs))) 1 (by decide) (g := (mkF m 91 #[.val (.ref x), .val (.ref b), .val .null, .val (.ref t), .val (.int (Int32.ofNat cs.length))] [(.int (Int32.ofNat (2 * cs.length))), (.int (0 : Int32)), (.ref t), (.ref x)])) rfl hml.symm [(.ref t), (.int (0 : Int32)), (.int (Int32.ofNat (2 * cs.length)))] [(.ref x)] (lenOf pd_crb rfl) rfl rfl (hb hby d12_91) e16 rfl
  obtain ⟨b17, kb17, rfl, N17q, E17, gz17, Q17, V17⟩ := hQ17
  have N17 := Fr.app N16 N17q
  have Fx_17 := Fx_16.ext E17
  have Cx_17 := Cx_16.ext E17
  have Ex_17 := Ex_16.ext E17
  have Va_17 := Va_16.ext E17
  have Et_17 := Et_16.ext E17
  obtain ⟨T18, h18, X18, e18, W18, st18⟩ := putF X17 hx hZ hown (host := "") (Or.inl (wd26 hw)) Via.refl rfl Fx_17 Ex_17 (Or.inr ⟨(wd22 hw), rfl, hnm⟩) (wd7 hw) (ty := (.array .byte)) (by decide) rfl rfl (g := (mkF m 94 #[.val (.ref x), .val (.ref b), .val .null, .val (.ref t), .val (.int (Int32.ofNat cs.length))] [(.ref b17), (.ref x)])) rfl rfl (hb hby d12_94)
  have N18 := Fr.snoc X18 N17 gx
  have Fx_18 := Fx_17.same W18
  have Cx_18 := Cx_17.other W18 (Or.inr (slot_ne (Or.inr (wd23 hw)) (Or.inr (wd22 hw)) (by decide) (t := .byte) (t' := (.array .byte)) (by decide) (by decide)))
  have Ex_18 := Ex_17.wr W18
  have V17_18 := V17.other W18 (Ne.symm (Ex_17.neArv V17 (wd7 hw)))
  have pre19 : own_pr p e below PP T18 (mkF m 97 #[.val (.ref x), .val (.ref b), .val .null, .val (.ref t), .val (.int (Int32.ofNat cs.length))] []) := fun τ κ => pre0 τ (by
   show own_st p e below s₁ (mkF m 0 #[.val (.ref x), .val (.ref b), .val .null, .unset, .unset] []) _
   refine XS.aloadN X0.here hx rfl (hb hby d12_0) rfl rfl ?_
   refine st10 _ ?_
   refine XS.aloadN X10.here hx rfl (hb hby d12_4) rfl rfl ?_
   refine st11 _ ?_
   refine XS.astoreN X11.here hx rfl (hb hby d12_8) rfl rfl (l' := #[.val (.ref x), .val (.ref b), .val .null, .val (.ref t), .unset]) rfl ?_
   refine XS.aloadN X11.here hx rfl (hb hby d12_9) rfl rfl ?_
   refine st12 _ ?_
   refine XS.istore X12.here hx rfl (hb hby d12_13) rfl (l' := #[.val (.ref x), .val (.ref b), .val .null, .val (.ref t), .val (.int (Int32.ofNat cs.length))]) rfl ?_
   refine XS.aloadN X12.here hx rfl (hb hby d12_15) rfl rfl ?_
   refine st13 _ ?_
   refine XS.ifYes X13.here hx rfl (pc0 := 19) (pc' := 41) rfl (hb hby d12_19) rfl ((if0 _ _).trans (teq (by decide : (0 : Int32) = (0 : Int32))).1) (by decide) (by decide) ?_
   refine st14 _ ?_
   refine XS.ifNo X14.here hx rfl (hb hby d12_44) rfl ((if0 _ _).trans (feq hz).1) ?_
   refine XS.aloadN X14.here hx rfl (hb hby d12_47) rfl rfl ?_
   refine st15 _ ?_
   refine XS.ifYes X15.here hx rfl (pc0 := 51) (pc' := 79) rfl (hb hby d12_51) rfl ((if0 _ _).trans (teq (by decide : (0 : Int32) = (0 : Int32))).1) (by decide) (by decide) ?_
   refine XS.aloadN X15.here hx rfl (hb hby d12_79) rfl rfl ?_
   refine XS.iconst X15.here hx rfl (hb hby d12_80) ?_
   refine st16 _ ?_
   refine XS.aloadN X16.here hx rfl (hb hby d12_84) rfl rfl ?_
   refine XS.aloadN X16.here hx rfl (hb hby d12_85) rfl rfl ?_
   refine XS.iconst X16.here hx rfl (hb hby d12_86) ?_
   refine XS.iload X16.here hx rfl (hb hby d12_87) rfl ?_
   refine XS.iconst X16.here hx rfl (hb hby d12_89) ?_
   refine XS.ishl X16.here hx rfl (hb hby d12_90) rfl ?_
   show own_st p e below T16 (mkF m 91 #[.val (.ref x), .val (.ref b), .val .null, .val (.ref t), .val (.int (Int32.ofNat cs.length))] [(.int ((Int32.ofNat cs.length) <<< ((1 : Int32) &&& 31))), (.int (0 : Int32)), (.ref t), (.ref x)]) _
   rw [own_shl _ (by omega)]
   refine st17 _ ?_
   refine st18 _ ?_
   exact κ)
  obtain ⟨fs20, hr20, hrun20, hended20, hW20, hsame20⟩ := X18.leave (v := none) (fun _ => rfl)
  refine ⟨_, _, hPs _ (pre19 _ ?_), hrun20, hended20, _, _, rfl, ?_, ⟨_, rfl⟩, hW20, hsame20.mono (by decide) (by decide)⟩
  ·show own_st p e below T18 (mkF m 97 #[.val (.ref x), .val (.ref b), .val .null, .val (.ref t), .val (.int (Int32.ofNat cs.length))] []) _
   exact X18.returnOut hx Bd.returns (hb hby d12_97) hr20
  ·show Qsa Z x b t cs C h0 n0 _ T18.heap _
   rw [e18]
   exact ⟨rfl, N18, (((Keep.refl h0 [x]).wr W16 (Or.inl (List.mem_singleton.mpr rfl))).ext E17).wr W18 (Or.inl (List.mem_singleton.mpr rfl)), 1, b17, kb17, _, _, Ex_18, Fx_18, Cx_18, V17_18, Or.inr ⟨rfl, rfl, rfl, hxx⟩⟩

theorem d11_0 : own_D own_c39 0 (.aload_n 0) 1 := by decide +kernel
theorem d11_1 : own_D own_c39 1 (.aload_n 1) 1 := by decide +kernel
theorem d11_2 : own_D own_c39 2 (.aconst_null) 1 := by decide +kernel
theorem d11_3 : own_D own_c39 3 (.invokespecial 489) 3 := by decide +kernel
theorem d11_6 : own_D own_c39 6 (.return_) 1 := by decide +kernel

theorem pd_ss : parseMethodDescriptor "(Ljava/lang/StringBuilder;)V" = some ⟨[(.object "java/lang/StringBuilder")], none⟩ := by decide +kernel

def Qss (Z : State) (x b t : Addr) (cs : List Int32) (C : Nat) (h0 : Heap) (n0 : Nat) (v : Option Value) (h : Heap) (L : List Loc) : Prop := v = none ∧ Fr n0 L ∧ Keep h0 h [x] ∧ ∃ cd, own_s Z h x cs cd
theorem rmss (l : Launch) (Z : State) (a0 : Array Value) (hw : own_W Z a0) (ws : List Jvm.Cond) (x b t : Addr) (cs : List Int32) (C : Nat) (h0 : Heap) (n0 : Nat) (Z0 : n0 ≤ h0.size) (Fx : Fld Z h0 x "java/lang/String" "value" "[B" .null) (Cx : Fld Z h0 x "java/lang/String" "coder" "B" (.int 0)) (Ex : Exa Z h0 x "java/lang/String") (gx : n0 ≤ x) (SBd : own_sbd Z h0 b t cs C) (EN : own_env Z h0) (hC8 : C ≤ 8) :
  own_M l Z own_z10 own_c39 2 none ({ frames := 4, cells := 1, slots := 16, locals := 87 } : Room) ws #[(.ref x), (.ref b)] h0 (Qss Z x b t cs C h0 n0) := by
 refine MetFree.of_bodySF (plainFor_of_name pn_k2) hisR ?_
 intro p e s m args below meth c s₁ Bd hml0 hP hK
 obtain ⟨rfl, hZ, hh⟩ := hP
 have hx := Bd.exec
 have hby := Bd.bytes
 have hml : c.maxLocals = 2 := hml0
 have hown : s.vm.findClass "java/lang/String" = some m.cls := findClass_of_methodNamed Bd.named
 have X0 : Stand p l e ({ frames := 4, cells := 1, slots := 16, locals := 87 } : Room) s m #[(.ref x), (.ref b)] below meth c s₁ [] 0 0 := Stand.of_body Bd
 have e0 : s₁.heap = h0 := by rw [← hh, Bd.state]; rfl
 have N0 := Fr.nil n0
 obtain ⟨PP, hPs, pre0⟩ : ∃ PP : State → Prop, (∀ t, PP t → Steps p.tables e below (s₁.setTop (entryFrame m #[(.ref x), (.ref b)] 2)) t) ∧ own_pr p e below PP s₁ (mkF m 0 #[.val (.ref x), .val (.ref b)] []) := ⟨_, fun _ κ => κ, fun τ κ => castTop (ef_w11 m x b) κ⟩
 obtain ⟨_, T1, Lc1, X1, hQ1, st1⟩ := own_cI X0 hx hZ (y := own_z11) rfl hown (wd70 hw) (wd71 hw) (wd72 hw) (wd8 hw) (by decide) (rmsa l Z a0 hw [] x b t cs C h0 n0 Z0 Fx Cx Ex gx SBd EN hC8) 0 (by decide) (g := (mkF m 3 #[.val (.ref x), .val (.ref b)] [.null, (.ref b), (.ref x)])) rfl hml.symm x [(.ref b), .null] [] (lenOf pd_sa rfl) rfl rfl (hb hby d11_3) e0 rfl
 obtain ⟨rfl, N1q, qq1⟩ := hQ1
 have N1 := Fr.app N0 N1q
 have pre2 : own_pr p e below PP T1 (mkF m 6 #[.val (.ref x), .val (.ref b)] []) := fun τ κ => pre0 τ (by
  show own_st p e below s₁ (mkF m 0 #[.val (.ref x), .val (.ref b)] []) _
  refine XS.aloadN X0.here hx rfl (hb hby d11_0) rfl rfl ?_
  refine XS.aloadN X0.here hx rfl (hb hby d11_1) rfl rfl ?_
  refine XS.aconstNull X0.here hx rfl (hb hby d11_2) ?_
  refine st1 _ ?_
  exact κ)
 obtain ⟨fs3, hr3, hrun3, hended3, hW3, hsame3⟩ := X1.leave (v := none) (fun _ => rfl)
 refine ⟨_, _, hPs _ (pre2 _ ?_), hrun3, hended3, _, _, rfl, ?_, ⟨_, rfl⟩, hW3, hsame3.mono (by decide) (by decide)⟩
 ·show own_st p e below T1 (mkF m 6 #[.val (.ref x), .val (.ref b)] []) _
  exact X1.returnOut hx Bd.returns (hb hby d11_6) hr3
 ·show Qss Z x b t cs C h0 n0 _ T1.heap _
  exact ⟨rfl, N1, qq1⟩

theorem d10_0 : own_D own_c40 0 (.new 18) 3 := by decide +kernel
theorem d10_3 : own_D own_c40 3 (.dup) 1 := by decide +kernel
theorem d10_4 : own_D own_c40 4 (.aload_n 0) 1 := by decide +kernel
theorem d10_5 : own_D own_c40 5 (.invokespecial 137) 3 := by decide +kernel
theorem d10_8 : own_D own_c40 8 (.areturn) 1 := by decide +kernel

theorem pd_ts : parseMethodDescriptor "()Ljava/lang/String;" = some ⟨[], some (.object "java/lang/String")⟩ := by decide +kernel

def Qts (Z : State) (b t : Addr) (cs : List Int32) (C : Nat) (h0 : Heap) (n0 : Nat) (v : Option Value) (h : Heap) (L : List Loc) : Prop := ∃ x, v = some (.ref x) ∧ Fr n0 L ∧ Ext h0 h ∧ ∃ cd, own_s Z h x cs cd
theorem rmts (l : Launch) (Z : State) (a0 : Array Value) (hw : own_W Z a0) (ws : List Jvm.Cond) (b t : Addr) (cs : List Int32) (C : Nat) (h0 : Heap) (n0 : Nat) (Z0 : n0 ≤ h0.size) (SBd : own_sbd Z h0 b t cs C) (EN : own_env Z h0) (hC8 : C ≤ 8) :
  own_M l Z own_z9 own_c40 1 (some (.object "java/lang/String")) ({ frames := 5, cells := 2, slots := 20, locals := 101 } : Room) ws #[(.ref b)] h0 (Qts Z b t cs C h0 n0) := by
 refine MetFree.of_bodySF (plainFor_of_name pn_k6) hisR ?_
 intro p e s m args below meth c s₁ Bd hml0 hP hK
 obtain ⟨rfl, hZ, hh⟩ := hP
 have hx := Bd.exec
 have hby := Bd.bytes
 have hml : c.maxLocals = 1 := hml0
 have hown : s.vm.findClass "java/lang/StringBuilder" = some m.cls := findClass_of_methodNamed Bd.named
 have X0 : Stand p l e ({ frames := 5, cells := 2, slots := 20, locals := 101 } : Room) s m #[(.ref b)] below meth c s₁ [] 0 0 := Stand.of_body Bd
 have e0 : s₁.heap = h0 := by rw [← hh, Bd.state]; rfl
 have N0 := Fr.nil n0
 obtain ⟨PP, hPs, pre0⟩ : ∃ PP : State → Prop, (∀ t, PP t → Steps p.tables e below (s₁.setTop (entryFrame m #[(.ref b)] 1)) t) ∧ own_pr p e below PP s₁ (mkF m 0 #[.val (.ref b)] []) := ⟨_, fun _ κ => κ, fun τ κ => castTop (ef_ul m b) κ⟩
 obtain ⟨T1, h1, X1, e1, E1, A1, D1, -, st1⟩ := newO X0 hx hZ hown (wd66 hw) (wd7 hw) (wd8 hw) e0 (g := (mkF m 0 #[.val (.ref b)] [])) rfl (hb hby d10_0) (by decide) (by decide)
 obtain ⟨b1, gb1⟩ : ∃ z, z = h0.size := ⟨_, rfl⟩
 rw [← gb1] at A1 D1 st1
 have gn1 : n0 ≤ b1 := Nat.le_trans Z0 (Nat.le_of_eq gb1.symm)
 have sz1_b : h0.size ≤ b1 := Nat.le_trans (Keep.refl h0 []).1 (Nat.le_of_eq gb1.symm)
 have K1 := (Keep.refl h0 []).ext E1
 have F_value_b1 : Fld Z h1 b1 "java/lang/String" "value" "[B" .null := D1 (Or.inr (wd22 hw)) (ty := (.array .byte)) (by decide)
 have F_coder_b1 : Fld Z h1 b1 "java/lang/String" "coder" "B" (.int (0 : Int32)) := D1 (Or.inr (wd23 hw)) (ty := .byte) (by decide)
 obtain ⟨_, T2, Lc2, X2, hQ2, st2⟩ := own_cI X1 hx hZ (y := own_z10) rfl hown (wd67 hw) (wd68 hw) (wd69 hw) (wd8 hw) (by decide) (rmss l Z a0 hw [] b1 b t cs C h1 n0 (Nat.le_trans Z0 E1.1) F_value_b1 F_coder_b1 A1 gn1 (SBd.ext (own_ext K1)) (EN.ext (own_ext K1)) hC8) 1 (by decide) (g := (mkF m 5 #[.val (.ref b)] [(.ref b), (.ref b1), (.ref b1)])) rfl hml.symm b1 [(.ref b)] [(.ref b1)] (lenOf pd_ss rfl) rfl rfl (hb hby d10_5) e1 rfl
 obtain ⟨rfl, N2q, Kp2, S2⟩ := hQ2
 have N2 := Fr.app N0 N2q
 have K2 := K1.trans Kp2 (fun x hx => by cases List.mem_singleton.mp hx; exact Or.inr sz1_b)
 have pre3 : own_pr p e below PP T2 (mkF m 8 #[.val (.ref b)] [(.ref b1)]) := fun τ κ => pre0 τ (by
  show own_st p e below s₁ (mkF m 0 #[.val (.ref b)] []) _
  refine st1 _ ?_
  refine XS.dup X1.here hx rfl (hb hby d10_3) rfl rfl ?_
  refine XS.aloadN X1.here hx rfl (hb hby d10_4) rfl rfl ?_
  refine st2 _ ?_
  exact κ)
 obtain ⟨fs4, hr4, hrun4, hended4, hW4, hsame4⟩ := X2.leave (v := some (.ref b1)) (fun h => by rw [Bd.returns] at h; cases h)
 refine ⟨_, _, hPs _ (pre3 _ ?_), hrun4, hended4, _, _, rfl, ?_, ⟨_, rfl⟩, hW4, hsame4.mono (by decide) (by decide)⟩
 ·show own_st p e below T2 (mkF m 8 #[.val (.ref b)] [(.ref b1)]) _
  exact retOut X2 hx (t := (.object "java/lang/String")) Bd.returns rfl (Or.inr (Or.inr (Or.inr (Or.inr ⟨rfl, rfl, rfl⟩)))) (hb hby d10_8) hr4
 ·show Qts Z b t cs C h0 n0 _ T2.heap _
  exact ⟨_, rfl, N2, own_ext K2, S2⟩


def Qnbl (Z : State) (p1 r : Int32) (h0 : Heap) (n0 : Nat) (v : Option Value) (h : Heap) (L : List Loc) : Prop := v = some (.int r) ∧ Fr n0 L ∧ h = h0
theorem rmnbl (l : Launch) (Z : State) (a0 : Array Value) (hw : own_W Z a0) (ws : List Jvm.Cond) (p1 r : Int32) (h0 : Heap) (n0 : Nat) (Z0 : n0 ≤ h0.size) (h1 : ¬ p1 < (0 : Int32)) (h2 : p1 < (1073741823 : Int32)) (hr : p1 <<< ((1 : Int32) &&& 31) = r) :
  own_M l Z own_z49 own_c17 1 (some .int) ({ frames := 0, cells := 0, slots := 0, locals := 0 } : Room) ws #[(.int p1)] h0 (Qnbl Z p1 r h0 n0) := by
 refine MetFree.of_bodySF (plainFor_of_name pn_k5) hisR ?_
 intro p e s m args below meth c s₁ Bd hml0 hP hK
 obtain ⟨rfl, hZ, hh⟩ := hP
 have hx := Bd.exec
 have hby := Bd.bytes
 have hml : c.maxLocals = 1 := hml0
 have hown : s.vm.findClass "java/lang/StringUTF16" = some m.cls := findClass_of_methodNamed Bd.named
 have X0 : Stand p l e ({ frames := 0, cells := 0, slots := 0, locals := 0 } : Room) s m #[(.int p1)] below meth c s₁ [] 0 0 := Stand.of_body Bd
 have e0 : s₁.heap = h0 := by rw [← hh, Bd.state]; rfl
 have N0 := Fr.nil n0
 obtain ⟨PP, hPs, pre0⟩ : ∃ PP : State → Prop, (∀ t, PP t → Steps p.tables e below (s₁.setTop (entryFrame m #[(.int p1)] 1)) t) ∧ own_pr p e below PP s₁ (mkF m 0 #[.val (.int p1)] []) := ⟨_, fun _ κ => κ, fun τ κ => castTop (ef_sp m p1) κ⟩
 have pre1 : own_pr p e below PP s₁ (mkF m 58 #[.val (.int p1)] [(.int (p1 <<< ((1 : Int32) &&& 31)))]) := fun τ κ => pre0 τ (by
  show own_st p e below s₁ (mkF m 0 #[.val (.int p1)] []) _
  refine XS.iloadN X0.here hx rfl (hb hby d47_0) rfl ?_
  refine XS.ifYes X0.here hx rfl (pc0 := 1) (pc' := 12) rfl (hb hby d47_1) rfl ((if0 _ _).trans (flt h1).2.1) (by decide) (by decide) ?_
  refine XS.iloadN X0.here hx rfl (hb hby d47_12) rfl ?_
  refine X0.ldcI hx hown (mvT hZ (wd231 hw)) (g := (mkF m 13 #[.val (.int p1)] [(.int p1)])) rfl (hb hby d47_13) ?_
  refine XS.icmpYes X0.here hx rfl (pc0 := 15) (pc' := 55) rfl (hb hby d47_15) rfl (tlt h2).1 (by decide) (by decide) ?_
  refine XS.iloadN X0.here hx rfl (hb hby d47_55) rfl ?_
  refine XS.iconst X0.here hx rfl (hb hby d47_56) ?_
  refine XS.ishl X0.here hx rfl (hb hby d47_57) rfl ?_
  exact κ)
 obtain ⟨fs2, hr2, hrun2, hended2, hW2, hsame2⟩ := X0.leave (v := some (.int (p1 <<< ((1 : Int32) &&& 31)))) (fun h => by rw [Bd.returns] at h; cases h)
 refine ⟨_, _, hPs _ (pre1 _ ?_), hrun2, hended2, _, _, rfl, ?_, ⟨_, rfl⟩, hW2, hsame2.mono (by decide) (by decide)⟩
 ·show own_st p e below s₁ (mkF m 58 #[.val (.int p1)] [(.int (p1 <<< ((1 : Int32) &&& 31)))]) _
  exact retOut X0 hx (t := .int) Bd.returns rfl (Or.inl ⟨rfl, Or.inl rfl, _, rfl⟩) (hb hby d47_58) hr2
 ·show Qnbl Z p1 r h0 n0 _ s₁.heap _
  rw [e0]
  exact ⟨by rw [← hr], N0, rfl⟩


def Qnbf (Z : State) (p1 r : Int32) (nr : Nat) (h0 : Heap) (n0 : Nat) (v : Option Value) (h : Heap) (L : List Loc) : Prop := ∃ b kb, v = some (.ref b) ∧ Fr n0 L ∧ Ext h0 h ∧ h0.size ≤ b ∧ Exa Z h b "[B" ∧ Arv Z h b kb .byte r (List.replicate nr (.int 0)) (.int 0)
theorem rmnbf (l : Launch) (Z : State) (a0 : Array Value) (hw : own_W Z a0) (ws : List Jvm.Cond) (p1 r : Int32) (nr : Nat) (h0 : Heap) (n0 : Nat) (Z0 : n0 ≤ h0.size) (h1 : ¬ p1 < (0 : Int32)) (h2 : p1 < (1073741823 : Int32)) (hr : p1 <<< ((1 : Int32) &&& 31) = r) (hr0 : ¬ r < 0) (hrn : r.toNatClampNeg = nr) (h16 : nr ≤ 16) :
  own_M l Z own_z48 own_c18 1 (some (.array .byte)) ({ frames := 1, cells := 1, slots := 16, locals := 12 } : Room) ws #[(.int p1)] h0 (Qnbf Z p1 r nr h0 n0) := by
 refine MetFree.of_bodySF (plainFor_of_name pn_k5) hisR ?_
 intro p e s m args below meth c s₁ Bd hml0 hP hK
 obtain ⟨rfl, hZ, hh⟩ := hP
 have hx := Bd.exec
 have hby := Bd.bytes
 have hml : c.maxLocals = 1 := hml0
 have hown : s.vm.findClass "java/lang/StringUTF16" = some m.cls := findClass_of_methodNamed Bd.named
 have X0 : Stand p l e ({ frames := 1, cells := 1, slots := 16, locals := 12 } : Room) s m #[(.int p1)] below meth c s₁ [] 0 0 := Stand.of_body Bd
 have e0 : s₁.heap = h0 := by rw [← hh, Bd.state]; rfl
 have N0 := Fr.nil n0
 obtain ⟨PP, hPs, pre0⟩ : ∃ PP : State → Prop, (∀ t, PP t → Steps p.tables e below (s₁.setTop (entryFrame m #[(.int p1)] 1)) t) ∧ own_pr p e below PP s₁ (mkF m 0 #[.val (.int p1)] []) := ⟨_, fun _ κ => κ, fun τ κ => castTop (ef_sp m p1) κ⟩
 obtain ⟨_, T1, Lc1, X1, hQ1, st1⟩ := own_cS X0 hx hZ (y := own_z49) hown (wd228 hw) (wd229 hw) (wd110 hw) (wd230 hw) (by decide) (rmnbl l Z a0 hw [] p1 r h0 n0 Z0 h1 h2 hr) 0 (by decide) (g := (mkF m 1 #[.val (.int p1)] [(.int p1)])) rfl hml.symm [(.int p1)] [] (lenOf pd_bl1 rfl) rfl rfl (hb hby d46_1) e0 rfl
 obtain ⟨rfl, N1q, q1⟩ := hQ1
 have N1 := Fr.app N0 N1q
 obtain ⟨T2, h2, k2, X2, e2, E2, A2, Q2, st2⟩ := newPE (aty := .byte) X1 hx hZ (wd21 hw) q1 (g := (mkF m 4 #[.val (.int p1)] [(.int r)])) rfl (hb hby d46_4) rfl hr0 (cap := 16) (by rw [hrn]; exact h16) (by decide) (by decide) (by decide) (ad := "[B") (by decide)
 obtain ⟨b2, gb2⟩ : ∃ z, z = h0.size := ⟨_, rfl⟩
 rw [← gb2] at A2 Q2 st2
 have gn2 : n0 ≤ b2 := Nat.le_trans Z0 (Nat.le_of_eq gb2.symm)
 have sz2_b : h0.size ≤ b2 := Nat.le_trans (Keep.refl h0 []).1 (Nat.le_of_eq gb2.symm)
 have K2 := (Keep.refl h0 []).ext E2
 have V2 : Arv Z h2 b2 k2 .byte r (List.replicate nr (.int (0 : Int32))) (.int (0 : Int32)) := (Arv.new A2 hr0).pad (pad_rep [] (.int (0 : Int32)) nr)
 have pre3 : own_pr p e below PP T2 (mkF m 6 #[.val (.int p1)] [(.ref b2)]) := fun τ κ => pre0 τ (by
  show own_st p e below s₁ (mkF m 0 #[.val (.int p1)] []) _
  refine XS.iloadN X0.here hx rfl (hb hby d46_0) rfl ?_
  refine st1 _ ?_
  refine st2 _ ?_
  exact κ)
 obtain ⟨fs4, hr4, hrun4, hended4, hW4, hsame4⟩ := X2.leave (v := some (.ref b2)) (fun h => by rw [Bd.returns] at h; cases h)
 refine ⟨_, _, hPs _ (pre3 _ ?_), hrun4, hended4, _, _, rfl, ?_, ⟨_, rfl⟩, hW4, hsame4.mono (by decide) (by decide)⟩
 ·show own_st p e below T2 (mkF m 6 #[.val (.int p1)] [(.ref b2)]) _
  exact retOut X2 hx (t := (.array .byte)) Bd.returns rfl (Or.inr (Or.inr (Or.inr (Or.inr ⟨rfl, rfl, rfl⟩)))) (hb hby d46_6) hr4
 ·show Qnbf Z p1 r nr h0 n0 _ T2.heap _
  rw [e2]
  exact ⟨_, _, rfl, N1, own_ext K2, sz2_b, Q2, V2⟩

theorem d58_0 : own_D own_c41 0 (.iload_n 2) 1 := by decide +kernel
theorem d58_1 : own_D own_c41 1 (.iload_n 0) 1 := by decide +kernel
theorem d58_2 : own_D own_c41 2 (.ior) 1 := by decide +kernel
theorem d58_3 : own_D own_c41 3 (.iload_n 1) 1 := by decide +kernel
theorem d58_4 : own_D own_c41 4 (.ior) 1 := by decide +kernel
theorem d58_5 : own_D own_c41 5 (.ifCond .lt 10) 3 := by decide +kernel
theorem d58_8 : own_D own_c41 8 (.iload_n 1) 1 := by decide +kernel
theorem d58_9 : own_D own_c41 9 (.iload_n 2) 1 := by decide +kernel
theorem d58_10 : own_D own_c41 10 (.iload_n 0) 1 := by decide +kernel
theorem d58_11 : own_D own_c41 11 (.isub) 1 := by decide +kernel
theorem d58_12 : own_D own_c41 12 (.if_icmp .le 11) 3 := by decide +kernel
theorem d58_23 : own_D own_c41 23 (.iload_n 0) 1 := by decide +kernel
theorem d58_24 : own_D own_c41 24 (.ireturn) 1 := by decide +kernel

theorem pd_fis : parseMethodDescriptor "(IIILjava/util/function/BiFunction;)I" = some ⟨[.int, .int, .int, (.object "java/util/function/BiFunction")], some .int⟩ := by decide +kernel

theorem ef_fis (m : MethodId) (x0 : Int32) (x1 : Int32) (x2 : Int32) (x3 : Value) (hx3 : x3.isRef = true) : entryFrame m #[(.int x0), (.int x1), (.int x2), x3] 4 = mkF m 0 #[.val (.int x0), .val (.int x1), .val (.int x2), .val x3] [] := by
 rcases ref_cases hx3 with rfl | ⟨_, rfl⟩ <;> first | (simp [entryFrame, mkF, argsToLocals, Value.category]; done) | rfl
def Qfis (Z : State) (p2 p3 : Int32) (fm : Value) (h0 : Heap) (n0 : Nat) (v : Option Value) (h : Heap) (L : List Loc) : Prop := v = some (.int (0 : Int32)) ∧ Fr n0 L ∧ h = h0
theorem rmfis (l : Launch) (Z : State) (a0 : Array Value) (hw : own_W Z a0) (ws : List Jvm.Cond) (p2 p3 : Int32) (fm : Value) (h0 : Heap) (n0 : Nat) (Z0 : n0 ≤ h0.size) (hfm : fm.isRef = true) (h1 : ¬ (((p3 ||| (0 : Int32)) ||| p2) < 0)) (h2 : ¬ ((p3 - (0 : Int32)) < p2)) :
  own_M l Z own_z60 own_c41 4 (some .int) ({ frames := 0, cells := 0, slots := 0, locals := 0 } : Room) ws #[(.int (0 : Int32)), (.int p2), (.int p3), fm] h0 (Qfis Z p2 p3 fm h0 n0) := by
 refine MetFree.of_bodySF (plainFor_of_name pn_k3) hisR ?_
 intro p e s m args below meth c s₁ Bd hml0 hP hK
 obtain ⟨rfl, hZ, hh⟩ := hP
 have hx := Bd.exec
 have hby := Bd.bytes
 have hml : c.maxLocals = 4 := hml0
 have hown : s.vm.findClass "jdk/internal/util/Preconditions" = some m.cls := findClass_of_methodNamed Bd.named
 have X0 : Stand p l e ({ frames := 0, cells := 0, slots := 0, locals := 0 } : Room) s m #[(.int (0 : Int32)), (.int p2), (.int p3), fm] below meth c s₁ [] 0 0 := Stand.of_body Bd
 have e0 : s₁.heap = h0 := by rw [← hh, Bd.state]; rfl
 have N0 := Fr.nil n0
 obtain ⟨PP, hPs, pre0⟩ : ∃ PP : State → Prop, (∀ t, PP t → Steps p.tables e below (s₁.setTop (entryFrame m #[(.int (0 : Int32)), (.int p2), (.int p3), fm] 4)) t) ∧ own_pr p e below PP s₁ (mkF m 0 #[.val (.int (0 : Int32)), .val (.int p2), .val (.int p3), .val fm] []) := ⟨_, fun _ κ => κ, fun τ κ => castTop (ef_fis m (0 : Int32) p2 p3 fm hfm) κ⟩
 have pre1 : own_pr p e below PP s₁ (mkF m 24 #[.val (.int (0 : Int32)), .val (.int p2), .val (.int p3), .val fm] [(.int (0 : Int32))]) := fun τ κ => pre0 τ (by
  show own_st p e below s₁ (mkF m 0 #[.val (.int (0 : Int32)), .val (.int p2), .val (.int p3), .val fm] []) _
  refine XS.iloadN X0.here hx rfl (hb hby d58_0) rfl ?_
  refine XS.iloadN X0.here hx rfl (hb hby d58_1) rfl ?_
  refine XS.ior X0.here hx rfl (hb hby d58_2) rfl ?_
  refine XS.iloadN X0.here hx rfl (hb hby d58_3) rfl ?_
  refine XS.ior X0.here hx rfl (hb hby d58_4) rfl ?_
  refine XS.ifNo X0.here hx rfl (hb hby d58_5) rfl ((if0 _ _).trans (flt h1).1) ?_
  refine XS.iloadN X0.here hx rfl (hb hby d58_8) rfl ?_
  refine XS.iloadN X0.here hx rfl (hb hby d58_9) rfl ?_
  refine XS.iloadN X0.here hx rfl (hb hby d58_10) rfl ?_
  refine XS.isub X0.here hx rfl (hb hby d58_11) rfl ?_
  refine XS.icmpYes X0.here hx rfl (pc0 := 12) (pc' := 23) rfl (hb hby d58_12) rfl (flt h2).2.2.2 (by decide) (by decide) ?_
  refine XS.iloadN X0.here hx rfl (hb hby d58_23) rfl ?_
  exact κ)
 obtain ⟨fs2, hr2, hrun2, hended2, hW2, hsame2⟩ := X0.leave (v := some (.int (0 : Int32))) (fun h => by rw [Bd.returns] at h; cases h)
 refine ⟨_, _, hPs _ (pre1 _ ?_), hrun2, hended2, _, _, rfl, ?_, ⟨_, rfl⟩, hW2, hsame2.mono (by decide) (by decide)⟩
 ·show own_st p e below s₁ (mkF m 24 #[.val (.int (0 : Int32)), .val (.int p2), .val (.int p3), .val fm] [(.int (0 : Int32))]) _
  exact retOut X0 hx (t := .int) Bd.returns rfl (Or.inl ⟨rfl, Or.inl rfl, _, rfl⟩) (hb hby d58_24) hr2
 ·show Qfis Z p2 p3 fm h0 n0 _ s₁.heap _
  rw [e0]
  exact ⟨rfl, N0, rfl⟩

theorem d57_0 : own_D own_c42 0 (.iload_n 0) 1 := by decide +kernel
theorem d57_1 : own_D own_c42 1 (.iload_n 1) 1 := by decide +kernel
theorem d57_2 : own_D own_c42 2 (.iload_n 2) 1 := by decide +kernel
theorem d57_3 : own_D own_c42 3 (.getstatic 1053) 3 := by decide +kernel
theorem d57_6 : own_D own_c42 6 (.invokestatic 1065) 3 := by decide +kernel
theorem d57_9 : own_D own_c42 9 (.ireturn) 1 := by decide +kernel


theorem ef_sbo (m : MethodId) (x0 : Int32) (x1 : Int32) (x2 : Int32)  : entryFrame m #[(.int x0), (.int x1), (.int x2)] 3 = mkF m 0 #[.val (.int x0), .val (.int x1), .val (.int x2)] [] := by first | (simp [entryFrame, mkF, argsToLocals, Value.category]; done) | rfl
def Qsbo (Z : State) (p2 p3 : Int32) (h0 : Heap) (n0 : Nat) (v : Option Value) (h : Heap) (L : List Loc) : Prop := v = some (.int (0 : Int32)) ∧ Fr n0 L ∧ h = h0
theorem rmsbo (l : Launch) (Z : State) (a0 : Array Value) (hw : own_W Z a0) (ws : List Jvm.Cond) (p2 p3 : Int32) (h0 : Heap) (n0 : Nat) (Z0 : n0 ≤ h0.size) (EN : own_env Z h0) (h1 : ¬ (((p3 ||| (0 : Int32)) ||| p2) < 0)) (h2 : ¬ ((p3 - (0 : Int32)) < p2)) :
  own_M l Z own_z59 own_c42 3 (some .int) ({ frames := 1, cells := 0, slots := 0, locals := 16 } : Room) ws #[(.int (0 : Int32)), (.int p2), (.int p3)] h0 (Qsbo Z p2 p3 h0 n0) := by
 refine MetFree.of_bodySF (plainFor_of_name pn_k2) hisR ?_
 intro p e s m args below meth c s₁ Bd hml0 hP hK
 obtain ⟨rfl, hZ, hh⟩ := hP
 have hx := Bd.exec
 have hby := Bd.bytes
 have hml : c.maxLocals = 3 := hml0
 have hown : s.vm.findClass "java/lang/String" = some m.cls := findClass_of_methodNamed Bd.named
 have X0 : Stand p l e ({ frames := 1, cells := 0, slots := 0, locals := 16 } : Room) s m #[(.int (0 : Int32)), (.int p2), (.int p3)] below meth c s₁ [] 0 0 := Stand.of_body Bd
 have e0 : s₁.heap = h0 := by rw [← hh, Bd.state]; rfl
 have N0 := Fr.nil n0
 obtain ⟨PP, hPs, pre0⟩ : ∃ PP : State → Prop, (∀ t, PP t → Steps p.tables e below (s₁.setTop (entryFrame m #[(.int (0 : Int32)), (.int p2), (.int p3)] 3)) t) ∧ own_pr p e below PP s₁ (mkF m 0 #[.val (.int (0 : Int32)), .val (.int p2), .val (.int p3)] []) := ⟨_, fun _ κ => κ, fun τ κ => castTop (ef_sbo m (0 : Int32) p2 p3) κ⟩
 obtain ⟨z, fm, Sz, hz, Sf, hfm, Sa, Sh, Sl⟩ := EN
 obtain ⟨T1, X1, e1, st1⟩ := getS2 X0 hx hZ hown (host := "") (Or.inl (wd135 hw)) Via.refl e0 Sf (g := (mkF m 3 #[.val (.int (0 : Int32)), .val (.int p2), .val (.int p3)] [(.int p3), (.int p2), (.int (0 : Int32))])) rfl (hb hby d57_3)
 obtain ⟨_, T2, Lc2, X2, hQ2, st2⟩ := own_cS X1 hx hZ (y := own_z60) hown (wd269 hw) (wd270 hw) (wd136 hw) (wd271 hw) (by decide) (rmfis l Z a0 hw [] p2 p3 fm h0 n0 Z0 hfm h1 h2) 0 (by decide) (g := (mkF m 6 #[.val (.int (0 : Int32)), .val (.int p2), .val (.int p3)] [fm, (.int p3), (.int p2), (.int (0 : Int32))])) rfl hml.symm [(.int (0 : Int32)), (.int p2), (.int p3), fm] [] (lenOf pd_fis rfl) rfl rfl (hb hby d57_6) e1 rfl
 obtain ⟨rfl, N2q, q2⟩ := hQ2
 have N2 := Fr.app N0 N2q
 have pre3 : own_pr p e below PP T2 (mkF m 9 #[.val (.int (0 : Int32)), .val (.int p2), .val (.int p3)] [(.int (0 : Int32))]) := fun τ κ => pre0 τ (by
  show own_st p e below s₁ (mkF m 0 #[.val (.int (0 : Int32)), .val (.int p2), .val (.int p3)] []) _
  refine XS.iloadN X0.here hx rfl (hb hby d57_0) rfl ?_
  refine XS.iloadN X0.here hx rfl (hb hby d57_1) rfl ?_
  refine XS.iloadN X0.here hx rfl (hb hby d57_2) rfl ?_
  refine st1 _ ?_
  refine st2 _ ?_
  exact κ)
 obtain ⟨fs4, hr4, hrun4, hended4, hW4, hsame4⟩ := X2.leave (v := some (.int (0 : Int32))) (fun h => by rw [Bd.returns] at h; cases h)
 refine ⟨_, _, hPs _ (pre3 _ ?_), hrun4, hended4, _, _, rfl, ?_, ⟨_, rfl⟩, hW4, hsame4.mono (by decide) (by decide)⟩
 ·show own_st p e below T2 (mkF m 9 #[.val (.int (0 : Int32)), .val (.int p2), .val (.int p3)] [(.int (0 : Int32))]) _
  exact retOut X2 hx (t := .int) Bd.returns rfl (Or.inl ⟨rfl, Or.inl rfl, _, rfl⟩) (hb hby d57_9) hr4
 ·show Qsbo Z p2 p3 h0 n0 _ T2.heap _
  rw [q2]
  exact ⟨rfl, N2, rfl⟩

theorem d56_0 : own_D own_c43 0 (.iload_n 0) 1 := by decide +kernel
theorem d56_1 : own_D own_c43 1 (.iload_n 1) 1 := by decide +kernel
theorem d56_2 : own_D own_c43 2 (.aload_n 2) 1 := by decide +kernel
theorem d56_3 : own_D own_c43 3 (.invokestatic 48) 3 := by decide +kernel
theorem d56_6 : own_D own_c43 6 (.invokestatic 419) 3 := by decide +kernel
theorem d56_9 : own_D own_c43 9 (.pop) 1 := by decide +kernel
theorem d56_10 : own_D own_c43 10 (.return_) 1 := by decide +kernel

theorem pd_ubo : parseMethodDescriptor "(II[B)V" = some ⟨[.int, .int, (.array .byte)], none⟩ := by decide +kernel

theorem ef_ubo (m : MethodId) (x0 : Int32) (x1 : Int32) (x2 : Addr)  : entryFrame m #[(.int x0), (.int x1), (.ref x2)] 3 = mkF m 0 #[.val (.int x0), .val (.int x1), .val (.ref x2)] [] := by first | (simp [entryFrame, mkF, argsToLocals, Value.category]; done) | rfl
def Qubo (Z : State) (a1 : Addr) (k1 : ClassId) (vs : List Value) (NZ p2 : Int32) (h0 : Heap) (n0 : Nat) (v : Option Value) (h : Heap) (L : List Loc) : Prop := v = none ∧ Fr n0 L ∧ h = h0
theorem rmubo (l : Launch) (Z : State) (a0 : Array Value) (hw : own_W Z a0) (ws : List Jvm.Cond) (a1 : Addr) (k1 : ClassId) (vs : List Value) (NZ p2 : Int32) (h0 : Heap) (n0 : Nat) (Z0 : n0 ≤ h0.size) (As : Arv Z h0 a1 k1 .byte NZ vs (.int 0)) (EN : own_env Z h0) (h1 : ¬ ((((NZ >>> ((1 : Int32) &&& 31)) ||| (0 : Int32)) ||| p2) < 0)) (h2 : ¬ (((NZ >>> ((1 : Int32) &&& 31)) - (0 : Int32)) < p2)) :
  own_M l Z own_z58 own_c43 3 none ({ frames := 2, cells := 0, slots := 0, locals := 32 } : Room) ws #[(.int (0 : Int32)), (.int p2), (.ref a1)] h0 (Qubo Z a1 k1 vs NZ p2 h0 n0) := by
 refine MetFree.of_bodySF (plainFor_of_name pn_k5) hisR ?_
 intro p e s m args below meth c s₁ Bd hml0 hP hK
 obtain ⟨rfl, hZ, hh⟩ := hP
 have hx := Bd.exec
 have hby := Bd.bytes
 have hml : c.maxLocals = 3 := hml0
 have hown : s.vm.findClass "java/lang/StringUTF16" = some m.cls := findClass_of_methodNamed Bd.named
 have X0 : Stand p l e ({ frames := 2, cells := 0, slots := 0, locals := 32 } : Room) s m #[(.int (0 : Int32)), (.int p2), (.ref a1)] below meth c s₁ [] 0 0 := Stand.of_body Bd
 have e0 : s₁.heap = h0 := by rw [← hh, Bd.state]; rfl
 have N0 := Fr.nil n0
 obtain ⟨PP, hPs, pre0⟩ : ∃ PP : State → Prop, (∀ t, PP t → Steps p.tables e below (s₁.setTop (entryFrame m #[(.int (0 : Int32)), (.int p2), (.ref a1)] 3)) t) ∧ own_pr p e below PP s₁ (mkF m 0 #[.val (.int (0 : Int32)), .val (.int p2), .val (.ref a1)] []) := ⟨_, fun _ κ => κ, fun τ κ => castTop (ef_ubo m (0 : Int32) p2 a1) κ⟩
 obtain ⟨_, T1, Lc1, X1, hQ1, st1⟩ := own_cS X0 hx hZ (y := own_z54) hown (wd247 hw) (wd248 hw) (wd110 hw) (wd249 hw) (by decide) (rmul l Z a0 hw [] a1 k1 vs NZ h0 n0 Z0 As) 2 (by decide) (g := (mkF m 3 #[.val (.int (0 : Int32)), .val (.int p2), .val (.ref a1)] [(.ref a1), (.int p2), (.int (0 : Int32))])) rfl hml.symm [(.ref a1)] [(.int p2), (.int (0 : Int32))] (lenOf pd_ul rfl) rfl rfl (hb hby d56_3) e0 rfl
 obtain ⟨rfl, N1q, q1⟩ := hQ1
 have N1 := Fr.app N0 N1q
 obtain ⟨_, T2, Lc2, X2, hQ2, st2⟩ := own_cS X1 hx hZ (y := own_z59) hown (wd266 hw) (wd267 hw) (wd8 hw) (wd268 hw) (by decide) (rmsbo l Z a0 hw [] p2 (NZ >>> ((1 : Int32) &&& 31)) h0 n0 Z0 EN h1 h2) 0 (by decide) (g := (mkF m 6 #[.val (.int (0 : Int32)), .val (.int p2), .val (.ref a1)] [(.int (NZ >>> ((1 : Int32) &&& 31))), (.int p2), (.int (0 : Int32))])) rfl hml.symm [(.int (0 : Int32)), (.int p2), (.int (NZ >>> ((1 : Int32) &&& 31)))] [] (lenOf pd_nl rfl) rfl rfl (hb hby d56_6) q1 rfl
 obtain ⟨rfl, N2q, q2⟩ := hQ2
 have N2 := Fr.app N1 N2q
 have pre3 : own_pr p e below PP T2 (mkF m 10 #[.val (.int (0 : Int32)), .val (.int p2), .val (.ref a1)] []) := fun τ κ => pre0 τ (by
  show own_st p e below s₁ (mkF m 0 #[.val (.int (0 : Int32)), .val (.int p2), .val (.ref a1)] []) _
  refine XS.iloadN X0.here hx rfl (hb hby d56_0) rfl ?_
  refine XS.iloadN X0.here hx rfl (hb hby d56_1) rfl ?_
  refine XS.aloadN X0.here hx rfl (hb hby d56_2) rfl rfl ?_
  refine st1 _ ?_
  refine st2 _ ?_
  refine XS.pop X2.here hx rfl (hb hby d56_9) rfl rfl ?_
  exact κ)
 obtain ⟨fs4, hr4, hrun4, hended4, hW4, hsame4⟩ := X2.leave (v := none) (fun _ => rfl)
 refine ⟨_, _, hPs _ (pre3 _ ?_), hrun4, hended4, _, _, rfl, ?_, ⟨_, rfl⟩, hW4, hsame4.mono (by decide) (by decide)⟩
 ·show own_st p e below T2 (mkF m 10 #[.val (.int (0 : Int32)), .val (.int p2), .val (.ref a1)] []) _
  exact X2.returnOut hx Bd.returns (hb hby d56_10) hr4
 ·show Qubo Z a1 k1 vs NZ p2 h0 n0 _ T2.heap _
  rw [q2]
  exact ⟨rfl, N2, rfl⟩

def own_QF (Z : State) (a2 : Addr) (k2 : ClassId) (N2 : Int32) (us : List Value) (h0 : Heap) (n0 : Nat) (v : Option Value) (h : Heap) (L : List Loc) : Prop := v = none ∧ Fr n0 L ∧ Keep h0 h [a2] ∧ Arv Z h a2 k2 .byte N2 us (Value.int 0)

theorem own_irr (x : Int32) : ¬ x < x := by rw [Int32.lt_iff_toInt_lt]; omega
theorem own_mla (cs : List Int32) (r j : Nat) (h : j < cs.length) : ((cs.map fun c => Value.int (own_lo8 c)) ++ List.replicate r (Value.int 0)).getD j (Value.int 0) = .int (own_lo8 (cs.getD j 0)) := by
 simp [List.getD_eq_getElem?_getD, List.getElem?_append_left, h]
theorem own_wturn (cs : List Int32) (i C : Nat) (h : i < cs.length) (h2 : i < C) : ((own_wb (cs.take i) ++ List.replicate (2 * (C - i)) (Value.int 0)).set (2 * i) (.int (own_lo8 (cs.getD i 0)))).set (2 * i + 1) (.int (own_hi8 (cs.getD i 0))) = own_wb (cs.take (i + 1)) ++ List.replicate (2 * (C - (i + 1))) (Value.int 0) := by
 have e1 : (cs.take i).length = i := by simp; omega
 have e2 : cs.take (i + 1) = cs.take i ++ [cs.getD i 0] := by
  rw [List.take_add_one, List.getElem?_eq_getElem h]; simp [List.getD_eq_getElem?_getD, h]
 have q := own_wset (cs.take i) (cs.getD i 0) (C - (i + 1))
 rw [e1, show C - (i + 1) + 1 = C - i from by omega] at q
 rw [e2]; exact q

theorem d55_0 : own_D own_c44 0 (.iload_n 3) 1 := by decide +kernel
theorem d55_1 : own_D own_c44 1 (.iload 4) 2 := by decide +kernel
theorem d55_3 : own_D own_c44 3 (.aload_n 2) 1 := by decide +kernel
theorem d55_4 : own_D own_c44 4 (.invokestatic 173) 3 := by decide +kernel
theorem d55_7 : own_D own_c44 7 (.iconst 0) 1 := by decide +kernel
theorem d55_8 : own_D own_c44 8 (.istore 5) 2 := by decide +kernel
theorem d55_10 : own_D own_c44 10 (.iload 5) 2 := by decide +kernel
theorem d55_12 : own_D own_c44 12 (.iload 4) 2 := by decide +kernel
theorem d55_14 : own_D own_c44 14 (.if_icmp .ge 27) 3 := by decide +kernel
theorem d55_17 : own_D own_c44 17 (.aload_n 2) 1 := by decide +kernel
theorem d55_18 : own_D own_c44 18 (.iload_n 3) 1 := by decide +kernel
theorem d55_19 : own_D own_c44 19 (.iinc 3 1) 3 := by decide +kernel
theorem d55_22 : own_D own_c44 22 (.aload_n 0) 1 := by decide +kernel
theorem d55_23 : own_D own_c44 23 (.iload_n 1) 1 := by decide +kernel
theorem d55_24 : own_D own_c44 24 (.iinc 1 1) 3 := by decide +kernel
theorem d55_27 : own_D own_c44 27 (.baload) 1 := by decide +kernel
theorem d55_28 : own_D own_c44 28 (.sipush 255) 3 := by decide +kernel
theorem d55_31 : own_D own_c44 31 (.iand) 1 := by decide +kernel
theorem d55_32 : own_D own_c44 32 (.invokestatic 111) 3 := by decide +kernel
theorem d55_35 : own_D own_c44 35 (.iinc 5 1) 3 := by decide +kernel
theorem d55_38 : own_D own_c44 38 (.goto (-28)) 3 := by decide +kernel
theorem d55_41 : own_D own_c44 41 (.return_) 1 := by decide +kernel

theorem pd_ui : parseMethodDescriptor "([BI[BII)V" = some ⟨[(.array .byte), .int, (.array .byte), .int, .int], none⟩ := by decide +kernel

theorem ef_ui (m : MethodId) (x0 : Addr) (x1 : Int32) (x2 : Addr) (x3 : Int32) (x4 : Int32)  : entryFrame m #[(.ref x0), (.int x1), (.ref x2), (.int x3), (.int x4)] 6 = mkF m 0 #[.val (.ref x0), .val (.int x1), .val (.ref x2), .val (.int x3), .val (.int x4), .unset] [] := by first | (simp [entryFrame, mkF, argsToLocals, Value.category]; done) | rfl
def Qui (Z : State) (a1 a2 : Addr) (k1 k2 : ClassId) (cs : List Int32) (C r : Nat) (h0 : Heap) (n0 : Nat) (v : Option Value) (h : Heap) (L : List Loc) : Prop := own_QF Z a2 k2 (Int32.ofNat (2 * C)) (own_wb cs ++ List.replicate (2 * r) (.int 0)) h0 n0 v h L
theorem rmui (l : Launch) (Z : State) (a0 : Array Value) (hw : own_W Z a0) (ws : List Jvm.Cond) (a1 a2 : Addr) (k1 k2 : ClassId) (cs : List Int32) (C r : Nat) (h0 : Heap) (n0 : Nat) (Z0 : n0 ≤ h0.size) (hr : cs.length + r = C) (hC : C ≤ 8) (hbd : ∀ c ∈ cs, own_b c) (hxx : ∀ c ∈ cs, ¬ 255 < c) (EN : own_env Z h0) (hne : a1 ≠ a2) (g2 : n0 ≤ a2) (As : Arv Z h0 a1 k1 .byte (Int32.ofNat C) ((cs.map fun c => Value.int (own_lo8 c)) ++ List.replicate r (Value.int 0)) (.int 0)) (Vd : Arv Z h0 a2 k2 .byte (Int32.ofNat (2 * C)) (List.replicate (2 * C) (.int 0)) (.int 0)) :
  own_M l Z own_z57 own_c44 6 none ({ frames := 3, cells := 0, slots := 0, locals := 46 } : Room) ws #[(.ref a1), (.int (0 : Int32)), (.ref a2), (.int (0 : Int32)), (.int (Int32.ofNat cs.length))] h0 (Qui Z a1 a2 k1 k2 cs C r h0 n0) := by
 refine MetFree.of_bodySF (plainFor_of_name pn_k5) hisR ?_
 intro p e s m args below meth c s₁ Bd hml0 hP hK
 obtain ⟨rfl, hZ, hh⟩ := hP
 have hx := Bd.exec
 have hby := Bd.bytes
 have hml : c.maxLocals = 6 := hml0
 have hown : s.vm.findClass "java/lang/StringUTF16" = some m.cls := findClass_of_methodNamed Bd.named
 have X0 : Stand p l e ({ frames := 3, cells := 0, slots := 0, locals := 46 } : Room) s m #[(.ref a1), (.int (0 : Int32)), (.ref a2), (.int (0 : Int32)), (.int (Int32.ofNat cs.length))] below meth c s₁ [] 0 0 := Stand.of_body Bd
 have e0 : s₁.heap = h0 := by rw [← hh, Bd.state]; rfl
 have N0 := Fr.nil n0
 obtain ⟨PP, hPs, pre0⟩ : ∃ PP : State → Prop, (∀ t, PP t → Steps p.tables e below (s₁.setTop (entryFrame m #[(.ref a1), (.int (0 : Int32)), (.ref a2), (.int (0 : Int32)), (.int (Int32.ofNat cs.length))] 6)) t) ∧ own_pr p e below PP s₁ (mkF m 0 #[.val (.ref a1), .val (.int (0 : Int32)), .val (.ref a2), .val (.int (0 : Int32)), .val (.int (Int32.ofNat cs.length)), .unset] []) := ⟨_, fun _ κ => κ, fun τ κ => castTop (ef_ui m a1 (0 : Int32) a2 (0 : Int32) (Int32.ofNat cs.length)) κ⟩
 have o1 := own_off C (by omega) cs.length (by omega)
 obtain ⟨_, T1, Lc1, X1, hQ1, st1⟩ := own_cS X0 hx hZ (y := own_z58) hown (wd263 hw) (wd264 hw) (wd110 hw) (wd265 hw) (by decide) (rmubo l Z a0 hw [] a2 k2 _ (Int32.ofNat (2 * C)) (Int32.ofNat cs.length) h0 n0 Z0 Vd EN o1.1 o1.2) 0 (by decide) (g := (mkF m 4 #[.val (.ref a1), .val (.int (0 : Int32)), .val (.ref a2), .val (.int (0 : Int32)), .val (.int (Int32.ofNat cs.length)), .unset] [(.ref a2), (.int (Int32.ofNat cs.length)), (.int (0 : Int32))])) rfl hml.symm [(.int (0 : Int32)), (.int (Int32.ofNat cs.length)), (.ref a2)] [] (lenOf pd_ubo rfl) rfl rfl (hb hby d55_4) e0 rfl
 obtain ⟨rfl, N1q, q1⟩ := hQ1
 have N1 := Fr.app N0 N1q
 have pre2 : own_pr p e below PP T1 (mkF m 10 #[.val (.ref a1), .val (.int (0 : Int32)), .val (.ref a2), .val (.int (0 : Int32)), .val (.int (Int32.ofNat cs.length)), .val (.int (0 : Int32))] []) := fun τ κ => pre0 τ (by
  show own_st p e below s₁ (mkF m 0 #[.val (.ref a1), .val (.int (0 : Int32)), .val (.ref a2), .val (.int (0 : Int32)), .val (.int (Int32.ofNat cs.length)), .unset] []) _
  refine XS.iloadN X0.here hx rfl (hb hby d55_0) rfl ?_
  refine XS.iload X0.here hx rfl (hb hby d55_1) rfl ?_
  refine XS.aloadN X0.here hx rfl (hb hby d55_3) rfl rfl ?_
  refine st1 _ ?_
  refine XS.iconst X1.here hx rfl (hb hby d55_7) ?_
  refine XS.istore X1.here hx rfl (hb hby d55_8) rfl (l' := #[.val (.ref a1), .val (.int (0 : Int32)), .val (.ref a2), .val (.int (0 : Int32)), .val (.int (Int32.ofNat cs.length)), .val (.int (0 : Int32))]) rfl ?_
  exact κ)
 apply Classical.byContradiction
 intro hG
 have loop : ∀ (d i : Nat) (T : State) (L : List Loc) (h : Heap), d + i = cs.length → Stand p l e ({ frames := 3, cells := 0, slots := 0, locals := 46 } : Room) s m #[(.ref a1), (.int (0 : Int32)), (.ref a2), (.int (0 : Int32)), (.int (Int32.ofNat cs.length))] below meth c T L 0 0 → T.heap = h → Fr n0 L → Keep h0 h [a2] → own_env Z h → Arv Z h a1 k1 .byte (Int32.ofNat C) ((cs.map fun c => Value.int (own_lo8 c)) ++ List.replicate r (Value.int 0)) (.int 0) → Arv Z h a2 k2 .byte (Int32.ofNat (2 * C)) (own_wb (cs.take i) ++ List.replicate (2 * (C - i)) (.int 0)) (.int 0) → own_pr p e below PP T (mkF m 10 #[.val (.ref a1), .val (.int (Int32.ofNat i)), .val (.ref a2), .val (.int (Int32.ofNat i)), .val (.int (Int32.ofNat cs.length)), .val (.int (Int32.ofNat i))] []) → False := by
  intro d
  induction d with
  | zero =>
   intro i T L h hd XL eL NL KL ENL AsL VdL preL
   have pre3 : own_pr p e below PP T (mkF m 41 #[.val (.ref a1), .val (.int (Int32.ofNat i)), .val (.ref a2), .val (.int (Int32.ofNat i)), .val (.int (Int32.ofNat cs.length)), .val (.int (Int32.ofNat i))] []) := fun τ κ => preL τ (by
    show own_st p e below T (mkF m 10 #[.val (.ref a1), .val (.int (Int32.ofNat i)), .val (.ref a2), .val (.int (Int32.ofNat i)), .val (.int (Int32.ofNat cs.length)), .val (.int (Int32.ofNat i))] []) _
    refine XS.iload XL.here hx rfl (hb hby d55_10) rfl ?_
    refine XS.iload XL.here hx rfl (hb hby d55_12) rfl ?_
    refine XS.icmpYes XL.here hx rfl (pc0 := 14) (pc' := 41) rfl (hb hby d55_14) rfl (flt (by rw [show i = cs.length from by omega]; exact own_irr _)).2.1 (by decide) (by decide) ?_
    exact κ)
   obtain ⟨fs4, hr4, hrun4, hended4, hW4, hsame4⟩ := XL.leave (v := none) (fun _ => rfl)
   refine hG ⟨_, _, hPs _ (pre3 _ ?_), hrun4, hended4, _, _, rfl, ?_, ⟨_, rfl⟩, hW4, hsame4.mono (by decide) (by decide)⟩
   ·show own_st p e below T (mkF m 41 #[.val (.ref a1), .val (.int (Int32.ofNat i)), .val (.ref a2), .val (.int (Int32.ofNat i)), .val (.int (Int32.ofNat cs.length)), .val (.int (Int32.ofNat i))] []) _
    exact XL.returnOut hx Bd.returns (hb hby d55_41) hr4
   ·show Qui Z a1 a2 k1 k2 cs C r h0 n0 _ T.heap _
    rw [eL]
    have q9 := VdL
    rw [show i = cs.length from by omega, List.take_length, show C - cs.length = r from by omega] at q9
    exact ⟨rfl, NL, KL, q9⟩
  | succ d ih =>
   intro i T L h hd XL eL NL KL ENL AsL VdL preL
   have Vc5 := AsL
   obtain ⟨cl5, Ar5, qq5, sz5, nn5, Ha5, Gf5⟩ := Vc5
   have hin5 : ¬ ((Int32.ofNat i) < 0 ∨ cl5.slots.size ≤ ((Int32.ofNat i)).toNatClampNeg) := inb_of sz5 ⟨own_n0 _ (by omega), own_nlt _ (by omega) _ (by omega)⟩
   have hJ : (Int32.ofNat i <<< ((1 : Int32) &&& 31)) = Int32.ofNat (2 * i) := own_shl _ (by omega)
   have hJ1 : ((Int32.ofNat i <<< ((1 : Int32) &&& 31)) + (1 : Int32)) = Int32.ofNat (2 * i + 1) := by rw [hJ]; exact own_s1 _ (by omega)
   have hvl : (own_wb (cs.take i) ++ List.replicate (2 * (C - i)) (Value.int 0)).length = 2 * C := by simp [own_wlen]; omega
   have hm9 := own_mem cs i (by omega)
   obtain ⟨_, T6, Lc6, X6, hQ6, st6⟩ := own_cS XL hx hZ (y := own_z50) hown (wd232 hw) (wd233 hw) (wd110 hw) (wd234 hw) (by decide) (rmpc l Z a0 hw [] a2 k2 (Int32.ofNat (2 * C)) (own_wb (cs.take i) ++ List.replicate (2 * (C - i)) (.int 0)) (2 * i) (Int32.ofNat i) (own_lo8 (cs.getD i 0) &&& (255 : Int32)) h n0 (Nat.le_trans Z0 KL.1) ENL VdL g2 (by rw [hJ]; exact ⟨own_n0 _ (by omega), own_nl2 _ (by omega) _ (by omega)⟩) (by rw [hJ1]; exact ⟨own_n0 _ (by omega), own_nl2 _ (by omega) _ (by omega)⟩) (by rw [hJ]; exact own_nn _ (by omega)) (by rw [hJ1]; exact own_nn _ (by omega)) (by rw [hvl]; omega) (by rw [hvl]; omega)) 0 (by decide) (g := (mkF m 32 #[.val (.ref a1), .val (.int ((Int32.ofNat i) + (1 : Int32))), .val (.ref a2), .val (.int ((Int32.ofNat i) + (1 : Int32))), .val (.int (Int32.ofNat cs.length)), .val (.int (Int32.ofNat i))] [(.int ((own_lo8 (cs.getD i 0)) &&& (255 : Int32))), (.int (Int32.ofNat i)), (.ref a2)])) rfl hml.symm [(.ref a2), (.int (Int32.ofNat i)), (.int ((own_lo8 (cs.getD i 0)) &&& (255 : Int32)))] [] (lenOf pd_pc rfl) rfl rfl (hb hby d55_32) eL rfl
   obtain ⟨rfl, N6q, Kp6, Vn6⟩ := hQ6
   have N6 := Fr.app NL N6q
   have AsL_6 := AsL.keep Kp6 (ninS hne nin0)
   have ENL_6 := ENL.keep Kp6 VdL.nostat
   rw [own_l255 (hbd _ hm9) (hxx _ hm9), own_wturn cs i C (by omega) (by omega)] at Vn6
   have pre7 : own_pr p e below PP T6 (mkF m 10 #[.val (.ref a1), .val (.int ((Int32.ofNat i) + (1 : Int32))), .val (.ref a2), .val (.int ((Int32.ofNat i) + (1 : Int32))), .val (.int (Int32.ofNat cs.length)), .val (.int ((Int32.ofNat i) + (1 : Int32)))] []) := fun τ κ => preL τ (by
    show own_st p e below T (mkF m 10 #[.val (.ref a1), .val (.int (Int32.ofNat i)), .val (.ref a2), .val (.int (Int32.ofNat i)), .val (.int (Int32.ofNat cs.length)), .val (.int (Int32.ofNat i))] []) _
    refine XS.iload XL.here hx rfl (hb hby d55_10) rfl ?_
    refine XS.iload XL.here hx rfl (hb hby d55_12) rfl ?_
    refine XS.icmpNo XL.here hx rfl (hb hby d55_14) rfl (tlt (own_nlt _ (by omega) _ (by omega : i < cs.length))).2.1 ?_
    refine XS.aloadN XL.here hx rfl (hb hby d55_17) rfl rfl ?_
    refine XS.iloadN XL.here hx rfl (hb hby d55_18) rfl ?_
    refine XS.iinc XL.here hx rfl (hb hby d55_19) rfl (l' := #[.val (.ref a1), .val (.int (Int32.ofNat i)), .val (.ref a2), .val (.int ((Int32.ofNat i) + (1 : Int32))), .val (.int (Int32.ofNat cs.length)), .val (.int (Int32.ofNat i))]) rfl ?_
    refine XS.aloadN XL.here hx rfl (hb hby d55_22) rfl rfl ?_
    refine XS.iloadN XL.here hx rfl (hb hby d55_23) rfl ?_
    refine XS.iinc XL.here hx rfl (hb hby d55_24) rfl (l' := #[.val (.ref a1), .val (.int ((Int32.ofNat i) + (1 : Int32))), .val (.ref a2), .val (.int ((Int32.ofNat i) + (1 : Int32))), .val (.int (Int32.ofNat cs.length)), .val (.int (Int32.ofNat i))]) rfl ?_
    refine XL.baloadBytes hx (j := (Int32.ofNat i)) (v := (.int (own_lo8 (cs.getD i 0)))) (by rw [eL]; exact Ar5.1) (State.isArrayOf_alike hZ.alike Ar5.2.1) Ar5.2.2 hin5 (Has.at Ha5 hin5 (by rw [own_nn _ (by omega)]; exact own_mla cs r i (by omega))) (g := (mkF m 27 #[.val (.ref a1), .val (.int ((Int32.ofNat i) + (1 : Int32))), .val (.ref a2), .val (.int ((Int32.ofNat i) + (1 : Int32))), .val (.int (Int32.ofNat cs.length)), .val (.int (Int32.ofNat i))] [(.int (Int32.ofNat i)), (.ref a1), (.int (Int32.ofNat i)), (.ref a2)])) rfl rfl (hb hby d55_27) _ ?_
    refine XS.sipush XL.here hx rfl (hb hby d55_28) ?_
    refine XS.iand XL.here hx rfl (hb hby d55_31) rfl ?_
    refine st6 _ ?_
    refine XS.iinc X6.here hx rfl (hb hby d55_35) rfl (l' := #[.val (.ref a1), .val (.int ((Int32.ofNat i) + (1 : Int32))), .val (.ref a2), .val (.int ((Int32.ofNat i) + (1 : Int32))), .val (.int (Int32.ofNat cs.length)), .val (.int ((Int32.ofNat i) + (1 : Int32)))]) rfl ?_
    refine XS.goto X6.here hx rfl (pc0 := 38) (pc' := 10) rfl (hb hby d55_38) (by decide) (by decide) ?_
    exact κ)
   rw [own_s1 _ (by omega)] at pre7
   exact ih (i + 1) _ _ _ (by omega) X6 rfl N6 (KL.trans Kp6 (fun _ q => Or.inl q)) ENL_6 AsL_6 Vn6 pre7
 exact loop cs.length 0 _ _ _ (by omega) X1 q1 N1 (Keep.refl h0 [a2]) EN As (by simpa [own_wb] using Vd) pre2

theorem d54_0 : own_D own_c45 0 (.aload_n 0) 1 := by decide +kernel
theorem d54_1 : own_D own_c45 1 (.iload_n 1) 1 := by decide +kernel
theorem d54_2 : own_D own_c45 2 (.aload_n 2) 1 := by decide +kernel
theorem d54_3 : own_D own_c45 3 (.iload_n 3) 1 := by decide +kernel
theorem d54_4 : own_D own_c45 4 (.iload 4) 2 := by decide +kernel
theorem d54_6 : own_D own_c45 6 (.invokestatic 240) 3 := by decide +kernel
theorem d54_9 : own_D own_c45 9 (.return_) 1 := by decide +kernel


theorem ef_lfl (m : MethodId) (x0 : Addr) (x1 : Int32) (x2 : Addr) (x3 : Int32) (x4 : Int32)  : entryFrame m #[(.ref x0), (.int x1), (.ref x2), (.int x3), (.int x4)] 5 = mkF m 0 #[.val (.ref x0), .val (.int x1), .val (.ref x2), .val (.int x3), .val (.int x4)] [] := by first | (simp [entryFrame, mkF, argsToLocals, Value.category]; done) | rfl
def Qlfl (Z : State) (a1 a2 : Addr) (k2 : ClassId) (C r : Nat) (cs : List Int32) (h0 : Heap) (n0 : Nat) (v : Option Value) (h : Heap) (L : List Loc) : Prop := own_QF Z a2 k2 (Int32.ofNat (2 * C)) (own_wb cs ++ List.replicate (2 * r) (.int 0)) h0 n0 v h L
theorem rmlfl (l : Launch) (Z : State) (a0 : Array Value) (hw : own_W Z a0) (ws : List Jvm.Cond) (a1 a2 : Addr) (k2 : ClassId) (C r : Nat) (cs : List Int32) (h0 : Heap) (n0 : Nat) (Z0 : n0 ≤ h0.size) (HU : own_M l Z own_z57 own_c44 6 none ({ frames := 3, cells := 0, slots := 0, locals := 46 } : Room) [] #[(.ref a1), (.int (0 : Int32)), (.ref a2), (.int (0 : Int32)), (.int (Int32.ofNat cs.length))] h0 (own_QF Z a2 k2 (Int32.ofNat (2 * C)) (own_wb cs ++ List.replicate (2 * r) (.int 0)) h0 n0)) :
  own_M l Z own_z56 own_c45 5 none ({ frames := 4, cells := 0, slots := 0, locals := 63 } : Room) ws #[(.ref a1), (.int (0 : Int32)), (.ref a2), (.int (0 : Int32)), (.int (Int32.ofNat cs.length))] h0 (Qlfl Z a1 a2 k2 C r cs h0 n0) := by
 refine MetFree.of_bodySF (plainFor_of_name pn_k4) hisR ?_
 intro p e s m args below meth c s₁ Bd hml0 hP hK
 obtain ⟨rfl, hZ, hh⟩ := hP
 have hx := Bd.exec
 have hby := Bd.bytes
 have hml : c.maxLocals = 5 := hml0
 have hown : s.vm.findClass "java/lang/StringLatin1" = some m.cls := findClass_of_methodNamed Bd.named
 have X0 : Stand p l e ({ frames := 4, cells := 0, slots := 0, locals := 63 } : Room) s m #[(.ref a1), (.int (0 : Int32)), (.ref a2), (.int (0 : Int32)), (.int (Int32.ofNat cs.length))] below meth c s₁ [] 0 0 := Stand.of_body Bd
 have e0 : s₁.heap = h0 := by rw [← hh, Bd.state]; rfl
 have N0 := Fr.nil n0
 obtain ⟨PP, hPs, pre0⟩ : ∃ PP : State → Prop, (∀ t, PP t → Steps p.tables e below (s₁.setTop (entryFrame m #[(.ref a1), (.int (0 : Int32)), (.ref a2), (.int (0 : Int32)), (.int (Int32.ofNat cs.length))] 5)) t) ∧ own_pr p e below PP s₁ (mkF m 0 #[.val (.ref a1), .val (.int (0 : Int32)), .val (.ref a2), .val (.int (0 : Int32)), .val (.int (Int32.ofNat cs.length))] []) := ⟨_, fun _ κ => κ, fun τ κ => castTop (ef_lfl m a1 (0 : Int32) a2 (0 : Int32) (Int32.ofNat cs.length)) κ⟩
 obtain ⟨_, T1, Lc1, X1, hQ1, st1⟩ := own_cS X0 hx hZ (y := own_z57) hown (wd260 hw) (wd261 hw) (wd110 hw) (wd262 hw) (by decide) HU 0 (by decide) (g := (mkF m 6 #[.val (.ref a1), .val (.int (0 : Int32)), .val (.ref a2), .val (.int (0 : Int32)), .val (.int (Int32.ofNat cs.length))] [(.int (Int32.ofNat cs.length)), (.int (0 : Int32)), (.ref a2), (.int (0 : Int32)), (.ref a1)])) rfl hml.symm [(.ref a1), (.int (0 : Int32)), (.ref a2), (.int (0 : Int32)), (.int (Int32.ofNat cs.length))] [] (lenOf pd_ui rfl) rfl rfl (hb hby d54_6) e0 rfl
 obtain ⟨rfl, N1q, qq1⟩ := hQ1
 have N1 := Fr.app N0 N1q
 have pre2 : own_pr p e below PP T1 (mkF m 9 #[.val (.ref a1), .val (.int (0 : Int32)), .val (.ref a2), .val (.int (0 : Int32)), .val (.int (Int32.ofNat cs.length))] []) := fun τ κ => pre0 τ (by
  show own_st p e below s₁ (mkF m 0 #[.val (.ref a1), .val (.int (0 : Int32)), .val (.ref a2), .val (.int (0 : Int32)), .val (.int (Int32.ofNat cs.length))] []) _
  refine XS.aloadN X0.here hx rfl (hb hby d54_0) rfl rfl ?_
  refine XS.iloadN X0.here hx rfl (hb hby d54_1) rfl ?_
  refine XS.aloadN X0.here hx rfl (hb hby d54_2) rfl rfl ?_
  refine XS.iloadN X0.here hx rfl (hb hby d54_3) rfl ?_
  refine XS.iload X0.here hx rfl (hb hby d54_4) rfl ?_
  refine st1 _ ?_
  exact κ)
 obtain ⟨fs3, hr3, hrun3, hended3, hW3, hsame3⟩ := X1.leave (v := none) (fun _ => rfl)
 refine ⟨_, _, hPs _ (pre2 _ ?_), hrun3, hended3, _, _, rfl, ?_, ⟨_, rfl⟩, hW3, hsame3.mono (by decide) (by decide)⟩
 ·show own_st p e below T1 (mkF m 9 #[.val (.ref a1), .val (.int (0 : Int32)), .val (.ref a2), .val (.int (0 : Int32)), .val (.int (Int32.ofNat cs.length))] []) _
  exact X1.returnOut hx Bd.returns (hb hby d54_9) hr3
 ·show Qlfl Z a1 a2 k2 C r cs h0 n0 _ T1.heap _
  exact ⟨rfl, N1, qq1⟩

theorem d53_0 : own_D own_c46 0 (.aload_n 0) 1 := by decide +kernel
theorem d53_1 : own_D own_c46 1 (.invokevirtual 83) 3 := by decide +kernel
theorem d53_4 : own_D own_c46 4 (.ifCond .ne 4) 3 := by decide +kernel
theorem d53_8 : own_D own_c46 8 (.aload_n 0) 1 := by decide +kernel
theorem d53_9 : own_D own_c46 9 (.getfield 15) 3 := by decide +kernel
theorem d53_12 : own_D own_c46 12 (.arraylength) 1 := by decide +kernel
theorem d53_13 : own_D own_c46 13 (.invokestatic 26) 3 := by decide +kernel
theorem d53_16 : own_D own_c46 16 (.astore_n 1) 1 := by decide +kernel
theorem d53_17 : own_D own_c46 17 (.aload_n 0) 1 := by decide +kernel
theorem d53_18 : own_D own_c46 18 (.getfield 15) 3 := by decide +kernel
theorem d53_21 : own_D own_c46 21 (.iconst 0) 1 := by decide +kernel
theorem d53_22 : own_D own_c46 22 (.aload_n 1) 1 := by decide +kernel
theorem d53_23 : own_D own_c46 23 (.iconst 0) 1 := by decide +kernel
theorem d53_24 : own_D own_c46 24 (.aload_n 0) 1 := by decide +kernel
theorem d53_25 : own_D own_c46 25 (.getfield 79) 3 := by decide +kernel
theorem d53_28 : own_D own_c46 28 (.invokestatic 125) 3 := by decide +kernel
theorem d53_31 : own_D own_c46 31 (.aload_n 0) 1 := by decide +kernel
theorem d53_32 : own_D own_c46 32 (.aload_n 1) 1 := by decide +kernel
theorem d53_33 : own_D own_c46 33 (.putfield 15) 3 := by decide +kernel
theorem d53_36 : own_D own_c46 36 (.aload_n 0) 1 := by decide +kernel
theorem d53_37 : own_D own_c46 37 (.iconst 1) 1 := by decide +kernel
theorem d53_38 : own_D own_c46 38 (.putfield 22) 3 := by decide +kernel
theorem d53_41 : own_D own_c46 41 (.return_) 1 := by decide +kernel

theorem pd_bif : parseMethodDescriptor "()V" = some ⟨[], none⟩ := by decide +kernel

theorem ef_bif (m : MethodId) (x0 : Addr)  : entryFrame m #[(.ref x0)] 2 = mkF m 0 #[.val (.ref x0), .unset] [] := by first | (simp [entryFrame, mkF, argsToLocals, Value.category]; done) | rfl
def Qbif (Z : State) (b t : Addr) (kb : ClassId) (cs : List Int32) (C r : Nat) (h0 : Heap) (n0 : Nat) (v : Option Value) (h : Heap) (L : List Loc) : Prop := v = none ∧ Fr n0 L ∧ ∃ (t' : Addr) (kb' : ClassId), Keep h0 h [b] ∧ h0.size ≤ t' ∧ Exa Z h b "java/lang/StringBuilder" ∧ Fld Z h b "java/lang/AbstractStringBuilder" "value" "[B" (.ref t') ∧ Fld Z h b "java/lang/AbstractStringBuilder" "coder" "B" (.int 1) ∧ Fld Z h b "java/lang/AbstractStringBuilder" "count" "I" (.int (Int32.ofNat cs.length)) ∧ Fld Z h b "java/lang/AbstractStringBuilder" "maybeLatin1" "Z" (.int 0) ∧ Exa Z h t' "[B" ∧ Arv Z h t' kb' .byte (Int32.ofNat (2 * C)) (own_wb cs ++ List.replicate (2 * r) (.int 0)) (.int 0)
theorem rmbif (l : Launch) (Z : State) (a0 : Array Value) (hw : own_W Z a0) (ws : List Jvm.Cond) (b t : Addr) (kb : ClassId) (cs : List Int32) (C r : Nat) (h0 : Heap) (n0 : Nat) (Z0 : n0 ≤ h0.size) (E1 : Exa Z h0 b "java/lang/StringBuilder") (Fv : Fld Z h0 b "java/lang/AbstractStringBuilder" "value" "[B" (.ref t)) (Fc : Fld Z h0 b "java/lang/AbstractStringBuilder" "coder" "B" (.int 0)) (Fn : Fld Z h0 b "java/lang/AbstractStringBuilder" "count" "I" (.int (Int32.ofNat cs.length))) (Fm : Fld Z h0 b "java/lang/AbstractStringBuilder" "maybeLatin1" "Z" (.int 0)) (Va : Arv Z h0 t kb .byte (Int32.ofNat C) ((cs.map fun c => Value.int (own_lo8 c)) ++ List.replicate r (Value.int 0)) (.int 0)) (hr : cs.length + r = C) (hl5 : cs.length ≤ 5) (hC8 : C ≤ 8) (hbd : ∀ c ∈ cs, own_b c) (hxx : ∀ c ∈ cs, ¬ 255 < c) (EN : own_env Z h0) (g1 : n0 ≤ b) :
  own_M l Z own_z55 own_c46 2 none ({ frames := 5, cells := 1, slots := 16, locals := 79 } : Room) ws #[(.ref b)] h0 (Qbif Z b t kb cs C r h0 n0) := by
 refine MetFree.of_bodySF (plainFor_of_name pn_k7) hisR ?_
 intro p e s m args below meth c s₁ Bd hml0 hP hK
 obtain ⟨rfl, hZ, hh⟩ := hP
 have hx := Bd.exec
 have hby := Bd.bytes
 have hml : c.maxLocals = 2 := hml0
 have hown : s.vm.findClass "java/lang/AbstractStringBuilder" = some m.cls := findClass_of_methodNamed Bd.named
 have X0 : Stand p l e ({ frames := 5, cells := 1, slots := 16, locals := 79 } : Room) s m #[(.ref b)] below meth c s₁ [] 0 0 := Stand.of_body Bd
 have e0 : s₁.heap = h0 := by rw [← hh, Bd.state]; rfl
 have N0 := Fr.nil n0
 obtain ⟨PP, hPs, pre0⟩ : ∃ PP : State → Prop, (∀ t, PP t → Steps p.tables e below (s₁.setTop (entryFrame m #[(.ref b)] 2)) t) ∧ own_pr p e below PP s₁ (mkF m 0 #[.val (.ref b), .unset] []) := ⟨_, fun _ κ => κ, fun τ κ => castTop (ef_bif m b) κ⟩
 obtain ⟨_, T1, Lc1, X1, hQ1, st1⟩ := own_cV X0 hx hZ (y := own_z15) (z := own_z15) hown (wd182 hw) (wd90 hw) (wd92 hw) rfl (wd92 hw) (wd91 hw) (wd93 hw) (wd53 hw) (by decide) (rmbz0 l Z a0 hw [] b h0 n0 Z0 EN Fc) E1 0 (by decide) (g := (mkF m 1 #[.val (.ref b), .unset] [(.ref b)])) rfl hml.symm [] [] (lenOf pd_l1 rfl) rfl rfl (hb hby d53_1) e0 rfl
 obtain ⟨rfl, N1q, q1⟩ := hQ1
 have N1 := Fr.app N0 N1q
 obtain ⟨T2, X2, e2, st2⟩ := getF X1 hx hZ hown (host := "") (Or.inl (wd57 hw)) Via.refl q1 Fv (g := (mkF m 9 #[.val (.ref b), .unset] [(.ref b)])) rfl rfl (hb hby d53_9)
 have Vc3 := Va
 obtain ⟨cl3, Ar3, qq3, sz3, nn3, Ha3, Gf3⟩ := Vc3
 have s3 := own_shc C (by omega)
 obtain ⟨_, T4, Lc4, X4, hQ4, st4⟩ := own_cS X2 hx hZ (y := own_z48) hown (wd256 hw) (wd226 hw) (wd110 hw) (wd227 hw) (by decide) (rmnbf l Z a0 hw [] (Int32.ofNat C) (Int32.ofNat (2 * C)) (2 * C) h0 n0 Z0 s3.1 s3.2.1 s3.2.2 (own_n0 _ (by omega)) (own_nn _ (by omega)) (by omega)) 0 (by decide) (g := (mkF m 13 #[.val (.ref b), .unset] [(.int (Int32.ofNat C))])) rfl hml.symm [(.int (Int32.ofNat C))] [] (lenOf pd_bf1 rfl) rfl rfl (hb hby d53_13) e2 rfl
 obtain ⟨b4, kb4, rfl, N4q, E4, gz4, Q4, V4⟩ := hQ4
 have N4 := Fr.app N1 N4q
 have E1_4 := E1.ext E4
 have Fv_4 := Fv.ext E4
 have Fc_4 := Fc.ext E4
 have Fn_4 := Fn.ext E4
 have Fm_4 := Fm.ext E4
 have Va_4 := Va.ext E4
 have EN_4 := EN.ext E4
 have K4 := (Keep.refl h0 []).ext E4
 have nab : t ≠ b4 := Nat.ne_of_lt (Nat.lt_of_lt_of_le Va.lt gz4)
 have nbb : b ≠ b4 := Nat.ne_of_lt (Nat.lt_of_lt_of_le E1.lt gz4)
 obtain ⟨T5, X5, e5, st5⟩ := getF X4 hx hZ hown (host := "") (Or.inl (wd57 hw)) Via.refl rfl Fv_4 (g := (mkF m 18 #[.val (.ref b), .val (.ref b4)] [(.ref b)])) rfl rfl (hb hby d53_18)
 obtain ⟨T6, X6, e6, st6⟩ := getF X5 hx hZ hown (host := "") (Or.inl (wd87 hw)) Via.refl e5 Fn_4 (g := (mkF m 25 #[.val (.ref b), .val (.ref b4)] [(.ref b), (.int (0 : Int32)), (.ref b4), (.int (0 : Int32)), (.ref t)])) rfl rfl (hb hby d53_25)
 obtain ⟨_, T7, Lc7, X7, hQ7, st7⟩ := own_cS X6 hx hZ (y := own_z56) hown (wd257 hw) (wd258 hw) (wd130 hw) (wd259 hw) (by decide) (rmlfl l Z a0 hw [] t b4 kb4 C r cs T4.heap n0 (Nat.le_trans Z0 E4.1) (rmui l Z a0 hw [] t b4 kb kb4 cs C r T4.heap n0 (Nat.le_trans Z0 E4.1) hr hC8 hbd hxx EN_4 nab (Nat.le_trans Z0 gz4) Va_4 V4)) 0 (by decide) (g := (mkF m 28 #[.val (.ref b), .val (.ref b4)] [(.int (Int32.ofNat cs.length)), (.int (0 : Int32)), (.ref b4), (.int (0 : Int32)), (.ref t)])) rfl hml.symm [(.ref t), (.int (0 : Int32)), (.ref b4), (.int (0 : Int32)), (.int (Int32.ofNat cs.length))] [] (lenOf pd_ui rfl) rfl rfl (hb hby d53_28) e6 rfl
 obtain ⟨rfl, N7q, Kp7, Vq7⟩ := hQ7
 have N7 := Fr.app N4 N7q
 have E1_7 := E1_4.keep Kp7
 have Fv_7 := Fv_4.keep Kp7 (ninS nbb nin0)
 have Fc_7 := Fc_4.keep Kp7 (ninS nbb nin0)
 have Fn_7 := Fn_4.keep Kp7 (ninS nbb nin0)
 have Fm_7 := Fm_4.keep Kp7 (ninS nbb nin0)
 have Va_7 := Va_4.keep Kp7 (ninS nab nin0)
 have EN_7 := EN_4.keep Kp7 V4.nostat
 have Q4_7 := Q4.keep Kp7
 have K7 := K4.trans Kp7 (fun x hx => by cases List.mem_singleton.mp hx; exact Or.inr gz4)
 obtain ⟨T8, h8, X8, e8, W8, st8⟩ := putF X7 hx hZ hown (host := "") (Or.inl (wd57 hw)) Via.refl rfl Fv_7 E1_7 (Or.inl (wd58 hw)) (wd33 hw) (ty := (.array .byte)) (by decide) rfl rfl (g := (mkF m 33 #[.val (.ref b), .val (.ref b4)] [(.ref b4), (.ref b)])) rfl rfl (hb hby d53_33)
 have N8 := Fr.snoc X8 N7 g1
 have E1_8 := E1_7.wr W8
 have Fv_8 := Fv_7.same W8
 have Fc_8 := Fc_7.other W8 (Or.inr (slot_ne (Or.inl (wd60 hw)) (Or.inl (wd58 hw)) (by decide) (t := .byte) (t' := (.array .byte)) (by decide) (by decide)))
 have Fn_8 := Fn_7.other W8 (Or.inr (slot_ne (Or.inl (wd88 hw)) (Or.inl (wd58 hw)) (by decide) (t := .int) (t' := (.array .byte)) (by decide) (by decide)))
 have Fm_8 := Fm_7.other W8 (Or.inr (slot_ne (Or.inl (wd276 hw)) (Or.inl (wd58 hw)) (by decide) (t := .boolean) (t' := (.array .byte)) (by decide) (by decide)))
 have EN_8 := EN_7.wr W8 trivial
 have Q4_8 := Q4_7.wr W8
 have Vq7_8 := Vq7.other W8 (Ne.symm (E1_7.neArv Vq7 (wd33 hw)))
 obtain ⟨T9, h9, X9, e9, W9, st9⟩ := putFN X8 hx hZ hown (wd59 hw) Via.refl e8 Fc_8 E1_8 (Or.inl (wd60 hw)) (wd33 hw) (ty := .byte) (v' := (.int (1 : Int32))) (by decide) rfl rfl (g := (mkF m 38 #[.val (.ref b), .val (.ref b4)] [(.int (1 : Int32)), (.ref b)])) rfl rfl (hb hby d53_38)
 have N9 := Fr.snoc X9 N8 g1
 have E1_9 := E1_8.wr W9
 have Fv_9 := Fv_8.other W9 (Or.inr (slot_ne (Or.inl (wd58 hw)) (Or.inl (wd60 hw)) (by decide) (t := (.array .byte)) (t' := .byte) (by decide) (by decide)))
 have Fc_9 := Fc_8.same W9
 have Fn_9 := Fn_8.other W9 (Or.inr (slot_ne (Or.inl (wd88 hw)) (Or.inl (wd60 hw)) (by decide) (t := .int) (t' := .byte) (by decide) (by decide)))
 have Fm_9 := Fm_8.other W9 (Or.inr (slot_ne (Or.inl (wd276 hw)) (Or.inl (wd60 hw)) (by decide) (t := .boolean) (t' := .byte) (by decide) (by decide)))
 have EN_9 := EN_8.wr W9 trivial
 have Q4_9 := Q4_8.wr W9
 have Vq7_9 := Vq7_8.other W9 (Ne.symm (E1_8.neArv Vq7_8 (wd33 hw)))
 have pre10 : own_pr p e below PP T9 (mkF m 41 #[.val (.ref b), .val (.ref b4)] []) := fun τ κ => pre0 τ (by
  show own_st p e below s₁ (mkF m 0 #[.val (.ref b), .unset] []) _
  refine XS.aloadN X0.here hx rfl (hb hby d53_0) rfl rfl ?_
  refine st1 _ ?_
  refine XS.ifYes X1.here hx rfl (pc0 := 4) (pc' := 8) rfl (hb hby d53_4) rfl ((if0 _ _).trans (feq (by decide : ¬ ((1 : Int32) = (0 : Int32)))).2) (by decide) (by decide) ?_
  refine XS.aloadN X1.here hx rfl (hb hby d53_8) rfl rfl ?_
  refine st2 _ ?_
  refine X2.arraylength hx (by rw [e2]; exact Ar3.1) (State.isArrayOf_alike hZ.alike Ar3.2.1) (g := (mkF m 12 #[.val (.ref b), .unset] [(.ref t)])) rfl rfl (hb hby d53_12) _ ?_
  rw [len_of sz3 nn3]
  refine st4 _ ?_
  refine XS.astoreN X4.here hx rfl (hb hby d53_16) rfl rfl (l' := #[.val (.ref b), .val (.ref b4)]) rfl ?_
  refine XS.aloadN X4.here hx rfl (hb hby d53_17) rfl rfl ?_
  refine st5 _ ?_
  refine XS.iconst X5.here hx rfl (hb hby d53_21) ?_
  refine XS.aloadN X5.here hx rfl (hb hby d53_22) rfl rfl ?_
  refine XS.iconst X5.here hx rfl (hb hby d53_23) ?_
  refine XS.aloadN X5.here hx rfl (hb hby d53_24) rfl rfl ?_
  refine st6 _ ?_
  refine st7 _ ?_
  refine XS.aloadN X7.here hx rfl (hb hby d53_31) rfl rfl ?_
  refine XS.aloadN X7.here hx rfl (hb hby d53_32) rfl rfl ?_
  refine st8 _ ?_
  refine XS.aloadN X8.here hx rfl (hb hby d53_36) rfl rfl ?_
  refine XS.iconst X8.here hx rfl (hb hby d53_37) ?_
  refine st9 _ ?_
  exact κ)
 obtain ⟨fs11, hr11, hrun11, hended11, hW11, hsame11⟩ := X9.leave (v := none) (fun _ => rfl)
 refine ⟨_, _, hPs _ (pre10 _ ?_), hrun11, hended11, _, _, rfl, ?_, ⟨_, rfl⟩, hW11, hsame11.mono (by decide) (by decide)⟩
 ·show own_st p e below T9 (mkF m 41 #[.val (.ref b), .val (.ref b4)] []) _
  exact X9.returnOut hx Bd.returns (hb hby d53_41) hr11
 ·show Qbif Z b t kb cs C r h0 n0 _ T9.heap _
  rw [e9]
  exact ⟨rfl, N9, b4, kb4, (((((Keep.refl h0 [b]).ext E4).trans Kp7 (fun x hx => by cases List.mem_singleton.mp hx; exact Or.inr gz4)).wr W8 (Or.inl (List.mem_singleton.mpr rfl))).wr W9 (Or.inl (List.mem_singleton.mpr rfl))), gz4, E1_9, Fv_9, Fc_9, Fn_9, Fm_9, Q4_9, Vq7_9⟩

theorem d59_0 : own_D own_c47 0 (.iload_n 1) 1 := by decide +kernel
theorem d59_1 : own_D own_c47 1 (.aload_n 0) 1 := by decide +kernel
theorem d59_2 : own_D own_c47 2 (.invokestatic 67) 3 := by decide +kernel
theorem d59_5 : own_D own_c47 5 (.aload_n 0) 1 := by decide +kernel
theorem d59_6 : own_D own_c47 6 (.iload_n 1) 1 := by decide +kernel
theorem d59_7 : own_D own_c47 7 (.iload_n 2) 1 := by decide +kernel
theorem d59_8 : own_D own_c47 8 (.invokestatic 111) 3 := by decide +kernel
theorem d59_11 : own_D own_c47 11 (.return_) 1 := by decide +kernel


def Qpsb (Z : State) (a1 : Addr) (k1 : ClassId) (z1 : Int32) (vs : List Value) (m0 : Nat) (p1 p2 : Int32) (h0 : Heap) (n0 : Nat) (v : Option Value) (h : Heap) (L : List Loc) : Prop := v = none ∧ Fr n0 L ∧ Keep h0 h [a1] ∧ Arv Z h a1 k1 .byte z1 ((vs.set m0 (.int (own_lo8 p2))).set (m0 + 1) (.int (own_hi8 p2))) (.int 0)
theorem rmpsb (l : Launch) (Z : State) (a0 : Array Value) (hw : own_W Z a0) (ws : List Jvm.Cond) (a1 : Addr) (k1 : ClassId) (z1 : Int32) (vs : List Value) (m0 : Nat) (p1 p2 : Int32) (h0 : Heap) (n0 : Nat) (Z0 : n0 ≤ h0.size) (EN : own_env Z h0) (Va : Arv Z h0 a1 k1 .byte z1 vs (.int 0)) (g1 : n0 ≤ a1) (i0 : ¬ (p1 <<< ((1 : Int32) &&& 31)) < 0 ∧ (p1 <<< ((1 : Int32) &&& 31)) < z1) (i1 : ¬ ((p1 <<< ((1 : Int32) &&& 31)) + (1 : Int32)) < 0 ∧ ((p1 <<< ((1 : Int32) &&& 31)) + (1 : Int32)) < z1) (j0 : ((p1 <<< ((1 : Int32) &&& 31))).toNatClampNeg = m0) (j1 : ((p1 <<< ((1 : Int32) &&& 31)) + (1 : Int32)).toNatClampNeg = m0 + 1) (l0 : m0 < vs.length) (l1 : m0 + 1 < vs.length) (hin : ¬ p1 < 0 ∧ p1 < (z1 >>> ((1 : Int32) &&& 31))) :
  own_M l Z own_z61 own_c47 3 none ({ frames := 3, cells := 0, slots := 0, locals := 42 } : Room) ws #[(.ref a1), (.int p1), (.int p2)] h0 (Qpsb Z a1 k1 z1 vs m0 p1 p2 h0 n0) := by
 refine MetFree.of_bodySF (plainFor_of_name pn_k5) hisR ?_
 intro p e s m args below meth c s₁ Bd hml0 hP hK
 obtain ⟨rfl, hZ, hh⟩ := hP
 have hx := Bd.exec
 have hby := Bd.bytes
 have hml : c.maxLocals = 3 := hml0
 have hown : s.vm.findClass "java/lang/StringUTF16" = some m.cls := findClass_of_methodNamed Bd.named
 have X0 : Stand p l e ({ frames := 3, cells := 0, slots := 0, locals := 42 } : Room) s m #[(.ref a1), (.int p1), (.int p2)] below meth c s₁ [] 0 0 := Stand.of_body Bd
 have e0 : s₁.heap = h0 := by rw [← hh, Bd.state]; rfl
 have N0 := Fr.nil n0
 obtain ⟨PP, hPs, pre0⟩ : ∃ PP : State → Prop, (∀ t, PP t → Steps p.tables e below (s₁.setTop (entryFrame m #[(.ref a1), (.int p1), (.int p2)] 3)) t) ∧ own_pr p e below PP s₁ (mkF m 0 #[.val (.ref a1), .val (.int p1), .val (.int p2)] []) := ⟨_, fun _ κ => κ, fun τ κ => castTop (ef_pc m a1 p1 p2) κ⟩
 obtain ⟨_, T1, Lc1, X1, hQ1, st1⟩ := own_cS X0 hx hZ (y := own_z53) hown (wd244 hw) (wd245 hw) (wd110 hw) (wd246 hw) (by decide) (rmuk l Z a0 hw [] a1 k1 vs z1 p1 h0 n0 Z0 Va EN hin.1 hin.2) 0 (by decide) (g := (mkF m 2 #[.val (.ref a1), .val (.int p1), .val (.int p2)] [(.ref a1), (.int p1)])) rfl hml.symm [(.int p1), (.ref a1)] [] (lenOf pd_uk rfl) rfl rfl (hb hby d59_2) e0 rfl
 obtain ⟨rfl, N1q, q1⟩ := hQ1
 have N1 := Fr.app N0 N1q
 obtain ⟨_, T2, Lc2, X2, hQ2, st2⟩ := own_cS X1 hx hZ (y := own_z50) hown (wd232 hw) (wd233 hw) (wd110 hw) (wd234 hw) (by decide) (rmpc l Z a0 hw [] a1 k1 z1 vs m0 p1 p2 h0 n0 Z0 EN Va g1 i0 i1 j0 j1 l0 l1) 0 (by decide) (g := (mkF m 8 #[.val (.ref a1), .val (.int p1), .val (.int p2)] [(.int p2), (.int p1), (.ref a1)])) rfl hml.symm [(.ref a1), (.int p1), (.int p2)] [] (lenOf pd_pc rfl) rfl rfl (hb hby d59_8) q1 rfl
 obtain ⟨rfl, N2q, qq2⟩ := hQ2
 have N2 := Fr.app N1 N2q
 have pre3 : own_pr p e below PP T2 (mkF m 11 #[.val (.ref a1), .val (.int p1), .val (.int p2)] []) := fun τ κ => pre0 τ (by
  show own_st p e below s₁ (mkF m 0 #[.val (.ref a1), .val (.int p1), .val (.int p2)] []) _
  refine XS.iloadN X0.here hx rfl (hb hby d59_0) rfl ?_
  refine XS.aloadN X0.here hx rfl (hb hby d59_1) rfl rfl ?_
  refine st1 _ ?_
  refine XS.aloadN X1.here hx rfl (hb hby d59_5) rfl rfl ?_
  refine XS.iloadN X1.here hx rfl (hb hby d59_6) rfl ?_
  refine XS.iloadN X1.here hx rfl (hb hby d59_7) rfl ?_
  refine st2 _ ?_
  exact κ)
 obtain ⟨fs4, hr4, hrun4, hended4, hW4, hsame4⟩ := X2.leave (v := none) (fun _ => rfl)
 refine ⟨_, _, hPs _ (pre3 _ ?_), hrun4, hended4, _, _, rfl, ?_, ⟨_, rfl⟩, hW4, hsame4.mono (by decide) (by decide)⟩
 ·show own_st p e below T2 (mkF m 11 #[.val (.ref a1), .val (.int p1), .val (.int p2)] []) _
  exact X2.returnOut hx Bd.returns (hb hby d59_11) hr4
 ·show Qpsb Z a1 k1 z1 vs m0 p1 p2 h0 n0 _ T2.heap _
  exact ⟨rfl, N2, qq2⟩

theorem d36_0 : own_D own_c48 0 (.iload_n 0) 1 := by decide +kernel
theorem d36_1 : own_D own_c48 1 (.sipush 255) 3 := by decide +kernel
theorem d36_4 : own_D own_c48 4 (.if_icmp .gt 7) 3 := by decide +kernel
theorem d36_7 : own_D own_c48 7 (.iconst 1) 1 := by decide +kernel
theorem d36_8 : own_D own_c48 8 (.goto 4) 3 := by decide +kernel
theorem d36_11 : own_D own_c48 11 (.iconst 0) 1 := by decide +kernel
theorem d36_12 : own_D own_c48 12 (.ireturn) 1 := by decide +kernel


def Qcc1 (Z : State) (p1 : Int32) (h0 : Heap) (n0 : Nat) (v : Option Value) (h : Heap) (L : List Loc) : Prop := v = some (.int (1 : Int32)) ∧ Fr n0 L ∧ h = h0
theorem rmcc1 (l : Launch) (Z : State) (a0 : Array Value) (hw : own_W Z a0) (ws : List Jvm.Cond) (p1 : Int32) (h0 : Heap) (n0 : Nat) (Z0 : n0 ≤ h0.size) (hp : ¬ (255 : Int32) < p1) :
  own_M l Z own_z37 own_c48 1 (some .boolean) ({ frames := 0, cells := 0, slots := 0, locals := 0 } : Room) ws #[(.int p1)] h0 (Qcc1 Z p1 h0 n0) := by
 refine MetFree.of_bodySF (plainFor_of_name pn_k4) hisR ?_
 intro p e s m args below meth c s₁ Bd hml0 hP hK
 obtain ⟨rfl, hZ, hh⟩ := hP
 have hx := Bd.exec
 have hby := Bd.bytes
 have hml : c.maxLocals = 1 := hml0
 have hown : s.vm.findClass "java/lang/StringLatin1" = some m.cls := findClass_of_methodNamed Bd.named
 have X0 : Stand p l e ({ frames := 0, cells := 0, slots := 0, locals := 0 } : Room) s m #[(.int p1)] below meth c s₁ [] 0 0 := Stand.of_body Bd
 have e0 : s₁.heap = h0 := by rw [← hh, Bd.state]; rfl
 have N0 := Fr.nil n0
 obtain ⟨PP, hPs, pre0⟩ : ∃ PP : State → Prop, (∀ t, PP t → Steps p.tables e below (s₁.setTop (entryFrame m #[(.int p1)] 1)) t) ∧ own_pr p e below PP s₁ (mkF m 0 #[.val (.int p1)] []) := ⟨_, fun _ κ => κ, fun τ κ => castTop (ef_sp m p1) κ⟩
 have pre1 : own_pr p e below PP s₁ (mkF m 12 #[.val (.int p1)] [(.int (1 : Int32))]) := fun τ κ => pre0 τ (by
  show own_st p e below s₁ (mkF m 0 #[.val (.int p1)] []) _
  refine XS.iloadN X0.here hx rfl (hb hby d36_0) rfl ?_
  refine XS.sipush X0.here hx rfl (hb hby d36_1) ?_
  refine XS.icmpNo X0.here hx rfl (hb hby d36_4) rfl (flt hp).2.2.1 ?_
  refine XS.iconst X0.here hx rfl (hb hby d36_7) ?_
  refine XS.goto X0.here hx rfl (pc0 := 8) (pc' := 12) rfl (hb hby d36_8) (by decide) (by decide) ?_
  exact κ)
 obtain ⟨fs2, hr2, hrun2, hended2, hW2, hsame2⟩ := X0.leave (v := some (.int (1 : Int32))) (fun h => by rw [Bd.returns] at h; cases h)
 refine ⟨_, _, hPs _ (pre1 _ ?_), hrun2, hended2, _, _, rfl, ?_, ⟨_, rfl⟩, hW2, hsame2.mono (by decide) (by decide)⟩
 ·show own_st p e below s₁ (mkF m 12 #[.val (.int p1)] [(.int (1 : Int32))]) _
  exact retN X0 hx (t := .boolean) Bd.returns (by simp) (hb hby d36_12) hr2
 ·show Qcc1 Z p1 h0 n0 _ s₁.heap _
  rw [e0]
  exact ⟨rfl, N0, rfl⟩


def Qcc0 (Z : State) (p1 : Int32) (h0 : Heap) (n0 : Nat) (v : Option Value) (h : Heap) (L : List Loc) : Prop := v = some (.int (0 : Int32)) ∧ Fr n0 L ∧ h = h0
theorem rmcc0 (l : Launch) (Z : State) (a0 : Array Value) (hw : own_W Z a0) (ws : List Jvm.Cond) (p1 : Int32) (h0 : Heap) (n0 : Nat) (Z0 : n0 ≤ h0.size) (hp : (255 : Int32) < p1) :
  own_M l Z own_z37 own_c48 1 (some .boolean) ({ frames := 0, cells := 0, slots := 0, locals := 0 } : Room) ws #[(.int p1)] h0 (Qcc0 Z p1 h0 n0) := by
 refine MetFree.of_bodySF (plainFor_of_name pn_k4) hisR ?_
 intro p e s m args below meth c s₁ Bd hml0 hP hK
 obtain ⟨rfl, hZ, hh⟩ := hP
 have hx := Bd.exec
 have hby := Bd.bytes
 have hml : c.maxLocals = 1 := hml0
 have hown : s.vm.findClass "java/lang/StringLatin1" = some m.cls := findClass_of_methodNamed Bd.named
 have X0 : Stand p l e ({ frames := 0, cells := 0, slots := 0, locals := 0 } : Room) s m #[(.int p1)] below meth c s₁ [] 0 0 := Stand.of_body Bd
 have e0 : s₁.heap = h0 := by rw [← hh, Bd.state]; rfl
 have N0 := Fr.nil n0
 obtain ⟨PP, hPs, pre0⟩ : ∃ PP : State → Prop, (∀ t, PP t → Steps p.tables e below (s₁.setTop (entryFrame m #[(.int p1)] 1)) t) ∧ own_pr p e below PP s₁ (mkF m 0 #[.val (.int p1)] []) := ⟨_, fun _ κ => κ, fun τ κ => castTop (ef_sp m p1) κ⟩
 have pre1 : own_pr p e below PP s₁ (mkF m 12 #[.val (.int p1)] [(.int (0 : Int32))]) := fun τ κ => pre0 τ (by
  show own_st p e below s₁ (mkF m 0 #[.val (.int p1)] []) _
  refine XS.iloadN X0.here hx rfl (hb hby d36_0) rfl ?_
  refine XS.sipush X0.here hx rfl (hb hby d36_1) ?_
  refine XS.icmpYes X0.here hx rfl (pc0 := 4) (pc' := 11) rfl (hb hby d36_4) rfl (tlt hp).2.2.1 (by decide) (by decide) ?_
  refine XS.iconst X0.here hx rfl (hb hby d36_11) ?_
  exact κ)
 obtain ⟨fs2, hr2, hrun2, hended2, hW2, hsame2⟩ := X0.leave (v := some (.int (0 : Int32))) (fun h => by rw [Bd.returns] at h; cases h)
 refine ⟨_, _, hPs _ (pre1 _ ?_), hrun2, hended2, _, _, rfl, ?_, ⟨_, rfl⟩, hW2, hsame2.mono (by decide) (by decide)⟩
 ·show own_st p e below s₁ (mkF m 12 #[.val (.int p1)] [(.int (0 : Int32))]) _
  exact retN X0 hx (t := .boolean) Bd.returns (by simp) (hb hby d36_12) hr2
 ·show Qcc0 Z p1 h0 n0 _ s₁.heap _
  rw [e0]
  exact ⟨rfl, N0, rfl⟩

theorem d34_0 : own_D own_c49 0 (.aload_n 0) 1 := by decide +kernel
theorem d34_1 : own_D own_c49 1 (.aload_n 0) 1 := by decide +kernel
theorem d34_2 : own_D own_c49 2 (.getfield 79) 3 := by decide +kernel
theorem d34_5 : own_D own_c49 5 (.iconst 1) 1 := by decide +kernel
theorem d34_6 : own_D own_c49 6 (.iadd) 1 := by decide +kernel
theorem d34_7 : own_D own_c49 7 (.invokevirtual 100) 3 := by decide +kernel
theorem d34_10 : own_D own_c49 10 (.aload_n 0) 1 := by decide +kernel
theorem d34_11 : own_D own_c49 11 (.invokevirtual 83) 3 := by decide +kernel
theorem d34_14 : own_D own_c49 14 (.ifCond .eq 31) 3 := by decide +kernel
theorem d34_17 : own_D own_c49 17 (.iload_n 1) 1 := by decide +kernel
theorem d34_18 : own_D own_c49 18 (.invokestatic 191) 3 := by decide +kernel
theorem d34_21 : own_D own_c49 21 (.ifCond .eq 24) 3 := by decide +kernel
theorem d34_24 : own_D own_c49 24 (.aload_n 0) 1 := by decide +kernel
theorem d34_25 : own_D own_c49 25 (.getfield 15) 3 := by decide +kernel
theorem d34_28 : own_D own_c49 28 (.aload_n 0) 1 := by decide +kernel
theorem d34_29 : own_D own_c49 29 (.dup) 1 := by decide +kernel
theorem d34_30 : own_D own_c49 30 (.getfield 79) 3 := by decide +kernel
theorem d34_33 : own_D own_c49 33 (.dup_x1) 1 := by decide +kernel
theorem d34_34 : own_D own_c49 34 (.iconst 1) 1 := by decide +kernel
theorem d34_35 : own_D own_c49 35 (.iadd) 1 := by decide +kernel
theorem d34_36 : own_D own_c49 36 (.putfield 79) 3 := by decide +kernel
theorem d34_39 : own_D own_c49 39 (.iload_n 1) 1 := by decide +kernel
theorem d34_40 : own_D own_c49 40 (.i2b) 1 := by decide +kernel
theorem d34_41 : own_D own_c49 41 (.bastore) 1 := by decide +kernel
theorem d34_42 : own_D own_c49 42 (.goto 33) 3 := by decide +kernel
theorem d34_45 : own_D own_c49 45 (.aload_n 0) 1 := by decide +kernel
theorem d34_46 : own_D own_c49 46 (.invokevirtual 83) 3 := by decide +kernel
theorem d34_49 : own_D own_c49 49 (.ifCond .eq 7) 3 := by decide +kernel
theorem d34_52 : own_D own_c49 52 (.aload_n 0) 1 := by decide +kernel
theorem d34_53 : own_D own_c49 53 (.invokevirtual 195) 3 := by decide +kernel
theorem d34_56 : own_D own_c49 56 (.aload_n 0) 1 := by decide +kernel
theorem d34_57 : own_D own_c49 57 (.getfield 15) 3 := by decide +kernel
theorem d34_60 : own_D own_c49 60 (.aload_n 0) 1 := by decide +kernel
theorem d34_61 : own_D own_c49 61 (.dup) 1 := by decide +kernel
theorem d34_62 : own_D own_c49 62 (.getfield 79) 3 := by decide +kernel
theorem d34_65 : own_D own_c49 65 (.dup_x1) 1 := by decide +kernel
theorem d34_66 : own_D own_c49 66 (.iconst 1) 1 := by decide +kernel
theorem d34_67 : own_D own_c49 67 (.iadd) 1 := by decide +kernel
theorem d34_68 : own_D own_c49 68 (.putfield 79) 3 := by decide +kernel
theorem d34_71 : own_D own_c49 71 (.iload_n 1) 1 := by decide +kernel
theorem d34_72 : own_D own_c49 72 (.invokestatic 197) 3 := by decide +kernel
theorem d34_75 : own_D own_c49 75 (.aload_n 0) 1 := by decide +kernel
theorem d34_76 : own_D own_c49 76 (.areturn) 1 := by decide +kernel

theorem pd_ap : parseMethodDescriptor "(C)Ljava/lang/AbstractStringBuilder;" = some ⟨[.char], some (.object "java/lang/AbstractStringBuilder")⟩ := by decide +kernel

def Qap (Z : State) (b t : Addr) (cs : List Int32) (p1 : Int32) (C k : Nat) (h0 : Heap) (n0 : Nat) (v : Option Value) (h : Heap) (L : List Loc) : Prop := v = some (.ref b) ∧ Fr n0 L ∧ ∃ (t' : Addr) (C' : Nat), Keep h0 h [b, t] ∧ (t' = t ∨ h0.size ≤ t') ∧ own_sbd Z h b t' (cs ++ [p1]) C' ∧ (C' = k ∨ C' = 2 * k + 2)
theorem rmap (l : Launch) (Z : State) (a0 : Array Value) (hw : own_W Z a0) (ws : List Jvm.Cond) (b t : Addr) (cs : List Int32) (p1 : Int32) (C k : Nat) (h0 : Heap) (n0 : Nat) (Z0 : n0 ≤ h0.size) (SBd : own_sbd Z h0 b t cs C) (EN : own_env Z h0) (g1 : n0 ≤ b) (g2 : n0 ≤ t) (hk : k ≤ 3) (hC : C = k ∨ C = 2 * k + 2) (hl : cs.length < 2 * k) (hbd : ∀ c ∈ cs, own_b c) :
  own_M l Z own_z35 own_c49 2 (some (.object "java/lang/AbstractStringBuilder")) ({ frames := 6, cells := 2, slots := 32, locals := 92 } : Room) ws #[(.ref b), (.int p1)] h0 (Qap Z b t cs p1 C k h0 n0) := by
 refine MetFree.of_bodySF (plainFor_of_name pn_k7) hisR ?_
 intro p e s m args below meth c s₁ Bd hml0 hP hK
 obtain ⟨rfl, hZ, hh⟩ := hP
 have hx := Bd.exec
 have hby := Bd.bytes
 have hml : c.maxLocals = 2 := hml0
 have hown : s.vm.findClass "java/lang/AbstractStringBuilder" = some m.cls := findClass_of_methodNamed Bd.named
 have X0 : Stand p l e ({ frames := 6, cells := 2, slots := 32, locals := 92 } : Room) s m #[(.ref b), (.int p1)] below meth c s₁ [] 0 0 := Stand.of_body Bd
 have e0 : s₁.heap = h0 := by rw [← hh, Bd.state]; rfl
 have N0 := Fr.nil n0
 obtain ⟨PP, hPs, pre0⟩ : ∃ PP : State → Prop, (∀ t, PP t → Steps p.tables e below (s₁.setTop (entryFrame m #[(.ref b), (.int p1)] 2)) t) ∧ own_pr p e below PP s₁ (mkF m 0 #[.val (.ref b), .val (.int p1)] []) := ⟨_, fun _ κ => κ, fun τ κ => castTop (ef_gc m b p1) κ⟩
 have SB0 := SBd
 obtain ⟨kb, cd, N, vs, E1, Fv, Fc, Fn, Fm, Et, Va, hbb⟩ := SB0
 obtain ⟨T1, X1, e1, st1⟩ := getF X0 hx hZ hown (host := "") (Or.inl (wd87 hw)) Via.refl e0 Fn (g := (mkF m 2 #[.val (.ref b), .val (.int p1)] [(.ref b), (.ref b)])) rfl rfl (hb hby d34_2)
 obtain ⟨_, T2, Lc2, X2, hQ2, st2⟩ := own_cV X1 hx hZ (y := own_z36) (z := own_z36) hown (wd177 hw) (own_decl (wd178 hw) (wd181 hw)) (wd180 hw) rfl (wd180 hw) (wd178 hw) (wd181 hw) (wd53 hw) (by decide) (rmec l Z a0 hw [] b t cs C k h0 n0 Z0 SBd g1 hk hC hl) E1 0 (by decide) (g := (mkF m 7 #[.val (.ref b), .val (.int p1)] [(.int ((Int32.ofNat cs.length) + (1 : Int32))), (.ref b)])) rfl hml.symm [(.int ((Int32.ofNat cs.length) + (1 : Int32)))] [] (lenOf pd_ai rfl) rfl rfl (hb hby d34_7) e1 rfl
 obtain ⟨rfl, N2q, u2, D2, Kp2, ht2, SB2, hlt2, hD2⟩ := hQ2
 have N2 := Fr.app N0 N2q
 have ENq := EN.keep Kp2 E1.nostat
 obtain ⟨kc, cdq, Nq, ws, G1, Gv, Gc, Gn, Gm, Gt, Ga, hbb⟩ := SB2
 have gu : n0 ≤ u2 := by
  rcases ht2 with q | q
  ·rw [q]; exact g2
  ·exact Nat.le_trans Z0 q
 have hmu : u2 ∈ [b, t] ∨ h0.size ≤ u2 := by
  rcases ht2 with q | q
  ·exact Or.inl (by rw [q]; simp)
  ·exact Or.inr q
 have Kq0 : Keep h0 T2.heap [b, t] := (Keep.refl h0 [b, t]).trans Kp2 (fun x hx => Or.inl (by cases List.mem_singleton.mp hx; simp))
 have pre3 : own_pr p e below PP T2 (mkF m 10 #[.val (.ref b), .val (.int p1)] []) := fun τ κ => pre0 τ (by
  show own_st p e below s₁ (mkF m 0 #[.val (.ref b), .val (.int p1)] []) _
  refine XS.aloadN X0.here hx rfl (hb hby d34_0) rfl rfl ?_
  refine XS.aloadN X0.here hx rfl (hb hby d34_1) rfl rfl ?_
  refine st1 _ ?_
  refine XS.iconst X1.here hx rfl (hb hby d34_5) ?_
  refine XS.iadd X1.here hx rfl (hb hby d34_6) rfl ?_
  refine st2 _ ?_
  exact κ)
 rcases hbb with ⟨rfl, rfl, hxx, r, hr, rfl⟩ | ⟨rfl, rfl, hxx, r, hr, rfl⟩
 ·obtain ⟨_, T4, Lc4, X4, hQ4, st4⟩ := own_cV X2 hx hZ (y := own_z15) (z := own_z15) hown (wd182 hw) (wd90 hw) (wd92 hw) rfl (wd92 hw) (wd91 hw) (wd93 hw) (wd53 hw) (by decide) (rmbz0 l Z a0 hw [] b T2.heap n0 (Nat.le_trans Z0 Kp2.1) ENq Gc) G1 0 (by decide) (g := (mkF m 11 #[.val (.ref b), .val (.int p1)] [(.ref b)])) rfl hml.symm [] [] (lenOf pd_l1 rfl) rfl rfl (hb hby d34_11) rfl rfl
  obtain ⟨rfl, N4q, q4⟩ := hQ4
  have N4 := Fr.app N2 N4q
  have pre5 : own_pr p e below PP T4 (mkF m 18 #[.val (.ref b), .val (.int p1)] [(.int p1)]) := fun τ κ => pre3 τ (by
   show own_st p e below T2 (mkF m 10 #[.val (.ref b), .val (.int p1)] []) _
   refine XS.aloadN X2.here hx rfl (hb hby d34_10) rfl rfl ?_
   refine st4 _ ?_
   refine XS.ifNo X4.here hx rfl (hb hby d34_14) rfl ((if0 _ _).trans (feq (by decide : ¬ ((1 : Int32) = (0 : Int32)))).1) ?_
   refine XS.iloadN X4.here hx rfl (hb hby d34_17) rfl ?_
   exact κ)
  by_cases hcw : (255 : Int32) < p1
  ·obtain ⟨_, T6, Lc6, X6, hQ6, st6⟩ := own_cS X4 hx hZ (y := own_z37) hown (wd183 hw) (wd184 hw) (wd130 hw) (wd185 hw) (by decide) (rmcc0 l Z a0 hw [] p1 T2.heap n0 (Nat.le_trans Z0 Kp2.1) hcw) 0 (by decide) (g := (mkF m 18 #[.val (.ref b), .val (.int p1)] [(.int p1)])) rfl hml.symm [(.int p1)] [] (lenOf pd_sp rfl) rfl rfl (hb hby d34_18) q4 rfl
   obtain ⟨rfl, N6q, q6⟩ := hQ6
   have N6 := Fr.app N4 N6q
   obtain ⟨_, T7, Lc7, X7, hQ7, st7⟩ := own_cV X6 hx hZ (y := own_z15) (z := own_z15) hown (wd182 hw) (wd90 hw) (wd92 hw) rfl (wd92 hw) (wd91 hw) (wd93 hw) (wd53 hw) (by decide) (rmbz0 l Z a0 hw [] b T2.heap n0 (Nat.le_trans Z0 Kp2.1) ENq Gc) G1 0 (by decide) (g := (mkF m 46 #[.val (.ref b), .val (.int p1)] [(.ref b)])) rfl hml.symm [] [] (lenOf pd_l1 rfl) rfl rfl (hb hby d34_46) q6 rfl
   obtain ⟨rfl, N7q, q7⟩ := hQ7
   have N7 := Fr.app N6 N7q
   obtain ⟨_, T8, Lc8, X8, hQ8, st8⟩ := own_cV X7 hx hZ (y := own_z55) (z := own_z55) hown (wd251 hw) (own_decl (wd252 hw) (wd255 hw)) (wd254 hw) rfl (wd254 hw) (wd252 hw) (wd255 hw) (wd53 hw) (by decide) (rmbif l Z a0 hw [] b u2 kc cs D2 r T2.heap n0 (Nat.le_trans Z0 Kp2.1) G1 Gv Gc Gn Gm Ga hr (by omega) (by omega) hbd hxx ENq g1) G1 0 (by decide) (g := (mkF m 53 #[.val (.ref b), .val (.int p1)] [(.ref b)])) rfl hml.symm [] [] (lenOf pd_bif rfl) rfl rfl (hb hby d34_53) q7 rfl
   obtain ⟨rfl, N8q, u8, kd8, Kp8, gz8, I18, Iv8, Ic8, In8, Im8, It8, Ia8⟩ := hQ8
   have N8 := Fr.app N7 N8q
   have ENr := ENq.keep Kp8 G1.nostat
   have hz9 : h0.size ≤ u8 := Nat.le_trans Kq0.1 gz8
   have gu3 : n0 ≤ u8 := Nat.le_trans Z0 hz9
   obtain ⟨T9, X9, e9, st9⟩ := getF X8 hx hZ hown (host := "") (Or.inl (wd57 hw)) Via.refl rfl Iv8 (g := (mkF m 57 #[.val (.ref b), .val (.int p1)] [(.ref b)])) rfl rfl (hb hby d34_57)
   obtain ⟨T10, X10, e10, st10⟩ := getF X9 hx hZ hown (host := "") (Or.inl (wd87 hw)) Via.refl e9 In8 (g := (mkF m 62 #[.val (.ref b), .val (.int p1)] [(.ref b), (.ref b), (.ref u8)])) rfl rfl (hb hby d34_62)
   obtain ⟨T11, h11, X11, e11, W11, st11⟩ := putF X10 hx hZ hown (host := "") (Or.inl (wd87 hw)) Via.refl e10 In8 I18 (Or.inl (wd88 hw)) (wd33 hw) (ty := .int) (by decide) rfl rfl (g := (mkF m 68 #[.val (.ref b), .val (.int p1)] [(.int ((Int32.ofNat cs.length) + (1 : Int32))), (.ref b), (.int (Int32.ofNat cs.length)), (.ref u8)])) rfl rfl (hb hby d34_68)
   have N11 := Fr.snoc X11 N8 g1
   have I18_11 := I18.wr W11
   have Iv8_11 := Iv8.other W11 (Or.inr (slot_ne (Or.inl (wd58 hw)) (Or.inl (wd88 hw)) (by decide) (t := (.array .byte)) (t' := .int) (by decide) (by decide)))
   have Ic8_11 := Ic8.other W11 (Or.inr (slot_ne (Or.inl (wd60 hw)) (Or.inl (wd88 hw)) (by decide) (t := .byte) (t' := .int) (by decide) (by decide)))
   have In8_11 := In8.same W11
   have Im8_11 := Im8.other W11 (Or.inr (slot_ne (Or.inl (wd276 hw)) (Or.inl (wd88 hw)) (by decide) (t := .boolean) (t' := .int) (by decide) (by decide)))
   have It8_11 := It8.wr W11
   have Ia8_11 := Ia8.other W11 (Ne.symm (I18.neArv Ia8 (wd33 hw)))
   have ENr_11 := ENr.wr W11 trivial
   have hJ : (Int32.ofNat cs.length <<< ((1 : Int32) &&& 31)) = Int32.ofNat (2 * cs.length) := own_shl _ (by omega)
   have hJ1 : ((Int32.ofNat cs.length <<< ((1 : Int32) &&& 31)) + (1 : Int32)) = Int32.ofNat (2 * cs.length + 1) := by rw [hJ]; exact own_s1 _ (by omega)
   have hvl : (own_wb cs ++ List.replicate (2 * r) (Value.int 0)).length = 2 * D2 := by simp [own_wlen]; omega
   have nbu := I18_11.neArv Ia8_11 (wd33 hw)
   obtain ⟨_, T12, Lc12, X12, hQ12, st12⟩ := own_cS X11 hx hZ (y := own_z61) hown (wd272 hw) (wd273 hw) (wd110 hw) (wd274 hw) (by decide) (rmpsb l Z a0 hw [] u8 kd8 (Int32.ofNat (2 * D2)) (own_wb cs ++ List.replicate (2 * r) (Value.int 0)) (2 * cs.length) (Int32.ofNat cs.length) p1 h11 n0 (Nat.le_trans (Nat.le_trans (Nat.le_trans Z0 Kp2.1) Kp8.1) (Nat.le_of_eq W11.size.symm)) ENr_11 Ia8_11 gu3 (by rw [hJ]; exact ⟨own_n0 _ (by omega), own_nl2 _ (by omega) _ (by omega)⟩) (by rw [hJ1]; exact ⟨own_n0 _ (by omega), own_nl2 _ (by omega) _ (by omega)⟩) (by rw [hJ]; exact own_nn _ (by omega)) (by rw [hJ1]; exact own_nn _ (by omega)) (by rw [hvl]; omega) (by rw [hvl]; omega) ⟨own_n0 _ (by omega), by rw [own_shr _ (by omega)]; exact own_nlt _ (by omega) _ (by omega)⟩) 0 (by decide) (g := (mkF m 72 #[.val (.ref b), .val (.int p1)] [(.int p1), (.int (Int32.ofNat cs.length)), (.ref u8)])) rfl hml.symm [(.ref u8), (.int (Int32.ofNat cs.length)), (.int p1)] [] (lenOf pd_pc rfl) rfl rfl (hb hby d34_72) e11 rfl
   obtain ⟨rfl, N12q, Kp12, Vq12⟩ := hQ12
   have N12 := Fr.app N11 N12q
   have I18_12 := I18_11.keep Kp12
   have Iv8_12 := Iv8_11.keep Kp12 (ninS nbu nin0)
   have Ic8_12 := Ic8_11.keep Kp12 (ninS nbu nin0)
   have In8_12 := In8_11.keep Kp12 (ninS nbu nin0)
   have Im8_12 := Im8_11.keep Kp12 (ninS nbu nin0)
   have It8_12 := It8_11.keep Kp12
   have ENr_12 := ENr_11.keep Kp12 Ia8_11.nostat
   have pre13 : own_pr p e below PP T12 (mkF m 76 #[.val (.ref b), .val (.int p1)] [(.ref b)]) := fun τ κ => pre5 τ (by
    show own_st p e below T4 (mkF m 18 #[.val (.ref b), .val (.int p1)] [(.int p1)]) _
    refine st6 _ ?_
    refine XS.ifYes X6.here hx rfl (pc0 := 21) (pc' := 45) rfl (hb hby d34_21) rfl ((if0 _ _).trans (teq (by decide : (0 : Int32) = (0 : Int32))).1) (by decide) (by decide) ?_
    refine XS.aloadN X6.here hx rfl (hb hby d34_45) rfl rfl ?_
    refine st7 _ ?_
    refine XS.ifNo X7.here hx rfl (hb hby d34_49) rfl ((if0 _ _).trans (feq (by decide : ¬ ((1 : Int32) = (0 : Int32)))).1) ?_
    refine XS.aloadN X7.here hx rfl (hb hby d34_52) rfl rfl ?_
    refine st8 _ ?_
    refine XS.aloadN X8.here hx rfl (hb hby d34_56) rfl rfl ?_
    refine st9 _ ?_
    refine XS.aloadN X9.here hx rfl (hb hby d34_60) rfl rfl ?_
    refine XS.dup X9.here hx rfl (hb hby d34_61) rfl rfl ?_
    refine st10 _ ?_
    refine XS.dupX1 X10.here hx rfl (hb hby d34_65) rfl rfl rfl ?_
    refine XS.iconst X10.here hx rfl (hb hby d34_66) ?_
    refine XS.iadd X10.here hx rfl (hb hby d34_67) rfl ?_
    refine st11 _ ?_
    refine XS.iloadN X11.here hx rfl (hb hby d34_71) rfl ?_
    refine st12 _ ?_
    refine XS.aloadN X12.here hx rfl (hb hby d34_75) rfl rfl ?_
    exact κ)
   obtain ⟨fs14, hr14, hrun14, hended14, hW14, hsame14⟩ := X12.leave (v := some (.ref b)) (fun h => by rw [Bd.returns] at h; cases h)
   refine ⟨_, _, hPs _ (pre13 _ ?_), hrun14, hended14, _, _, rfl, ?_, ⟨_, rfl⟩, hW14, hsame14.mono (by decide) (by decide)⟩
   ·show own_st p e below T12 (mkF m 76 #[.val (.ref b), .val (.int p1)] [(.ref b)]) _
    exact retOut X12 hx (t := (.object "java/lang/AbstractStringBuilder")) Bd.returns rfl (Or.inr (Or.inr (Or.inr (Or.inr ⟨rfl, rfl, rfl⟩)))) (hb hby d34_76) hr14
   ·show Qap Z b t cs p1 C k h0 n0 _ T12.heap _
    have f9 := In8_12
    rw [own_s1 _ (by omega), show cs.length + 1 = (cs ++ [p1]).length from by simp] at f9
    have q9 := Vq12
    exact ⟨rfl, N12, u8, D2, (((Kq0.trans Kp8 (fun x hx => Or.inl (by cases List.mem_singleton.mp hx; simp))).wr W11 (Or.inl (List.mem_cons_self))).trans Kp12 (fun x hx => by cases List.mem_singleton.mp hx; exact (Or.inr hz9))), (Or.inr hz9), ⟨_, _, _, _, I18_12, Iv8_12, Ic8_12, f9, Im8_12, It8_12, q9, (own_bbW ⟨p1, by simp, hcw⟩ hr hlt2)⟩, hD2⟩
  ·obtain ⟨_, T15, Lc15, X15, hQ15, st15⟩ := own_cS X4 hx hZ (y := own_z37) hown (wd183 hw) (wd184 hw) (wd130 hw) (wd185 hw) (by decide) (rmcc1 l Z a0 hw [] p1 T2.heap n0 (Nat.le_trans Z0 Kp2.1) hcw) 0 (by decide) (g := (mkF m 18 #[.val (.ref b), .val (.int p1)] [(.int p1)])) rfl hml.symm [(.int p1)] [] (lenOf pd_sp rfl) rfl rfl (hb hby d34_18) q4 rfl
   obtain ⟨rfl, N15q, q15⟩ := hQ15
   have N15 := Fr.app N4 N15q
   obtain ⟨T16, X16, e16, st16⟩ := getF X15 hx hZ hown (host := "") (Or.inl (wd57 hw)) Via.refl q15 Gv (g := (mkF m 25 #[.val (.ref b), .val (.int p1)] [(.ref b)])) rfl rfl (hb hby d34_25)
   obtain ⟨T17, X17, e17, st17⟩ := getF X16 hx hZ hown (host := "") (Or.inl (wd87 hw)) Via.refl e16 Gn (g := (mkF m 30 #[.val (.ref b), .val (.int p1)] [(.ref b), (.ref b), (.ref u2)])) rfl rfl (hb hby d34_30)
   obtain ⟨T18, h18, X18, e18, W18, st18⟩ := putF X17 hx hZ hown (host := "") (Or.inl (wd87 hw)) Via.refl e17 Gn G1 (Or.inl (wd88 hw)) (wd33 hw) (ty := .int) (by decide) rfl rfl (g := (mkF m 36 #[.val (.ref b), .val (.int p1)] [(.int ((Int32.ofNat cs.length) + (1 : Int32))), (.ref b), (.int (Int32.ofNat cs.length)), (.ref u2)])) rfl rfl (hb hby d34_36)
   have N18 := Fr.snoc X18 N15 g1
   have G1_18 := G1.wr W18
   have Gv_18 := Gv.other W18 (Or.inr (slot_ne (Or.inl (wd58 hw)) (Or.inl (wd88 hw)) (by decide) (t := (.array .byte)) (t' := .int) (by decide) (by decide)))
   have Gc_18 := Gc.other W18 (Or.inr (slot_ne (Or.inl (wd60 hw)) (Or.inl (wd88 hw)) (by decide) (t := .byte) (t' := .int) (by decide) (by decide)))
   have Gn_18 := Gn.same W18
   have Gm_18 := Gm.other W18 (Or.inr (slot_ne (Or.inl (wd276 hw)) (Or.inl (wd88 hw)) (by decide) (t := .boolean) (t' := .int) (by decide) (by decide)))
   have Gt_18 := Gt.wr W18
   have Ga_18 := Ga.other W18 (Ne.symm (G1.neArv Ga (wd33 hw)))
   have ENq_18 := ENq.wr W18 trivial
   have l0 : cs.length < ((cs.map fun c => Value.int (own_lo8 c)) ++ List.replicate r (Value.int 0)).length := by simp; omega
   have Vc19 := Ga_18
   obtain ⟨cl19, Ar19, qq19, sz19, nn19, Ha19, Gf19⟩ := Vc19
   have hin19 : ¬ ((Int32.ofNat cs.length) < 0 ∨ cl19.slots.size ≤ ((Int32.ofNat cs.length)).toNatClampNeg) := inb_of sz19 ⟨own_n0 _ (by omega), own_nlt _ (by omega) _ (by omega)⟩
   obtain ⟨T20, h20, X20, e20, W20, st20⟩ := stB X18 hx hZ e18 Ar19 (j := (Int32.ofNat cs.length)) hin19 (g := (mkF m 41 #[.val (.ref b), .val (.int p1)] [(.int (p1.toInt8.toInt32)), (.int (Int32.ofNat cs.length)), (.ref u2)])) rfl rfl (hb hby d34_41)
   have N20 := Fr.snoc X20 N18 gu
   have G1_20 := G1_18.wr W20
   have Gv_20 := Gv_18.other W20 (Or.inl (G1.neArv Ga (wd33 hw)))
   have Gc_20 := Gc_18.other W20 (Or.inl (G1.neArv Ga (wd33 hw)))
   have Gn_20 := Gn_18.other W20 (Or.inl (G1.neArv Ga (wd33 hw)))
   have Gm_20 := Gm_18.other W20 (Or.inl (G1.neArv Ga (wd33 hw)))
   have Gt_20 := Gt_18.wr W20
   have Ga_20 := Arv.set Ar19 qq19 sz19 nn19 Ha19 Gf19 (fits_nar_byte _) W20 cs.length (own_nn _ (by omega)) (by first | exact l0 | (rw [List.length_set]; exact l1))
   have ENq_20 := ENq_18.wr W20 trivial
   have pre21 : own_pr p e below PP T20 (mkF m 76 #[.val (.ref b), .val (.int p1)] [(.ref b)]) := fun τ κ => pre5 τ (by
    show own_st p e below T4 (mkF m 18 #[.val (.ref b), .val (.int p1)] [(.int p1)]) _
    refine st15 _ ?_
    refine XS.ifNo X15.here hx rfl (hb hby d34_21) rfl ((if0 _ _).trans (feq (by decide : ¬ ((1 : Int32) = (0 : Int32)))).1) ?_
    refine XS.aloadN X15.here hx rfl (hb hby d34_24) rfl rfl ?_
    refine st16 _ ?_
    refine XS.aloadN X16.here hx rfl (hb hby d34_28) rfl rfl ?_
    refine XS.dup X16.here hx rfl (hb hby d34_29) rfl rfl ?_
    refine st17 _ ?_
    refine XS.dupX1 X17.here hx rfl (hb hby d34_33) rfl rfl rfl ?_
    refine XS.iconst X17.here hx rfl (hb hby d34_34) ?_
    refine XS.iadd X17.here hx rfl (hb hby d34_35) rfl ?_
    refine st18 _ ?_
    refine XS.iloadN X18.here hx rfl (hb hby d34_39) rfl ?_
    refine XS.i2b X18.here hx rfl (hb hby d34_40) rfl ?_
    refine st20 _ ?_
    refine XS.goto X20.here hx rfl (pc0 := 42) (pc' := 75) rfl (hb hby d34_42) (by decide) (by decide) ?_
    refine XS.aloadN X20.here hx rfl (hb hby d34_75) rfl rfl ?_
    exact κ)
   obtain ⟨fs22, hr22, hrun22, hended22, hW22, hsame22⟩ := X20.leave (v := some (.ref b)) (fun h => by rw [Bd.returns] at h; cases h)
   refine ⟨_, _, hPs _ (pre21 _ ?_), hrun22, hended22, _, _, rfl, ?_, ⟨_, rfl⟩, hW22, hsame22.mono (by decide) (by decide)⟩
   ·show own_st p e below T20 (mkF m 76 #[.val (.ref b), .val (.int p1)] [(.ref b)]) _
    exact retOut X20 hx (t := (.object "java/lang/AbstractStringBuilder")) Bd.returns rfl (Or.inr (Or.inr (Or.inr (Or.inr ⟨rfl, rfl, rfl⟩)))) (hb hby d34_76) hr22
   ·show Qap Z b t cs p1 C k h0 n0 _ T20.heap _
    rw [e20]
    have f9 := Gn_20
    rw [own_s1 _ (by omega), show cs.length + 1 = (cs ++ [p1]).length from by simp] at f9
    have q9 := Ga_20
    rw [own_lo] at q9
    exact ⟨rfl, N20, u2, D2, ((Kq0.wr W18 (Or.inl (List.mem_cons_self))).wr W20 hmu), ht2, ⟨_, _, _, _, G1_20, Gv_20, Gc_20, f9, Gm_20, Gt_20, q9, (own_bbL hxx hcw hr hlt2)⟩, hD2⟩
 ·obtain ⟨_, T23, Lc23, X23, hQ23, st23⟩ := own_cV X2 hx hZ (y := own_z15) (z := own_z15) hown (wd182 hw) (wd90 hw) (wd92 hw) rfl (wd92 hw) (wd91 hw) (wd93 hw) (wd53 hw) (by decide) (rmbz1 l Z a0 hw [] b T2.heap n0 (Nat.le_trans Z0 Kp2.1) ENq Gc) G1 0 (by decide) (g := (mkF m 11 #[.val (.ref b), .val (.int p1)] [(.ref b)])) rfl hml.symm [] [] (lenOf pd_l1 rfl) rfl rfl (hb hby d34_11) rfl rfl
  obtain ⟨rfl, N23q, q23⟩ := hQ23
  have N23 := Fr.app N2 N23q
  obtain ⟨_, T24, Lc24, X24, hQ24, st24⟩ := own_cV X23 hx hZ (y := own_z15) (z := own_z15) hown (wd182 hw) (wd90 hw) (wd92 hw) rfl (wd92 hw) (wd91 hw) (wd93 hw) (wd53 hw) (by decide) (rmbz1 l Z a0 hw [] b T2.heap n0 (Nat.le_trans Z0 Kp2.1) ENq Gc) G1 0 (by decide) (g := (mkF m 46 #[.val (.ref b), .val (.int p1)] [(.ref b)])) rfl hml.symm [] [] (lenOf pd_l1 rfl) rfl rfl (hb hby d34_46) q23 rfl
  obtain ⟨rfl, N24q, q24⟩ := hQ24
  have N24 := Fr.app N23 N24q
  obtain ⟨T25, X25, e25, st25⟩ := getF X24 hx hZ hown (host := "") (Or.inl (wd57 hw)) Via.refl q24 Gv (g := (mkF m 57 #[.val (.ref b), .val (.int p1)] [(.ref b)])) rfl rfl (hb hby d34_57)
  obtain ⟨T26, X26, e26, st26⟩ := getF X25 hx hZ hown (host := "") (Or.inl (wd87 hw)) Via.refl e25 Gn (g := (mkF m 62 #[.val (.ref b), .val (.int p1)] [(.ref b), (.ref b), (.ref u2)])) rfl rfl (hb hby d34_62)
  obtain ⟨T27, h27, X27, e27, W27, st27⟩ := putF X26 hx hZ hown (host := "") (Or.inl (wd87 hw)) Via.refl e26 Gn G1 (Or.inl (wd88 hw)) (wd33 hw) (ty := .int) (by decide) rfl rfl (g := (mkF m 68 #[.val (.ref b), .val (.int p1)] [(.int ((Int32.ofNat cs.length) + (1 : Int32))), (.ref b), (.int (Int32.ofNat cs.length)), (.ref u2)])) rfl rfl (hb hby d34_68)
  have N27 := Fr.snoc X27 N24 g1
  have G1_27 := G1.wr W27
  have Gv_27 := Gv.other W27 (Or.inr (slot_ne (Or.inl (wd58 hw)) (Or.inl (wd88 hw)) (by decide) (t := (.array .byte)) (t' := .int) (by decide) (by decide)))
  have Gc_27 := Gc.other W27 (Or.inr (slot_ne (Or.inl (wd60 hw)) (Or.inl (wd88 hw)) (by decide) (t := .byte) (t' := .int) (by decide) (by decide)))
  have Gn_27 := Gn.same W27
  have Gm_27 := Gm.other W27 (Or.inr (slot_ne (Or.inl (wd276 hw)) (Or.inl (wd88 hw)) (by decide) (t := .boolean) (t' := .int) (by decide) (by decide)))
  have Gt_27 := Gt.wr W27
  have Ga_27 := Ga.other W27 (Ne.symm (G1.neArv Ga (wd33 hw)))
  have ENq_27 := ENq.wr W27 trivial
  have hJ : (Int32.ofNat cs.length <<< ((1 : Int32) &&& 31)) = Int32.ofNat (2 * cs.length) := own_shl _ (by omega)
  have hJ1 : ((Int32.ofNat cs.length <<< ((1 : Int32) &&& 31)) + (1 : Int32)) = Int32.ofNat (2 * cs.length + 1) := by rw [hJ]; exact own_s1 _ (by omega)
  have hvl : (own_wb cs ++ List.replicate (2 * r) (Value.int 0)).length = 2 * D2 := by simp [own_wlen]; omega
  have nbu := G1_27.neArv Ga_27 (wd33 hw)
  obtain ⟨_, T28, Lc28, X28, hQ28, st28⟩ := own_cS X27 hx hZ (y := own_z61) hown (wd272 hw) (wd273 hw) (wd110 hw) (wd274 hw) (by decide) (rmpsb l Z a0 hw [] u2 kc (Int32.ofNat (2 * D2)) (own_wb cs ++ List.replicate (2 * r) (Value.int 0)) (2 * cs.length) (Int32.ofNat cs.length) p1 h27 n0 (Nat.le_trans (Nat.le_trans Z0 Kp2.1) (Nat.le_of_eq W27.size.symm)) ENq_27 Ga_27 gu (by rw [hJ]; exact ⟨own_n0 _ (by omega), own_nl2 _ (by omega) _ (by omega)⟩) (by rw [hJ1]; exact ⟨own_n0 _ (by omega), own_nl2 _ (by omega) _ (by omega)⟩) (by rw [hJ]; exact own_nn _ (by omega)) (by rw [hJ1]; exact own_nn _ (by omega)) (by rw [hvl]; omega) (by rw [hvl]; omega) ⟨own_n0 _ (by omega), by rw [own_shr _ (by omega)]; exact own_nlt _ (by omega) _ (by omega)⟩) 0 (by decide) (g := (mkF m 72 #[.val (.ref b), .val (.int p1)] [(.int p1), (.int (Int32.ofNat cs.length)), (.ref u2)])) rfl hml.symm [(.ref u2), (.int (Int32.ofNat cs.length)), (.int p1)] [] (lenOf pd_pc rfl) rfl rfl (hb hby d34_72) e27 rfl
  obtain ⟨rfl, N28q, Kp28, Vq28⟩ := hQ28
  have N28 := Fr.app N27 N28q
  have G1_28 := G1_27.keep Kp28
  have Gv_28 := Gv_27.keep Kp28 (ninS nbu nin0)
  have Gc_28 := Gc_27.keep Kp28 (ninS nbu nin0)
  have Gn_28 := Gn_27.keep Kp28 (ninS nbu nin0)
  have Gm_28 := Gm_27.keep Kp28 (ninS nbu nin0)
  have Gt_28 := Gt_27.keep Kp28
  have ENq_28 := ENq_27.keep Kp28 Ga_27.nostat
  have pre29 : own_pr p e below PP T28 (mkF m 76 #[.val (.ref b), .val (.int p1)] [(.ref b)]) := fun τ κ => pre3 τ (by
   show own_st p e below T2 (mkF m 10 #[.val (.ref b), .val (.int p1)] []) _
   refine XS.aloadN X2.here hx rfl (hb hby d34_10) rfl rfl ?_
   refine st23 _ ?_
   refine XS.ifYes X23.here hx rfl (pc0 := 14) (pc' := 45) rfl (hb hby d34_14) rfl ((if0 _ _).trans (teq (by decide : (0 : Int32) = (0 : Int32))).1) (by decide) (by decide) ?_
   refine XS.aloadN X23.here hx rfl (hb hby d34_45) rfl rfl ?_
   refine st24 _ ?_
   refine XS.ifYes X24.here hx rfl (pc0 := 49) (pc' := 56) rfl (hb hby d34_49) rfl ((if0 _ _).trans (teq (by decide : (0 : Int32) = (0 : Int32))).1) (by decide) (by decide) ?_
   refine XS.aloadN X24.here hx rfl (hb hby d34_56) rfl rfl ?_
   refine st25 _ ?_
   refine XS.aloadN X25.here hx rfl (hb hby d34_60) rfl rfl ?_
   refine XS.dup X25.here hx rfl (hb hby d34_61) rfl rfl ?_
   refine st26 _ ?_
   refine XS.dupX1 X26.here hx rfl (hb hby d34_65) rfl rfl rfl ?_
   refine XS.iconst X26.here hx rfl (hb hby d34_66) ?_
   refine XS.iadd X26.here hx rfl (hb hby d34_67) rfl ?_
   refine st27 _ ?_
   refine XS.iloadN X27.here hx rfl (hb hby d34_71) rfl ?_
   refine st28 _ ?_
   refine XS.aloadN X28.here hx rfl (hb hby d34_75) rfl rfl ?_
   exact κ)
  obtain ⟨fs30, hr30, hrun30, hended30, hW30, hsame30⟩ := X28.leave (v := some (.ref b)) (fun h => by rw [Bd.returns] at h; cases h)
  refine ⟨_, _, hPs _ (pre29 _ ?_), hrun30, hended30, _, _, rfl, ?_, ⟨_, rfl⟩, hW30, hsame30.mono (by decide) (by decide)⟩
  ·show own_st p e below T28 (mkF m 76 #[.val (.ref b), .val (.int p1)] [(.ref b)]) _
   exact retOut X28 hx (t := (.object "java/lang/AbstractStringBuilder")) Bd.returns rfl (Or.inr (Or.inr (Or.inr (Or.inr ⟨rfl, rfl, rfl⟩)))) (hb hby d34_76) hr30
  ·show Qap Z b t cs p1 C k h0 n0 _ T28.heap _
   have f9 := Gn_28
   rw [own_s1 _ (by omega), show cs.length + 1 = (cs ++ [p1]).length from by simp] at f9
   have q9 := Vq28
   exact ⟨rfl, N28, u2, D2, ((Kq0.wr W27 (Or.inl (List.mem_cons_self))).trans Kp28 (fun x hx => by cases List.mem_singleton.mp hx; exact hmu)), ht2, ⟨_, _, _, _, G1_28, Gv_28, Gc_28, f9, Gm_28, Gt_28, q9, (own_bbW ⟨hxx.choose, List.mem_append_left _ hxx.choose_spec.1, hxx.choose_spec.2⟩ hr hlt2)⟩, hD2⟩

theorem d33_0 : own_D own_c50 0 (.aload_n 0) 1 := by decide +kernel
theorem d33_1 : own_D own_c50 1 (.iload_n 1) 1 := by decide +kernel
theorem d33_2 : own_D own_c50 2 (.invokespecial 50) 3 := by decide +kernel
theorem d33_5 : own_D own_c50 5 (.pop) 1 := by decide +kernel
theorem d33_6 : own_D own_c50 6 (.aload_n 0) 1 := by decide +kernel
theorem d33_7 : own_D own_c50 7 (.areturn) 1 := by decide +kernel

theorem pd_sap : parseMethodDescriptor "(C)Ljava/lang/StringBuilder;" = some ⟨[.char], some (.object "java/lang/StringBuilder")⟩ := by decide +kernel

def Qsap (Z : State) (b t : Addr) (cs : List Int32) (p1 : Int32) (C k : Nat) (h0 : Heap) (n0 : Nat) (v : Option Value) (h : Heap) (L : List Loc) : Prop := v = some (.ref b) ∧ Fr n0 L ∧ ∃ (t' : Addr) (C' : Nat), Keep h0 h [b, t] ∧ (t' = t ∨ h0.size ≤ t') ∧ own_sbd Z h b t' (cs ++ [p1]) C' ∧ (C' = k ∨ C' = 2 * k + 2)
theorem rmsap (l : Launch) (Z : State) (a0 : Array Value) (hw : own_W Z a0) (ws : List Jvm.Cond) (b t : Addr) (cs : List Int32) (p1 : Int32) (C k : Nat) (h0 : Heap) (n0 : Nat) (Z0 : n0 ≤ h0.size) (SBd : own_sbd Z h0 b t cs C) (EN : own_env Z h0) (g1 : n0 ≤ b) (g2 : n0 ≤ t) (hk : k ≤ 3) (hC : C = k ∨ C = 2 * k + 2) (hl : cs.length < 2 * k) (hbd : ∀ c ∈ cs, own_b c) :
  own_M l Z own_z34 own_c50 2 (some (.object "java/lang/StringBuilder")) ({ frames := 7, cells := 2, slots := 32, locals := 105 } : Room) ws #[(.ref b), (.int p1)] h0 (Qsap Z b t cs p1 C k h0 n0) := by
 refine MetFree.of_bodySF (plainFor_of_name pn_k6) hisR ?_
 intro p e s m args below meth c s₁ Bd hml0 hP hK
 obtain ⟨rfl, hZ, hh⟩ := hP
 have hx := Bd.exec
 have hby := Bd.bytes
 have hml : c.maxLocals = 2 := hml0
 have hown : s.vm.findClass "java/lang/StringBuilder" = some m.cls := findClass_of_methodNamed Bd.named
 have X0 : Stand p l e ({ frames := 7, cells := 2, slots := 32, locals := 105 } : Room) s m #[(.ref b), (.int p1)] below meth c s₁ [] 0 0 := Stand.of_body Bd
 have e0 : s₁.heap = h0 := by rw [← hh, Bd.state]; rfl
 have N0 := Fr.nil n0
 obtain ⟨PP, hPs, pre0⟩ : ∃ PP : State → Prop, (∀ t, PP t → Steps p.tables e below (s₁.setTop (entryFrame m #[(.ref b), (.int p1)] 2)) t) ∧ own_pr p e below PP s₁ (mkF m 0 #[.val (.ref b), .val (.int p1)] []) := ⟨_, fun _ κ => κ, fun τ κ => castTop (ef_gc m b p1) κ⟩
 have SB0 := SBd
 obtain ⟨kb, cd, N, vs, E1, Fv, Fc, Fn, Fm, Et, Va, hbb⟩ := SB0
 obtain ⟨_, _, ⟨T1, L1, k1, n1⟩, -, X1, ⟨Lc1, hQ1, l1, y1, z1⟩, st1⟩ := superBack X0 hx hZ (y := own_z35) hown (wd173 hw) (own_same (wd76 hw) (wd174 hw) rfl (by decide)) (wd174 hw) (wd85 hw) (by decide) (backOf (W := 0) (rmap l Z a0 hw [] b t cs p1 C k h0 n0 Z0 SBd EN g1 g2 hk hC hl hbd) hZ (wd176 hw) (wd53 hw) (by decide) (by decide)) e0 (Ins.self E1) (g := (mkF m 2 #[.val (.ref b), .val (.int p1)] [(.int p1), (.ref b)])) rfl hml.symm (wd176 hw) (argsL := [(.int p1)]) (rest := []) (lenOf pd_ap rfl) rfl (by show 2 * 0 + _ ≤ _; exact Nat.le_of_eq rfl) (hb hby d33_2) (fun _ _ => ⟨rfl, e0, (by decide : 0 + 2 ≤ _), (by decide : 0 + 32 ≤ _)⟩)
 dsimp only [Pt.U, Pt.locs, Pt.cells, Pt.slots] at X1 l1 y1 z1 st1 hQ1
 subst l1 y1 z1
 obtain ⟨rfl, N1q, qq1⟩ := hQ1
 have N1 := Fr.app N0 N1q
 have pre2 : own_pr p e below PP T1 (mkF m 7 #[.val (.ref b), .val (.int p1)] [(.ref b)]) := fun τ κ => pre0 τ (by
  show own_st p e below s₁ (mkF m 0 #[.val (.ref b), .val (.int p1)] []) _
  refine XS.aloadN X0.here hx rfl (hb hby d33_0) rfl rfl ?_
  refine XS.iloadN X0.here hx rfl (hb hby d33_1) rfl ?_
  refine st1.trans ?_
  refine XS.pop X1.here hx rfl (hb hby d33_5) rfl rfl ?_
  refine XS.aloadN X1.here hx rfl (hb hby d33_6) rfl rfl ?_
  exact κ)
 obtain ⟨fs3, hr3, hrun3, hended3, hW3, hsame3⟩ := X1.leave (v := some (.ref b)) (fun h => by rw [Bd.returns] at h; cases h)
 refine ⟨_, _, hPs _ (pre2 _ ?_), hrun3, hended3, _, _, rfl, ?_, ⟨_, rfl⟩, hW3, hsame3.mono (by decide) (by decide)⟩
 ·show own_st p e below T1 (mkF m 7 #[.val (.ref b), .val (.int p1)] [(.ref b)]) _
  exact retOut X1 hx (t := (.object "java/lang/StringBuilder")) Bd.returns rfl (Or.inr (Or.inr (Or.inr (Or.inr ⟨rfl, rfl, rfl⟩)))) (hb hby d33_7) hr3
 ·show Qsap Z b t cs p1 C k h0 n0 _ T1.heap _
  exact ⟨rfl, N1, qq1⟩

theorem own_l8 {c p : Int32} (hc : ¬ c < 0 ∧ ¬ (255 : Int32) < c) (hp : ¬ p < 0 ∧ ¬ (255 : Int32) < p) : own_lo8 c = p.toInt8.toInt32 ↔ c = p := by
 refine ⟨fun q => ?_, fun q => by rw [q]; rfl⟩
 apply Int32.toInt_inj.mp
 have q' : (c.toInt8.toInt32).toInt = (p.toInt8.toInt32).toInt := congrArg Int32.toInt q
 have a1 := c_i2b c
 have a2 := c_i2b p
 obtain ⟨h1, h2⟩ := hc
 obtain ⟨h3, h4⟩ := hp
 rw [Int32.lt_iff_toInt_lt] at h1 h2 h3 h4
 have e1 : (0 : Int32).toInt = 0 := rfl
 have e2 : (255 : Int32).toInt = 255 := rfl
 omega
def own_QI (h0 : Heap) (n0 : Nat) (P : Prop) (v : Option Value) (h : Heap) (L : List Loc) : Prop := ∃ r, v = some (.int r) ∧ Fr n0 L ∧ h = h0 ∧ (r < 0 ↔ ¬ P)
def own_QN (h0 : Heap) (n0 : Nat) (v : Option Value) (h : Heap) (L : List Loc) : Prop := v = none ∧ Fr n0 L ∧ h = h0
theorem own_minn (n : Int32) : own_min n n = n := by unfold own_min; split <;> rfl
theorem own_w {p : Int32} (h : ¬ p < 0 ∧ ¬ (255 : Int32) < p) : p < (65536 : Int32) := by
 obtain ⟨q1, q2⟩ := h
 rw [Int32.lt_iff_toInt_lt] at q2 ⊢
 have e1 : (255 : Int32).toInt = 255 := rfl
 have e2 : (65536 : Int32).toInt = 65536 := rfl
 omega

def own_e (c : Int32) : List Int32 := if own_sp c = 0 then [] else [92]
def own_esc : List Int32 → List Int32
 | [] => []
 | c :: cs => own_e c ++ c :: own_esc cs
theorem own_el (c : Int32) : (own_e c).length ≤ 1 := by unfold own_e; split <;> simp
theorem own_ew {c : Int32} (h : (255 : Int32) < c) : own_e c = [] := by
 unfold own_e own_sp
 rw [if_pos]
 rw [if_neg (fun q => by rw [q] at h; exact absurd h (by decide)), if_neg (fun q => by rw [q] at h; exact absurd h (by decide)), if_neg (fun q => by rw [q] at h; exact absurd h (by decide)), if_neg (fun q => by rw [q] at h; exact absurd h (by decide))]
theorem own_bnil : ∀ c ∈ ([] : List Int32), own_b c := fun _ q => nomatch q
theorem own_bone {a : Int32} (h : own_b a) : ∀ c ∈ [a], own_b c := fun c q => by cases List.mem_singleton.mp q; exact h
theorem own_bapp {A B : List Int32} (h : ∀ c ∈ A, own_b c) (k : ∀ c ∈ B, own_b c) : ∀ c ∈ A ++ B, own_b c := fun c q => (List.mem_append.mp q).elim (h c) (k c)
theorem own_be (a : Int32) : ∀ c ∈ own_e a, own_b c := by
 unfold own_e
 split
 ·exact own_bnil
 ·exact own_bone (by unfold own_b; decide)
abbrev own_P (p : Int32) : Prop := (123 : Int32) = p ∨ (125 : Int32) = p ∨ (36 : Int32) = p ∨ (92 : Int32) = p
theorem own_P0 {p : Int32} (h : ¬ own_P p) : own_e p = [] := by
 unfold own_e own_sp
 rw [if_pos]
 rw [if_neg (fun q => h (Or.inl q.symm)), if_neg (fun q => h (Or.inr (Or.inl q.symm))), if_neg (fun q => h (Or.inr (Or.inr (Or.inl q.symm)))), if_neg (fun q => h (Or.inr (Or.inr (Or.inr q.symm))))]
theorem own_P1 {p : Int32} (h : own_P p) : own_e p = [92] := by
 rcases h with rfl | rfl | rfl | rfl <;> decide
theorem own_Pw {p : Int32} (h : (255 : Int32) < p) : ¬ own_P p := fun q => by
 rcases q with rfl | rfl | rfl | rfl <;> exact absurd h (by decide)

theorem d29_0 : own_D own_c51 0 (.iload_n 0) 1 := by decide +kernel
theorem d29_1 : own_D own_c51 1 (.ifCond .lt 14) 3 := by decide +kernel
theorem d29_4 : own_D own_c51 4 (.iload_n 0) 1 := by decide +kernel
theorem d29_5 : own_D own_c51 5 (.sipush 255) 3 := by decide +kernel
theorem d29_8 : own_D own_c51 8 (.if_icmp .gt 7) 3 := by decide +kernel
theorem d29_11 : own_D own_c51 11 (.iconst 1) 1 := by decide +kernel
theorem d29_12 : own_D own_c51 12 (.goto 4) 3 := by decide +kernel
theorem d29_15 : own_D own_c51 15 (.iconst 0) 1 := by decide +kernel
theorem d29_16 : own_D own_c51 16 (.ireturn) 1 := by decide +kernel

theorem pd_ce : parseMethodDescriptor "(I)Z" = some ⟨[.int], some .boolean⟩ := by decide +kernel

def Qce (Z : State) (p1 : Int32) (h0 : Heap) (n0 : Nat) (v : Option Value) (h : Heap) (L : List Loc) : Prop := v = some (.int (1 : Int32)) ∧ Fr n0 L ∧ h = h0
theorem rmce (l : Launch) (Z : State) (a0 : Array Value) (hw : own_W Z a0) (ws : List Jvm.Cond) (p1 : Int32) (h0 : Heap) (n0 : Nat) (Z0 : n0 ≤ h0.size) (hp1 : ¬ p1 < (0 : Int32)) (hp2 : ¬ (255 : Int32) < p1) :
  own_M l Z own_z30 own_c51 1 (some .boolean) ({ frames := 0, cells := 0, slots := 0, locals := 0 } : Room) ws #[(.int p1)] h0 (Qce Z p1 h0 n0) := by
 refine MetFree.of_bodySF (plainFor_of_name pn_k4) hisR ?_
 intro p e s m args below meth c s₁ Bd hml0 hP hK
 obtain ⟨rfl, hZ, hh⟩ := hP
 have hx := Bd.exec
 have hby := Bd.bytes
 have hml : c.maxLocals = 1 := hml0
 have hown : s.vm.findClass "java/lang/StringLatin1" = some m.cls := findClass_of_methodNamed Bd.named
 have X0 : Stand p l e ({ frames := 0, cells := 0, slots := 0, locals := 0 } : Room) s m #[(.int p1)] below meth c s₁ [] 0 0 := Stand.of_body Bd
 have e0 : s₁.heap = h0 := by rw [← hh, Bd.state]; rfl
 have N0 := Fr.nil n0
 obtain ⟨PP, hPs, pre0⟩ : ∃ PP : State → Prop, (∀ t, PP t → Steps p.tables e below (s₁.setTop (entryFrame m #[(.int p1)] 1)) t) ∧ own_pr p e below PP s₁ (mkF m 0 #[.val (.int p1)] []) := ⟨_, fun _ κ => κ, fun τ κ => castTop (ef_sp m p1) κ⟩
 have pre1 : own_pr p e below PP s₁ (mkF m 16 #[.val (.int p1)] [(.int (1 : Int32))]) := fun τ κ => pre0 τ (by
  show own_st p e below s₁ (mkF m 0 #[.val (.int p1)] []) _
  refine XS.iloadN X0.here hx rfl (hb hby d29_0) rfl ?_
  refine XS.ifNo X0.here hx rfl (hb hby d29_1) rfl ((if0 _ _).trans (flt hp1).1) ?_
  refine XS.iloadN X0.here hx rfl (hb hby d29_4) rfl ?_
  refine XS.sipush X0.here hx rfl (hb hby d29_5) ?_
  refine XS.icmpNo X0.here hx rfl (hb hby d29_8) rfl (flt hp2).2.2.1 ?_
  refine XS.iconst X0.here hx rfl (hb hby d29_11) ?_
  refine XS.goto X0.here hx rfl (pc0 := 12) (pc' := 16) rfl (hb hby d29_12) (by decide) (by decide) ?_
  exact κ)
 obtain ⟨fs2, hr2, hrun2, hended2, hW2, hsame2⟩ := X0.leave (v := some (.int (1 : Int32))) (fun h => by rw [Bd.returns] at h; cases h)
 refine ⟨_, _, hPs _ (pre1 _ ?_), hrun2, hended2, _, _, rfl, ?_, ⟨_, rfl⟩, hW2, hsame2.mono (by decide) (by decide)⟩
 ·show own_st p e below s₁ (mkF m 16 #[.val (.int p1)] [(.int (1 : Int32))]) _
  exact retN X0 hx (t := .boolean) Bd.returns (by simp) (hb hby d29_16) hr2
 ·show Qce Z p1 h0 n0 _ s₁.heap _
  rw [e0]
  exact ⟨rfl, N0, rfl⟩


def Qcen (Z : State) (p1 : Int32) (h0 : Heap) (n0 : Nat) (v : Option Value) (h : Heap) (L : List Loc) : Prop := v = some (.int (0 : Int32)) ∧ Fr n0 L ∧ h = h0
theorem rmcen (l : Launch) (Z : State) (a0 : Array Value) (hw : own_W Z a0) (ws : List Jvm.Cond) (p1 : Int32) (h0 : Heap) (n0 : Nat) (Z0 : n0 ≤ h0.size) (hp1 : ¬ p1 < (0 : Int32)) (hp2 : (255 : Int32) < p1) :
  own_M l Z own_z30 own_c51 1 (some .boolean) ({ frames := 0, cells := 0, slots := 0, locals := 0 } : Room) ws #[(.int p1)] h0 (Qcen Z p1 h0 n0) := by
 refine MetFree.of_bodySF (plainFor_of_name pn_k4) hisR ?_
 intro p e s m args below meth c s₁ Bd hml0 hP hK
 obtain ⟨rfl, hZ, hh⟩ := hP
 have hx := Bd.exec
 have hby := Bd.bytes
 have hml : c.maxLocals = 1 := hml0
 have hown : s.vm.findClass "java/lang/StringLatin1" = some m.cls := findClass_of_methodNamed Bd.named
 have X0 : Stand p l e ({ frames := 0, cells := 0, slots := 0, locals := 0 } : Room) s m #[(.int p1)] below meth c s₁ [] 0 0 := Stand.of_body Bd
 have e0 : s₁.heap = h0 := by rw [← hh, Bd.state]; rfl
 have N0 := Fr.nil n0
 obtain ⟨PP, hPs, pre0⟩ : ∃ PP : State → Prop, (∀ t, PP t → Steps p.tables e below (s₁.setTop (entryFrame m #[(.int p1)] 1)) t) ∧ own_pr p e below PP s₁ (mkF m 0 #[.val (.int p1)] []) := ⟨_, fun _ κ => κ, fun τ κ => castTop (ef_sp m p1) κ⟩
 have pre1 : own_pr p e below PP s₁ (mkF m 16 #[.val (.int p1)] [(.int (0 : Int32))]) := fun τ κ => pre0 τ (by
  show own_st p e below s₁ (mkF m 0 #[.val (.int p1)] []) _
  refine XS.iloadN X0.here hx rfl (hb hby d29_0) rfl ?_
  refine XS.ifNo X0.here hx rfl (hb hby d29_1) rfl ((if0 _ _).trans (flt hp1).1) ?_
  refine XS.iloadN X0.here hx rfl (hb hby d29_4) rfl ?_
  refine XS.sipush X0.here hx rfl (hb hby d29_5) ?_
  refine XS.icmpYes X0.here hx rfl (pc0 := 8) (pc' := 15) rfl (hb hby d29_8) rfl (tlt hp2).2.2.1 (by decide) (by decide) ?_
  refine XS.iconst X0.here hx rfl (hb hby d29_15) ?_
  exact κ)
 obtain ⟨fs2, hr2, hrun2, hended2, hW2, hsame2⟩ := X0.leave (v := some (.int (0 : Int32))) (fun h => by rw [Bd.returns] at h; cases h)
 refine ⟨_, _, hPs _ (pre1 _ ?_), hrun2, hended2, _, _, rfl, ?_, ⟨_, rfl⟩, hW2, hsame2.mono (by decide) (by decide)⟩
 ·show own_st p e below s₁ (mkF m 16 #[.val (.int p1)] [(.int (0 : Int32))]) _
  exact retN X0 hx (t := .boolean) Bd.returns (by simp) (hb hby d29_16) hr2
 ·show Qcen Z p1 h0 n0 _ s₁.heap _
  rw [e0]
  exact ⟨rfl, N0, rfl⟩

theorem d32_0 : own_D own_c52 0 (.iload_n 1) 1 := by decide +kernel
theorem d32_1 : own_D own_c52 1 (.i2b) 1 := by decide +kernel
theorem d32_2 : own_D own_c52 2 (.istore 4) 2 := by decide +kernel
theorem d32_4 : own_D own_c52 4 (.iload_n 2) 1 := by decide +kernel
theorem d32_5 : own_D own_c52 5 (.istore 5) 2 := by decide +kernel
theorem d32_7 : own_D own_c52 7 (.iload 5) 2 := by decide +kernel
theorem d32_9 : own_D own_c52 9 (.iload_n 3) 1 := by decide +kernel
theorem d32_10 : own_D own_c52 10 (.if_icmp .ge 21) 3 := by decide +kernel
theorem d32_13 : own_D own_c52 13 (.aload_n 0) 1 := by decide +kernel
theorem d32_14 : own_D own_c52 14 (.iload 5) 2 := by decide +kernel
theorem d32_16 : own_D own_c52 16 (.baload) 1 := by decide +kernel
theorem d32_17 : own_D own_c52 17 (.iload 4) 2 := by decide +kernel
theorem d32_19 : own_D own_c52 19 (.if_icmp .ne 6) 3 := by decide +kernel
theorem d32_22 : own_D own_c52 22 (.iload 5) 2 := by decide +kernel
theorem d32_24 : own_D own_c52 24 (.ireturn) 1 := by decide +kernel
theorem d32_25 : own_D own_c52 25 (.iinc 5 1) 3 := by decide +kernel
theorem d32_28 : own_D own_c52 28 (.goto (-21)) 3 := by decide +kernel
theorem d32_31 : own_D own_c52 31 (.iconst (-1)) 1 := by decide +kernel
theorem d32_32 : own_D own_c52 32 (.ireturn) 1 := by decide +kernel

theorem pd_lc4 : parseMethodDescriptor "([BIII)I" = some ⟨[(.array .byte), .int, .int, .int], some .int⟩ := by decide +kernel

theorem ef_lc4 (m : MethodId) (x0 : Addr) (x1 : Int32) (x2 : Int32) (x3 : Int32)  : entryFrame m #[(.ref x0), (.int x1), (.int x2), (.int x3)] 6 = mkF m 0 #[.val (.ref x0), .val (.int x1), .val (.int x2), .val (.int x3), .unset, .unset] [] := by first | (simp [entryFrame, mkF, argsToLocals, Value.category]; done) | rfl
def Qlc4 (Z : State) (a1 : Addr) (k1 : ClassId) (c0 c1 c2 c3 : Int32) (p1 : Int32) (h0 : Heap) (n0 : Nat) (v : Option Value) (h : Heap) (L : List Loc) : Prop := own_QI h0 n0 (c0 = p1 ∨ c1 = p1 ∨ c2 = p1 ∨ c3 = p1) v h L
theorem rmlc4 (l : Launch) (Z : State) (a0 : Array Value) (hw : own_W Z a0) (ws : List Jvm.Cond) (a1 : Addr) (k1 : ClassId) (c0 c1 c2 c3 : Int32) (p1 : Int32) (h0 : Heap) (n0 : Nat) (Z0 : n0 ≤ h0.size) (As : Arv Z h0 a1 k1 .byte (4 : Int32) ([c0, c1, c2, c3].map fun c => Value.int (own_lo8 c)) (.int 0)) (hb0 : own_b c0) (hb1 : own_b c1) (hb2 : own_b c2) (hb3 : own_b c3) (hl0 : ¬ (255 : Int32) < c0) (hl1 : ¬ (255 : Int32) < c1) (hl2 : ¬ (255 : Int32) < c2) (hl3 : ¬ (255 : Int32) < c3) (hp : ¬ p1 < 0 ∧ ¬ (255 : Int32) < p1) :
  own_M l Z own_z33 own_c52 6 (some .int) ({ frames := 0, cells := 0, slots := 0, locals := 0 } : Room) ws #[(.ref a1), (.int p1), (.int (0 : Int32)), (.int (4 : Int32))] h0 (Qlc4 Z a1 k1 c0 c1 c2 c3 p1 h0 n0) := by
 refine MetFree.of_bodySF (plainFor_of_name pn_k4) hisR ?_
 intro p e s m args below meth c s₁ Bd hml0 hP hK
 obtain ⟨rfl, hZ, hh⟩ := hP
 have hx := Bd.exec
 have hby := Bd.bytes
 have hml : c.maxLocals = 6 := hml0
 have hown : s.vm.findClass "java/lang/StringLatin1" = some m.cls := findClass_of_methodNamed Bd.named
 have X0 : Stand p l e ({ frames := 0, cells := 0, slots := 0, locals := 0 } : Room) s m #[(.ref a1), (.int p1), (.int (0 : Int32)), (.int (4 : Int32))] below meth c s₁ [] 0 0 := Stand.of_body Bd
 have e0 : s₁.heap = h0 := by rw [← hh, Bd.state]; rfl
 have N0 := Fr.nil n0
 obtain ⟨PP, hPs, pre0⟩ : ∃ PP : State → Prop, (∀ t, PP t → Steps p.tables e below (s₁.setTop (entryFrame m #[(.ref a1), (.int p1), (.int (0 : Int32)), (.int (4 : Int32))] 6)) t) ∧ own_pr p e below PP s₁ (mkF m 0 #[.val (.ref a1), .val (.int p1), .val (.int (0 : Int32)), .val (.int (4 : Int32)), .unset, .unset] []) := ⟨_, fun _ κ => κ, fun τ κ => castTop (ef_lc4 m a1 p1 (0 : Int32) (4 : Int32)) κ⟩
 have Vc1 := As
 obtain ⟨cl1, Ar1, qq1, sz1, nn1, Ha1, Gf1⟩ := Vc1
 have hin1 : ¬ ((0 : Int32) < 0 ∨ cl1.slots.size ≤ ((0 : Int32)).toNatClampNeg) := inb_of sz1 ⟨by decide, by decide⟩
 have pre2 : own_pr p e below PP s₁ (mkF m 19 #[.val (.ref a1), .val (.int p1), .val (.int (0 : Int32)), .val (.int (4 : Int32)), .val (.int (p1.toInt8.toInt32)), .val (.int (0 : Int32))] [(.int (p1.toInt8.toInt32)), (.int (own_lo8 c0))]) := fun τ κ => pre0 τ (by
  show own_st p e below s₁ (mkF m 0 #[.val (.ref a1), .val (.int p1), .val (.int (0 : Int32)), .val (.int (4 : Int32)), .unset, .unset] []) _
  refine XS.iloadN X0.here hx rfl (hb hby d32_0) rfl ?_
  refine XS.i2b X0.here hx rfl (hb hby d32_1) rfl ?_
  refine XS.istore X0.here hx rfl (hb hby d32_2) rfl (l' := #[.val (.ref a1), .val (.int p1), .val (.int (0 : Int32)), .val (.int (4 : Int32)), .val (.int (p1.toInt8.toInt32)), .unset]) rfl ?_
  refine XS.iloadN X0.here hx rfl (hb hby d32_4) rfl ?_
  refine XS.istore X0.here hx rfl (hb hby d32_5) rfl (l' := #[.val (.ref a1), .val (.int p1), .val (.int (0 : Int32)), .val (.int (4 : Int32)), .val (.int (p1.toInt8.toInt32)), .val (.int (0 : Int32))]) rfl ?_
  refine XS.iload X0.here hx rfl (hb hby d32_7) rfl ?_
  refine XS.iloadN X0.here hx rfl (hb hby d32_9) rfl ?_
  refine XS.icmpNo X0.here hx rfl (hb hby d32_10) rfl (tlt (by decide : (0 : Int32) < (4 : Int32))).2.1 ?_
  refine XS.aloadN X0.here hx rfl (hb hby d32_13) rfl rfl ?_
  refine XS.iload X0.here hx rfl (hb hby d32_14) rfl ?_
  refine X0.baloadBytes hx (j := (0 : Int32)) (v := (.int (own_lo8 c0))) (by rw [e0]; exact Ar1.1) (State.isArrayOf_alike hZ.alike Ar1.2.1) Ar1.2.2 hin1 (Has.at Ha1 hin1 rfl) (g := (mkF m 16 #[.val (.ref a1), .val (.int p1), .val (.int (0 : Int32)), .val (.int (4 : Int32)), .val (.int (p1.toInt8.toInt32)), .val (.int (0 : Int32))] [(.int (0 : Int32)), (.ref a1)])) rfl rfl (hb hby d32_16) _ ?_
  refine XS.iload X0.here hx rfl (hb hby d32_17) rfl ?_
  exact κ)
 by_cases hc19 : (own_lo8 c0) = (p1.toInt8.toInt32)
 ·have pre3 : own_pr p e below PP s₁ (mkF m 24 #[.val (.ref a1), .val (.int p1), .val (.int (0 : Int32)), .val (.int (4 : Int32)), .val (.int (p1.toInt8.toInt32)), .val (.int (0 : Int32))] [(.int (0 : Int32))]) := fun τ κ => pre2 τ (by
   show own_st p e below s₁ (mkF m 19 #[.val (.ref a1), .val (.int p1), .val (.int (0 : Int32)), .val (.int (4 : Int32)), .val (.int (p1.toInt8.toInt32)), .val (.int (0 : Int32))] [(.int (p1.toInt8.toInt32)), (.int (own_lo8 c0))]) _
   refine XS.icmpNo X0.here hx rfl (hb hby d32_19) rfl (teq hc19).2 ?_
   refine XS.iload X0.here hx rfl (hb hby d32_22) rfl ?_
   exact κ)
  obtain ⟨fs4, hr4, hrun4, hended4, hW4, hsame4⟩ := X0.leave (v := some (.int (0 : Int32))) (fun h => by rw [Bd.returns] at h; cases h)
  refine ⟨_, _, hPs _ (pre3 _ ?_), hrun4, hended4, _, _, rfl, ?_, ⟨_, rfl⟩, hW4, hsame4.mono (by decide) (by decide)⟩
  ·show own_st p e below s₁ (mkF m 24 #[.val (.ref a1), .val (.int p1), .val (.int (0 : Int32)), .val (.int (4 : Int32)), .val (.int (p1.toInt8.toInt32)), .val (.int (0 : Int32))] [(.int (0 : Int32))]) _
   exact retOut X0 hx (t := .int) Bd.returns rfl (Or.inl ⟨rfl, Or.inl rfl, _, rfl⟩) (hb hby d32_24) hr4
  ·show Qlc4 Z a1 k1 c0 c1 c2 c3 p1 h0 n0 _ s₁.heap _
   rw [e0]
   exact ⟨_, rfl, N0, rfl, fun q => absurd q (by decide), fun q => absurd (Or.inl ((own_l8 ⟨hb0.1, hl0⟩ hp).mp hc19)) q⟩
 have Vc5 := As
 obtain ⟨cl5, Ar5, qq5, sz5, nn5, Ha5, Gf5⟩ := Vc5
 have hin5 : ¬ ((1 : Int32) < 0 ∨ cl5.slots.size ≤ ((1 : Int32)).toNatClampNeg) := inb_of sz5 ⟨by decide, by decide⟩
 have pre6 : own_pr p e below PP s₁ (mkF m 19 #[.val (.ref a1), .val (.int p1), .val (.int (0 : Int32)), .val (.int (4 : Int32)), .val (.int (p1.toInt8.toInt32)), .val (.int (1 : Int32))] [(.int (p1.toInt8.toInt32)), (.int (own_lo8 c1))]) := fun τ κ => pre2 τ (by
  show own_st p e below s₁ (mkF m 19 #[.val (.ref a1), .val (.int p1), .val (.int (0 : Int32)), .val (.int (4 : Int32)), .val (.int (p1.toInt8.toInt32)), .val (.int (0 : Int32))] [(.int (p1.toInt8.toInt32)), (.int (own_lo8 c0))]) _
  refine XS.icmpYes X0.here hx rfl (pc0 := 19) (pc' := 25) rfl (hb hby d32_19) rfl (feq hc19).2 (by decide) (by decide) ?_
  refine XS.iinc X0.here hx rfl (hb hby d32_25) rfl (l' := #[.val (.ref a1), .val (.int p1), .val (.int (0 : Int32)), .val (.int (4 : Int32)), .val (.int (p1.toInt8.toInt32)), .val (.int ((0 : Int32) + (1 : Int32)))]) rfl ?_
  show own_st p e below s₁ (mkF m 28 #[.val (.ref a1), .val (.int p1), .val (.int (0 : Int32)), .val (.int (4 : Int32)), .val (.int (p1.toInt8.toInt32)), .val (.int ((0 : Int32) + (1 : Int32)))] []) _
  rw [show ((0 : Int32) + (1 : Int32)) = (1 : Int32) from by decide]
  refine XS.goto X0.here hx rfl (pc0 := 28) (pc' := 7) rfl (hb hby d32_28) (by decide) (by decide) ?_
  refine XS.iload X0.here hx rfl (hb hby d32_7) rfl ?_
  refine XS.iloadN X0.here hx rfl (hb hby d32_9) rfl ?_
  refine XS.icmpNo X0.here hx rfl (hb hby d32_10) rfl (tlt (by decide : (1 : Int32) < (4 : Int32))).2.1 ?_
  refine XS.aloadN X0.here hx rfl (hb hby d32_13) rfl rfl ?_
  refine XS.iload X0.here hx rfl (hb hby d32_14) rfl ?_
  refine X0.baloadBytes hx (j := (1 : Int32)) (v := (.int (own_lo8 c1))) (by rw [e0]; exact Ar5.1) (State.isArrayOf_alike hZ.alike Ar5.2.1) Ar5.2.2 hin5 (Has.at Ha5 hin5 rfl) (g := (mkF m 16 #[.val (.ref a1), .val (.int p1), .val (.int (0 : Int32)), .val (.int (4 : Int32)), .val (.int (p1.toInt8.toInt32)), .val (.int (1 : Int32))] [(.int (1 : Int32)), (.ref a1)])) rfl rfl (hb hby d32_16) _ ?_
  refine XS.iload X0.here hx rfl (hb hby d32_17) rfl ?_
  exact κ)
 by_cases hc19_7 : (own_lo8 c1) = (p1.toInt8.toInt32)
 ·have pre8 : own_pr p e below PP s₁ (mkF m 24 #[.val (.ref a1), .val (.int p1), .val (.int (0 : Int32)), .val (.int (4 : Int32)), .val (.int (p1.toInt8.toInt32)), .val (.int (1 : Int32))] [(.int (1 : Int32))]) := fun τ κ => pre6 τ (by
   show own_st p e below s₁ (mkF m 19 #[.val (.ref a1), .val (.int p1), .val (.int (0 : Int32)), .val (.int (4 : Int32)), .val (.int (p1.toInt8.toInt32)), .val (.int (1 : Int32))] [(.int (p1.toInt8.toInt32)), (.int (own_lo8 c1))]) _
   refine XS.icmpNo X0.here hx rfl (hb hby d32_19) rfl (teq hc19_7).2 ?_
   refine XS.iload X0.here hx rfl (hb hby d32_22) rfl ?_
   exact κ)
  obtain ⟨fs9, hr9, hrun9, hended9, hW9, hsame9⟩ := X0.leave (v := some (.int (1 : Int32))) (fun h => by rw [Bd.returns] at h; cases h)
  refine ⟨_, _, hPs _ (pre8 _ ?_), hrun9, hended9, _, _, rfl, ?_, ⟨_, rfl⟩, hW9, hsame9.mono (by decide) (by decide)⟩
  ·show own_st p e below s₁ (mkF m 24 #[.val (.ref a1), .val (.int p1), .val (.int (0 : Int32)), .val (.int (4 : Int32)), .val (.int (p1.toInt8.toInt32)), .val (.int (1 : Int32))] [(.int (1 : Int32))]) _
   exact retOut X0 hx (t := .int) Bd.returns rfl (Or.inl ⟨rfl, Or.inl rfl, _, rfl⟩) (hb hby d32_24) hr9
  ·show Qlc4 Z a1 k1 c0 c1 c2 c3 p1 h0 n0 _ s₁.heap _
   rw [e0]
   exact ⟨_, rfl, N0, rfl, fun q => absurd q (by decide), fun q => absurd (Or.inr (Or.inl ((own_l8 ⟨hb1.1, hl1⟩ hp).mp hc19_7))) q⟩
 have Vc10 := As
 obtain ⟨cl10, Ar10, qq10, sz10, nn10, Ha10, Gf10⟩ := Vc10
 have hin10 : ¬ ((2 : Int32) < 0 ∨ cl10.slots.size ≤ ((2 : Int32)).toNatClampNeg) := inb_of sz10 ⟨by decide, by decide⟩
 have pre11 : own_pr p e below PP s₁ (mkF m 19 #[.val (.ref a1), .val (.int p1), .val (.int (0 : Int32)), .val (.int (4 : Int32)), .val (.int (p1.toInt8.toInt32)), .val (.int (2 : Int32))] [(.int (p1.toInt8.toInt32)), (.int (own_lo8 c2))]) := fun τ κ => pre6 τ (by
  show own_st p e below s₁ (mkF m 19 #[.val (.ref a1), .val (.int p1), .val (.int (0 : Int32)), .val (.int (4 : Int32)), .val (.int (p1.toInt8.toInt32)), .val (.int (1 : Int32))] [(.int (p1.toInt8.toInt32)), (.int (own_lo8 c1))]) _
  refine XS.icmpYes X0.here hx rfl (pc0 := 19) (pc' := 25) rfl (hb hby d32_19) rfl (feq hc19_7).2 (by decide) (by decide) ?_
  refine XS.iinc X0.here hx rfl (hb hby d32_25) rfl (l' := #[.val (.ref a1), .val (.int p1), .val (.int (0 : Int32)), .val (.int (4 : Int32)), .val (.int (p1.toInt8.toInt32)), .val (.int ((1 : Int32) + (1 : Int32)))]) rfl ?_
  show own_st p e below s₁ (mkF m 28 #[.val (.ref a1), .val (.int p1), .val (.int (0 : Int32)), .val (.int (4 : Int32)), .val (.int (p1.toInt8.toInt32)), .val (.int ((1 : Int32) + (1 : Int32)))] []) _
  rw [show ((1 : Int32) + (1 : Int32)) = (2 : Int32) from by decide]
  refine XS.goto X0.here hx rfl (pc0 := 28) (pc' := 7) rfl (hb hby d32_28) (by decide) (by decide) ?_
  refine XS.iload X0.here hx rfl (hb hby d32_7) rfl ?_
  refine XS.iloadN X0.here hx rfl (hb hby d32_9) rfl ?_
  refine XS.icmpNo X0.here hx rfl (hb hby d32_10) rfl (tlt (by decide : (2 : Int32) < (4 : Int32))).2.1 ?_
  refine XS.aloadN X0.here hx rfl (hb hby d32_13) rfl rfl ?_
  refine XS.iload X0.here hx rfl (hb hby d32_14) rfl ?_
  refine X0.baloadBytes hx (j := (2 : Int32)) (v := (.int (own_lo8 c2))) (by rw [e0]; exact Ar10.1) (State.isArrayOf_alike hZ.alike Ar10.2.1) Ar10.2.2 hin10 (Has.at Ha10 hin10 rfl) (g := (mkF m 16 #[.val (.ref a1), .val (.int p1), .val (.int (0 : Int32)), .val (.int (4 : Int32)), .val (.int (p1.toInt8.toInt32)), .val (.int (2 : Int32))] [(.int (2 : Int32)), (.ref a1)])) rfl rfl (hb hby d32_16) _ ?_
  refine XS.iload X0.here hx rfl (hb hby d32_17) rfl ?_
  exact κ)
 by_cases hc19_12 : (own_lo8 c2) = (p1.toInt8.toInt32)
 ·have pre13 : own_pr p e below PP s₁ (mkF m 24 #[.val (.ref a1), .val (.int p1), .val (.int (0 : Int32)), .val (.int (4 : Int32)), .val (.int (p1.toInt8.toInt32)), .val (.int (2 : Int32))] [(.int (2 : Int32))]) := fun τ κ => pre11 τ (by
   show own_st p e below s₁ (mkF m 19 #[.val (.ref a1), .val (.int p1), .val (.int (0 : Int32)), .val (.int (4 : Int32)), .val (.int (p1.toInt8.toInt32)), .val (.int (2 : Int32))] [(.int (p1.toInt8.toInt32)), (.int (own_lo8 c2))]) _
   refine XS.icmpNo X0.here hx rfl (hb hby d32_19) rfl (teq hc19_12).2 ?_
   refine XS.iload X0.here hx rfl (hb hby d32_22) rfl ?_
   exact κ)
  obtain ⟨fs14, hr14, hrun14, hended14, hW14, hsame14⟩ := X0.leave (v := some (.int (2 : Int32))) (fun h => by rw [Bd.returns] at h; cases h)
  refine ⟨_, _, hPs _ (pre13 _ ?_), hrun14, hended14, _, _, rfl, ?_, ⟨_, rfl⟩, hW14, hsame14.mono (by decide) (by decide)⟩
  ·show own_st p e below s₁ (mkF m 24 #[.val (.ref a1), .val (.int p1), .val (.int (0 : Int32)), .val (.int (4 : Int32)), .val (.int (p1.toInt8.toInt32)), .val (.int (2 : Int32))] [(.int (2 : Int32))]) _
   exact retOut X0 hx (t := .int) Bd.returns rfl (Or.inl ⟨rfl, Or.inl rfl, _, rfl⟩) (hb hby d32_24) hr14
  ·show Qlc4 Z a1 k1 c0 c1 c2 c3 p1 h0 n0 _ s₁.heap _
   rw [e0]
   exact ⟨_, rfl, N0, rfl, fun q => absurd q (by decide), fun q => absurd (Or.inr (Or.inr (Or.inl ((own_l8 ⟨hb2.1, hl2⟩ hp).mp hc19_12)))) q⟩
 have Vc15 := As
 obtain ⟨cl15, Ar15, qq15, sz15, nn15, Ha15, Gf15⟩ := Vc15
 have hin15 : ¬ ((3 : Int32) < 0 ∨ cl15.slots.size ≤ ((3 : Int32)).toNatClampNeg) := inb_of sz15 ⟨by decide, by decide⟩
 have pre16 : own_pr p e below PP s₁ (mkF m 19 #[.val (.ref a1), .val (.int p1), .val (.int (0 : Int32)), .val (.int (4 : Int32)), .val (.int (p1.toInt8.toInt32)), .val (.int (3 : Int32))] [(.int (p1.toInt8.toInt32)), (.int (own_lo8 c3))]) := fun τ κ => pre11 τ (by
  show own_st p e below s₁ (mkF m 19 #[.val (.ref a1), .val (.int p1), .val (.int (0 : Int32)), .val (.int (4 : Int32)), .val (.int (p1.toInt8.toInt32)), .val (.int (2 : Int32))] [(.int (p1.toInt8.toInt32)), (.int (own_lo8 c2))]) _
  refine XS.icmpYes X0.here hx rfl (pc0 := 19) (pc' := 25) rfl (hb hby d32_19) rfl (feq hc19_12).2 (by decide) (by decide) ?_
  refine XS.iinc X0.here hx rfl (hb hby d32_25) rfl (l' := #[.val (.ref a1), .val (.int p1), .val (.int (0 : Int32)), .val (.int (4 : Int32)), .val (.int (p1.toInt8.toInt32)), .val (.int ((2 : Int32) + (1 : Int32)))]) rfl ?_
  show own_st p e below s₁ (mkF m 28 #[.val (.ref a1), .val (.int p1), .val (.int (0 : Int32)), .val (.int (4 : Int32)), .val (.int (p1.toInt8.toInt32)), .val (.int ((2 : Int32) + (1 : Int32)))] []) _
  rw [show ((2 : Int32) + (1 : Int32)) = (3 : Int32) from by decide]
  refine XS.goto X0.here hx rfl (pc0 := 28) (pc' := 7) rfl (hb hby d32_28) (by decide) (by decide) ?_
  refine XS.iload X0.here hx rfl (hb hby d32_7) rfl ?_
  refine XS.iloadN X0.here hx rfl (hb hby d32_9) rfl ?_
  refine XS.icmpNo X0.here hx rfl (hb hby d32_10) rfl (tlt (by decide : (3 : Int32) < (4 : Int32))).2.1 ?_
  refine XS.aloadN X0.here hx rfl (hb hby d32_13) rfl rfl ?_
  refine XS.iload X0.here hx rfl (hb hby d32_14) rfl ?_
  refine X0.baloadBytes hx (j := (3 : Int32)) (v := (.int (own_lo8 c3))) (by rw [e0]; exact Ar15.1) (State.isArrayOf_alike hZ.alike Ar15.2.1) Ar15.2.2 hin15 (Has.at Ha15 hin15 rfl) (g := (mkF m 16 #[.val (.ref a1), .val (.int p1), .val (.int (0 : Int32)), .val (.int (4 : Int32)), .val (.int (p1.toInt8.toInt32)), .val (.int (3 : Int32))] [(.int (3 : Int32)), (.ref a1)])) rfl rfl (hb hby d32_16) _ ?_
  refine XS.iload X0.here hx rfl (hb hby d32_17) rfl ?_
  exact κ)
 by_cases hc19_17 : (own_lo8 c3) = (p1.toInt8.toInt32)
 ·have pre18 : own_pr p e below PP s₁ (mkF m 24 #[.val (.ref a1), .val (.int p1), .val (.int (0 : Int32)), .val (.int (4 : Int32)), .val (.int (p1.toInt8.toInt32)), .val (.int (3 : Int32))] [(.int (3 : Int32))]) := fun τ κ => pre16 τ (by
   show own_st p e below s₁ (mkF m 19 #[.val (.ref a1), .val (.int p1), .val (.int (0 : Int32)), .val (.int (4 : Int32)), .val (.int (p1.toInt8.toInt32)), .val (.int (3 : Int32))] [(.int (p1.toInt8.toInt32)), (.int (own_lo8 c3))]) _
   refine XS.icmpNo X0.here hx rfl (hb hby d32_19) rfl (teq hc19_17).2 ?_
   refine XS.iload X0.here hx rfl (hb hby d32_22) rfl ?_
   exact κ)
  obtain ⟨fs19, hr19, hrun19, hended19, hW19, hsame19⟩ := X0.leave (v := some (.int (3 : Int32))) (fun h => by rw [Bd.returns] at h; cases h)
  refine ⟨_, _, hPs _ (pre18 _ ?_), hrun19, hended19, _, _, rfl, ?_, ⟨_, rfl⟩, hW19, hsame19.mono (by decide) (by decide)⟩
  ·show own_st p e below s₁ (mkF m 24 #[.val (.ref a1), .val (.int p1), .val (.int (0 : Int32)), .val (.int (4 : Int32)), .val (.int (p1.toInt8.toInt32)), .val (.int (3 : Int32))] [(.int (3 : Int32))]) _
   exact retOut X0 hx (t := .int) Bd.returns rfl (Or.inl ⟨rfl, Or.inl rfl, _, rfl⟩) (hb hby d32_24) hr19
  ·show Qlc4 Z a1 k1 c0 c1 c2 c3 p1 h0 n0 _ s₁.heap _
   rw [e0]
   exact ⟨_, rfl, N0, rfl, fun q => absurd q (by decide), fun q => absurd (Or.inr (Or.inr (Or.inr (((own_l8 ⟨hb3.1, hl3⟩ hp).mp hc19_17))))) q⟩
 have pre20 : own_pr p e below PP s₁ (mkF m 32 #[.val (.ref a1), .val (.int p1), .val (.int (0 : Int32)), .val (.int (4 : Int32)), .val (.int (p1.toInt8.toInt32)), .val (.int (4 : Int32))] [(.int (-1 : Int32))]) := fun τ κ => pre16 τ (by
  show own_st p e below s₁ (mkF m 19 #[.val (.ref a1), .val (.int p1), .val (.int (0 : Int32)), .val (.int (4 : Int32)), .val (.int (p1.toInt8.toInt32)), .val (.int (3 : Int32))] [(.int (p1.toInt8.toInt32)), (.int (own_lo8 c3))]) _
  refine XS.icmpYes X0.here hx rfl (pc0 := 19) (pc' := 25) rfl (hb hby d32_19) rfl (feq hc19_17).2 (by decide) (by decide) ?_
  refine XS.iinc X0.here hx rfl (hb hby d32_25) rfl (l' := #[.val (.ref a1), .val (.int p1), .val (.int (0 : Int32)), .val (.int (4 : Int32)), .val (.int (p1.toInt8.toInt32)), .val (.int ((3 : Int32) + (1 : Int32)))]) rfl ?_
  show own_st p e below s₁ (mkF m 28 #[.val (.ref a1), .val (.int p1), .val (.int (0 : Int32)), .val (.int (4 : Int32)), .val (.int (p1.toInt8.toInt32)), .val (.int ((3 : Int32) + (1 : Int32)))] []) _
  rw [show ((3 : Int32) + (1 : Int32)) = (4 : Int32) from by decide]
  refine XS.goto X0.here hx rfl (pc0 := 28) (pc' := 7) rfl (hb hby d32_28) (by decide) (by decide) ?_
  refine XS.iload X0.here hx rfl (hb hby d32_7) rfl ?_
  refine XS.iloadN X0.here hx rfl (hb hby d32_9) rfl ?_
  refine XS.icmpYes X0.here hx rfl (pc0 := 10) (pc' := 31) rfl (hb hby d32_10) rfl (flt (by decide : ¬ ((4 : Int32) < (4 : Int32)))).2.1 (by decide) (by decide) ?_
  refine XS.iconst X0.here hx rfl (hb hby d32_31) ?_
  exact κ)
 obtain ⟨fs21, hr21, hrun21, hended21, hW21, hsame21⟩ := X0.leave (v := some (.int (-1 : Int32))) (fun h => by rw [Bd.returns] at h; cases h)
 refine ⟨_, _, hPs _ (pre20 _ ?_), hrun21, hended21, _, _, rfl, ?_, ⟨_, rfl⟩, hW21, hsame21.mono (by decide) (by decide)⟩
 ·show own_st p e below s₁ (mkF m 32 #[.val (.ref a1), .val (.int p1), .val (.int (0 : Int32)), .val (.int (4 : Int32)), .val (.int (p1.toInt8.toInt32)), .val (.int (4 : Int32))] [(.int (-1 : Int32))]) _
  exact retOut X0 hx (t := .int) Bd.returns rfl (Or.inl ⟨rfl, Or.inl rfl, _, rfl⟩) (hb hby d32_32) hr21
 ·show Qlc4 Z a1 k1 c0 c1 c2 c3 p1 h0 n0 _ s₁.heap _
  rw [e0]
  exact ⟨_, rfl, N0, rfl, fun _ q => by
   rcases q with q | q | q | q
   ·exact hc19 ((own_l8 ⟨hb0.1, hl0⟩ hp).mpr q)
   ·exact hc19_7 ((own_l8 ⟨hb1.1, hl1⟩ hp).mpr q)
   ·exact hc19_12 ((own_l8 ⟨hb2.1, hl2⟩ hp).mpr q)
   ·exact hc19_17 ((own_l8 ⟨hb3.1, hl3⟩ hp).mpr q), fun _ => by decide⟩

theorem d28_0 : own_D own_c53 0 (.iload_n 1) 1 := by decide +kernel
theorem d28_1 : own_D own_c53 1 (.invokestatic 88) 3 := by decide +kernel
theorem d28_4 : own_D own_c53 4 (.ifCond .ne 5) 3 := by decide +kernel
theorem d28_7 : own_D own_c53 7 (.iconst (-1)) 1 := by decide +kernel
theorem d28_8 : own_D own_c53 8 (.ireturn) 1 := by decide +kernel
theorem d28_9 : own_D own_c53 9 (.iload_n 2) 1 := by decide +kernel
theorem d28_10 : own_D own_c53 10 (.iconst 0) 1 := by decide +kernel
theorem d28_11 : own_D own_c53 11 (.invokestatic 92) 3 := by decide +kernel
theorem d28_14 : own_D own_c53 14 (.istore_n 2) 1 := by decide +kernel
theorem d28_15 : own_D own_c53 15 (.iload_n 3) 1 := by decide +kernel
theorem d28_16 : own_D own_c53 16 (.aload_n 0) 1 := by decide +kernel
theorem d28_17 : own_D own_c53 17 (.arraylength) 1 := by decide +kernel
theorem d28_18 : own_D own_c53 18 (.invokestatic 38) 3 := by decide +kernel
theorem d28_21 : own_D own_c53 21 (.istore_n 3) 1 := by decide +kernel
theorem d28_22 : own_D own_c53 22 (.iload_n 2) 1 := by decide +kernel
theorem d28_23 : own_D own_c53 23 (.iload_n 3) 1 := by decide +kernel
theorem d28_24 : own_D own_c53 24 (.if_icmp .lt 5) 3 := by decide +kernel
theorem d28_29 : own_D own_c53 29 (.aload_n 0) 1 := by decide +kernel
theorem d28_30 : own_D own_c53 30 (.iload_n 1) 1 := by decide +kernel
theorem d28_31 : own_D own_c53 31 (.iload_n 2) 1 := by decide +kernel
theorem d28_32 : own_D own_c53 32 (.iload_n 3) 1 := by decide +kernel
theorem d28_33 : own_D own_c53 33 (.invokestatic 95) 3 := by decide +kernel
theorem d28_36 : own_D own_c53 36 (.ireturn) 1 := by decide +kernel


theorem ef_li (m : MethodId) (x0 : Addr) (x1 : Int32) (x2 : Int32) (x3 : Int32)  : entryFrame m #[(.ref x0), (.int x1), (.int x2), (.int x3)] 4 = mkF m 0 #[.val (.ref x0), .val (.int x1), .val (.int x2), .val (.int x3)] [] := by first | (simp [entryFrame, mkF, argsToLocals, Value.category]; done) | rfl
def Qli (Z : State) (a1 : Addr) (k1 : ClassId) (p1 : Int32) (h0 : Heap) (n0 : Nat) (v : Option Value) (h : Heap) (L : List Loc) : Prop := own_QI h0 n0 (own_P p1) v h L
theorem rmli (l : Launch) (Z : State) (a0 : Array Value) (hw : own_W Z a0) (ws : List Jvm.Cond) (a1 : Addr) (k1 : ClassId) (p1 : Int32) (h0 : Heap) (n0 : Nat) (Z0 : n0 ≤ h0.size) (As : Arv Z h0 a1 k1 .byte (4 : Int32) [.int 123, .int 125, .int 36, .int 92] (.int 0)) (hbp : own_b p1) :
  own_M l Z own_z29 own_c53 4 (some .int) ({ frames := 1, cells := 0, slots := 0, locals := 18 } : Room) ws #[(.ref a1), (.int p1), (.int (0 : Int32)), (.int (4 : Int32))] h0 (Qli Z a1 k1 p1 h0 n0) := by
 refine MetFree.of_bodySF (plainFor_of_name pn_k4) hisR ?_
 intro p e s m args below meth c s₁ Bd hml0 hP hK
 obtain ⟨rfl, hZ, hh⟩ := hP
 have hx := Bd.exec
 have hby := Bd.bytes
 have hml : c.maxLocals = 4 := hml0
 have hown : s.vm.findClass "java/lang/StringLatin1" = some m.cls := findClass_of_methodNamed Bd.named
 have X0 : Stand p l e ({ frames := 1, cells := 0, slots := 0, locals := 18 } : Room) s m #[(.ref a1), (.int p1), (.int (0 : Int32)), (.int (4 : Int32))] below meth c s₁ [] 0 0 := Stand.of_body Bd
 have e0 : s₁.heap = h0 := by rw [← hh, Bd.state]; rfl
 have N0 := Fr.nil n0
 obtain ⟨PP, hPs, pre0⟩ : ∃ PP : State → Prop, (∀ t, PP t → Steps p.tables e below (s₁.setTop (entryFrame m #[(.ref a1), (.int p1), (.int (0 : Int32)), (.int (4 : Int32))] 4)) t) ∧ own_pr p e below PP s₁ (mkF m 0 #[.val (.ref a1), .val (.int p1), .val (.int (0 : Int32)), .val (.int (4 : Int32))] []) := ⟨_, fun _ κ => κ, fun τ κ => castTop (ef_li m a1 p1 (0 : Int32) (4 : Int32)) κ⟩
 by_cases hcw : (255 : Int32) < p1
 ·obtain ⟨_, T1, Lc1, X1, hQ1, st1⟩ := own_cS X0 hx hZ (y := own_z30) hown (wd155 hw) (wd156 hw) (wd130 hw) (wd157 hw) (by decide) (rmcen l Z a0 hw [] p1 h0 n0 Z0 hbp.1 hcw) 0 (by decide) (g := (mkF m 1 #[.val (.ref a1), .val (.int p1), .val (.int (0 : Int32)), .val (.int (4 : Int32))] [(.int p1)])) rfl hml.symm [(.int p1)] [] (lenOf pd_ce rfl) rfl rfl (hb hby d28_1) e0 rfl
  obtain ⟨rfl, N1q, q1⟩ := hQ1
  have N1 := Fr.app N0 N1q
  have pre2 : own_pr p e below PP T1 (mkF m 8 #[.val (.ref a1), .val (.int p1), .val (.int (0 : Int32)), .val (.int (4 : Int32))] [(.int (-1 : Int32))]) := fun τ κ => pre0 τ (by
   show own_st p e below s₁ (mkF m 0 #[.val (.ref a1), .val (.int p1), .val (.int (0 : Int32)), .val (.int (4 : Int32))] []) _
   refine XS.iloadN X0.here hx rfl (hb hby d28_0) rfl ?_
   refine st1 _ ?_
   refine XS.ifNo X1.here hx rfl (hb hby d28_4) rfl ((if0 _ _).trans (teq (by decide : (0 : Int32) = (0 : Int32))).2) ?_
   refine XS.iconst X1.here hx rfl (hb hby d28_7) ?_
   exact κ)
  obtain ⟨fs3, hr3, hrun3, hended3, hW3, hsame3⟩ := X1.leave (v := some (.int (-1 : Int32))) (fun h => by rw [Bd.returns] at h; cases h)
  refine ⟨_, _, hPs _ (pre2 _ ?_), hrun3, hended3, _, _, rfl, ?_, ⟨_, rfl⟩, hW3, hsame3.mono (by decide) (by decide)⟩
  ·show own_st p e below T1 (mkF m 8 #[.val (.ref a1), .val (.int p1), .val (.int (0 : Int32)), .val (.int (4 : Int32))] [(.int (-1 : Int32))]) _
   exact retOut X1 hx (t := .int) Bd.returns rfl (Or.inl ⟨rfl, Or.inl rfl, _, rfl⟩) (hb hby d28_8) hr3
  ·show Qli Z a1 k1 p1 h0 n0 _ T1.heap _
   rw [q1]
   exact ⟨_, rfl, N1, rfl, fun _ => own_Pw hcw, fun _ => by decide⟩
 ·obtain ⟨_, T4, Lc4, X4, hQ4, st4⟩ := own_cS X0 hx hZ (y := own_z30) hown (wd155 hw) (wd156 hw) (wd130 hw) (wd157 hw) (by decide) (rmce l Z a0 hw [] p1 h0 n0 Z0 hbp.1 hcw) 0 (by decide) (g := (mkF m 1 #[.val (.ref a1), .val (.int p1), .val (.int (0 : Int32)), .val (.int (4 : Int32))] [(.int p1)])) rfl hml.symm [(.int p1)] [] (lenOf pd_ce rfl) rfl rfl (hb hby d28_1) e0 rfl
  obtain ⟨rfl, N4q, q4⟩ := hQ4
  have N4 := Fr.app N0 N4q
  obtain ⟨_, T5, Lc5, X5, hQ5, st5⟩ := own_cS X4 hx hZ (y := own_z31) hown (wd158 hw) (wd159 hw) (wd160 hw) (wd161 hw) (by decide) (rmmx l Z a0 hw [] (0 : Int32) (0 : Int32) (0 : Int32) h0 n0 Z0 (by decide)) 0 (by decide) (g := (mkF m 11 #[.val (.ref a1), .val (.int p1), .val (.int (0 : Int32)), .val (.int (4 : Int32))] [(.int (0 : Int32)), (.int (0 : Int32))])) rfl hml.symm [(.int (0 : Int32)), (.int (0 : Int32))] [] (lenOf pd_mx rfl) rfl rfl (hb hby d28_11) q4 rfl
  obtain ⟨rfl, N5q, q5⟩ := hQ5
  have N5 := Fr.app N4 N5q
  have Vc6 := As
  obtain ⟨cl6, Ar6, qq6, sz6, nn6, Ha6, Gf6⟩ := Vc6
  obtain ⟨_, T7, Lc7, X7, hQ7, st7⟩ := own_cS X5 hx hZ (y := own_z32) hown (wd162 hw) (wd163 hw) (wd160 hw) (wd164 hw) (by decide) (rmmn l Z a0 hw [] (4 : Int32) (4 : Int32) (4 : Int32) h0 n0 Z0 (by decide)) 0 (by decide) (g := (mkF m 18 #[.val (.ref a1), .val (.int p1), .val (.int (0 : Int32)), .val (.int (4 : Int32))] [(.int (4 : Int32)), (.int (4 : Int32))])) rfl hml.symm [(.int (4 : Int32)), (.int (4 : Int32))] [] (lenOf pd_mx rfl) rfl rfl (hb hby d28_18) q5 rfl
  obtain ⟨rfl, N7q, q7⟩ := hQ7
  have N7 := Fr.app N5 N7q
  obtain ⟨_, T8, Lc8, X8, hQ8, st8⟩ := own_cS X7 hx hZ (y := own_z33) hown (wd165 hw) (wd166 hw) (wd130 hw) (wd167 hw) (by decide) (rmlc4 l Z a0 hw [] a1 k1 123 125 36 92 p1 h0 n0 Z0 As ⟨by decide, by decide⟩ ⟨by decide, by decide⟩ ⟨by decide, by decide⟩ ⟨by decide, by decide⟩ (by decide) (by decide) (by decide) (by decide) ⟨hbp.1, hcw⟩) 0 (by decide) (g := (mkF m 33 #[.val (.ref a1), .val (.int p1), .val (.int (0 : Int32)), .val (.int (4 : Int32))] [(.int (4 : Int32)), (.int (0 : Int32)), (.int p1), (.ref a1)])) rfl hml.symm [(.ref a1), (.int p1), (.int (0 : Int32)), (.int (4 : Int32))] [] (lenOf pd_lc4 rfl) rfl rfl (hb hby d28_33) q7 rfl
  obtain ⟨r8, rfl, N8q, q8, hr8⟩ := hQ8
  have N8 := Fr.app N7 N8q
  have pre9 : own_pr p e below PP T8 (mkF m 36 #[.val (.ref a1), .val (.int p1), .val (.int (0 : Int32)), .val (.int (4 : Int32))] [(.int r8)]) := fun τ κ => pre0 τ (by
   show own_st p e below s₁ (mkF m 0 #[.val (.ref a1), .val (.int p1), .val (.int (0 : Int32)), .val (.int (4 : Int32))] []) _
   refine XS.iloadN X0.here hx rfl (hb hby d28_0) rfl ?_
   refine st4 _ ?_
   refine XS.ifYes X4.here hx rfl (pc0 := 4) (pc' := 9) rfl (hb hby d28_4) rfl ((if0 _ _).trans (feq (by decide : ¬ ((1 : Int32) = (0 : Int32)))).2) (by decide) (by decide) ?_
   refine XS.iloadN X4.here hx rfl (hb hby d28_9) rfl ?_
   refine XS.iconst X4.here hx rfl (hb hby d28_10) ?_
   refine st5 _ ?_
   refine XS.istoreN X5.here hx rfl (hb hby d28_14) rfl (l' := #[.val (.ref a1), .val (.int p1), .val (.int (0 : Int32)), .val (.int (4 : Int32))]) rfl ?_
   refine XS.iloadN X5.here hx rfl (hb hby d28_15) rfl ?_
   refine XS.aloadN X5.here hx rfl (hb hby d28_16) rfl rfl ?_
   refine X5.arraylength hx (by rw [q5]; exact Ar6.1) (State.isArrayOf_alike hZ.alike Ar6.2.1) (g := (mkF m 17 #[.val (.ref a1), .val (.int p1), .val (.int (0 : Int32)), .val (.int (4 : Int32))] [(.ref a1), (.int (4 : Int32))])) rfl rfl (hb hby d28_17) _ ?_
   rw [len_of sz6 nn6]
   refine st7 _ ?_
   refine XS.istoreN X7.here hx rfl (hb hby d28_21) rfl (l' := #[.val (.ref a1), .val (.int p1), .val (.int (0 : Int32)), .val (.int (4 : Int32))]) rfl ?_
   refine XS.iloadN X7.here hx rfl (hb hby d28_22) rfl ?_
   refine XS.iloadN X7.here hx rfl (hb hby d28_23) rfl ?_
   refine XS.icmpYes X7.here hx rfl (pc0 := 24) (pc' := 29) rfl (hb hby d28_24) rfl (tlt (by decide : (0 : Int32) < (4 : Int32))).1 (by decide) (by decide) ?_
   refine XS.aloadN X7.here hx rfl (hb hby d28_29) rfl rfl ?_
   refine XS.iloadN X7.here hx rfl (hb hby d28_30) rfl ?_
   refine XS.iloadN X7.here hx rfl (hb hby d28_31) rfl ?_
   refine XS.iloadN X7.here hx rfl (hb hby d28_32) rfl ?_
   refine st8 _ ?_
   exact κ)
  obtain ⟨fs10, hr10, hrun10, hended10, hW10, hsame10⟩ := X8.leave (v := some (.int r8)) (fun h => by rw [Bd.returns] at h; cases h)
  refine ⟨_, _, hPs _ (pre9 _ ?_), hrun10, hended10, _, _, rfl, ?_, ⟨_, rfl⟩, hW10, hsame10.mono (by decide) (by decide)⟩
  ·show own_st p e below T8 (mkF m 36 #[.val (.ref a1), .val (.int p1), .val (.int (0 : Int32)), .val (.int (4 : Int32))] [(.int r8)]) _
   exact retOut X8 hx (t := .int) Bd.returns rfl (Or.inl ⟨rfl, Or.inl rfl, _, rfl⟩) (hb hby d28_36) hr10
  ·show Qli Z a1 k1 p1 h0 n0 _ T8.heap _
   rw [q8]
   exact ⟨_, rfl, N8, rfl, hr8⟩

theorem d27_0 : own_D own_c54 0 (.aload_n 0) 1 := by decide +kernel
theorem d27_1 : own_D own_c54 1 (.invokevirtual 492) 3 := by decide +kernel
theorem d27_4 : own_D own_c54 4 (.ifCond .eq 19) 3 := by decide +kernel
theorem d27_7 : own_D own_c54 7 (.aload_n 0) 1 := by decide +kernel
theorem d27_8 : own_D own_c54 8 (.getfield 9) 3 := by decide +kernel
theorem d27_11 : own_D own_c54 11 (.iload_n 1) 1 := by decide +kernel
theorem d27_12 : own_D own_c54 12 (.iload_n 2) 1 := by decide +kernel
theorem d27_13 : own_D own_c54 13 (.aload_n 0) 1 := by decide +kernel
theorem d27_14 : own_D own_c54 14 (.invokevirtual 505) 3 := by decide +kernel
theorem d27_17 : own_D own_c54 17 (.invokestatic 637) 3 := by decide +kernel
theorem d27_20 : own_D own_c54 20 (.goto 16) 3 := by decide +kernel
theorem d27_36 : own_D own_c54 36 (.ireturn) 1 := by decide +kernel


def Qxg (Z : State) (x tv : Addr) (kb : ClassId) (p1 : Int32) (h0 : Heap) (n0 : Nat) (v : Option Value) (h : Heap) (L : List Loc) : Prop := own_QI h0 n0 (own_P p1) v h L
theorem rmxg (l : Launch) (Z : State) (a0 : Array Value) (hw : own_W Z a0) (ws : List Jvm.Cond) (x tv : Addr) (kb : ClassId) (p1 : Int32) (h0 : Heap) (n0 : Nat) (Z0 : n0 ≤ h0.size) (EN : own_env Z h0) (Ex : Exa Z h0 x "java/lang/String") (Vv : Fld Z h0 x "java/lang/String" "value" "[B" (.ref tv)) (Cc : Fld Z h0 x "java/lang/String" "coder" "B" (.int 0)) (Kk : Arv Z h0 tv kb .byte (4 : Int32) [.int 123, .int 125, .int 36, .int 92] (.int 0)) (hbp : own_b p1) :
  own_M l Z own_z28 own_c54 3 (some .int) ({ frames := 2, cells := 0, slots := 0, locals := 33 } : Room) ws #[(.ref x), (.int p1), (.int (0 : Int32))] h0 (Qxg Z x tv kb p1 h0 n0) := by
 refine MetFree.of_bodySF (plainFor_of_name pn_k2) hisR ?_
 intro p e s m args below meth c s₁ Bd hml0 hP hK
 obtain ⟨rfl, hZ, hh⟩ := hP
 have hx := Bd.exec
 have hby := Bd.bytes
 have hml : c.maxLocals = 3 := hml0
 have hown : s.vm.findClass "java/lang/String" = some m.cls := findClass_of_methodNamed Bd.named
 have X0 : Stand p l e ({ frames := 2, cells := 0, slots := 0, locals := 33 } : Room) s m #[(.ref x), (.int p1), (.int (0 : Int32))] below meth c s₁ [] 0 0 := Stand.of_body Bd
 have e0 : s₁.heap = h0 := by rw [← hh, Bd.state]; rfl
 have N0 := Fr.nil n0
 obtain ⟨PP, hPs, pre0⟩ : ∃ PP : State → Prop, (∀ t, PP t → Steps p.tables e below (s₁.setTop (entryFrame m #[(.ref x), (.int p1), (.int (0 : Int32))] 3)) t) ∧ own_pr p e below PP s₁ (mkF m 0 #[.val (.ref x), .val (.int p1), .val (.int (0 : Int32))] []) := ⟨_, fun _ κ => κ, fun τ κ => castTop (ef_pc m x p1 (0 : Int32)) κ⟩
 obtain ⟨_, T1, Lc1, X1, hQ1, st1⟩ := own_cV X0 hx hZ (y := own_z23) (z := own_z23) hown (wd123 hw) (wd124 hw) (wd126 hw) rfl (wd126 hw) (wd125 hw) (wd127 hw) (wd8 hw) (by decide) (rml1 l Z a0 hw [] x h0 n0 Z0 EN Cc) Ex 0 (by decide) (g := (mkF m 1 #[.val (.ref x), .val (.int p1), .val (.int (0 : Int32))] [(.ref x)])) rfl hml.symm [] [] (lenOf pd_l1 rfl) rfl rfl (hb hby d27_1) e0 rfl
 obtain ⟨rfl, N1q, q1⟩ := hQ1
 have N1 := Fr.app N0 N1q
 obtain ⟨T2, X2, e2, st2⟩ := getF X1 hx hZ hown (host := "") (Or.inl (wd26 hw)) Via.refl q1 Vv (g := (mkF m 8 #[.val (.ref x), .val (.int p1), .val (.int (0 : Int32))] [(.ref x)])) rfl rfl (hb hby d27_8)
 obtain ⟨_, T3, Lc3, X3, hQ3, st3⟩ := own_cV X2 hx hZ (y := own_z5) (z := own_z5) hown (wd151 hw) (wd36 hw) (wd38 hw) rfl (wd38 hw) (wd37 hw) (wd39 hw) (wd8 hw) (by decide) (rmsl l Z a0 hw [] x [123, 125, 36, 92] 0 h0 n0 Z0 ⟨tv, kb, _, _, Ex, Vv, Cc, Kk, Or.inl ⟨rfl, rfl, rfl, by decide⟩⟩ EN (by decide)) Ex 3 (by decide) (g := (mkF m 14 #[.val (.ref x), .val (.int p1), .val (.int (0 : Int32))] [(.ref x), (.int (0 : Int32)), (.int p1), (.ref tv)])) rfl hml.symm [] [(.int (0 : Int32)), (.int p1), (.ref tv)] (lenOf pd_sl rfl) rfl rfl (hb hby d27_14) e2 rfl
 obtain ⟨rfl, N3q, q3⟩ := hQ3
 have N3 := Fr.app N1 N3q
 obtain ⟨_, T4, Lc4, X4, hQ4, st4⟩ := own_cS X3 hx hZ (y := own_z29) hown (wd152 hw) (wd153 hw) (wd130 hw) (wd154 hw) (by decide) (rmli l Z a0 hw [] tv kb p1 h0 n0 Z0 Kk hbp) 0 (by decide) (g := (mkF m 17 #[.val (.ref x), .val (.int p1), .val (.int (0 : Int32))] [(.int (4 : Int32)), (.int (0 : Int32)), (.int p1), (.ref tv)])) rfl hml.symm [(.ref tv), (.int p1), (.int (0 : Int32)), (.int (4 : Int32))] [] (lenOf pd_lc4 rfl) rfl rfl (hb hby d27_17) q3 rfl
 obtain ⟨r4, rfl, N4q, q4, hr4⟩ := hQ4
 have N4 := Fr.app N3 N4q
 have pre5 : own_pr p e below PP T4 (mkF m 36 #[.val (.ref x), .val (.int p1), .val (.int (0 : Int32))] [(.int r4)]) := fun τ κ => pre0 τ (by
  show own_st p e below s₁ (mkF m 0 #[.val (.ref x), .val (.int p1), .val (.int (0 : Int32))] []) _
  refine XS.aloadN X0.here hx rfl (hb hby d27_0) rfl rfl ?_
  refine st1 _ ?_
  refine XS.ifNo X1.here hx rfl (hb hby d27_4) rfl ((if0 _ _).trans (feq (by decide : ¬ ((1 : Int32) = (0 : Int32)))).1) ?_
  refine XS.aloadN X1.here hx rfl (hb hby d27_7) rfl rfl ?_
  refine st2 _ ?_
  refine XS.iloadN X2.here hx rfl (hb hby d27_11) rfl ?_
  refine XS.iloadN X2.here hx rfl (hb hby d27_12) rfl ?_
  refine XS.aloadN X2.here hx rfl (hb hby d27_13) rfl rfl ?_
  refine st3 _ ?_
  refine st4 _ ?_
  refine XS.goto X4.here hx rfl (pc0 := 20) (pc' := 36) rfl (hb hby d27_20) (by decide) (by decide) ?_
  exact κ)
 obtain ⟨fs6, hr6, hrun6, hended6, hW6, hsame6⟩ := X4.leave (v := some (.int r4)) (fun h => by rw [Bd.returns] at h; cases h)
 refine ⟨_, _, hPs _ (pre5 _ ?_), hrun6, hended6, _, _, rfl, ?_, ⟨_, rfl⟩, hW6, hsame6.mono (by decide) (by decide)⟩
 ·show own_st p e below T4 (mkF m 36 #[.val (.ref x), .val (.int p1), .val (.int (0 : Int32))] [(.int r4)]) _
  exact retOut X4 hx (t := .int) Bd.returns rfl (Or.inl ⟨rfl, Or.inl rfl, _, rfl⟩) (hb hby d27_36) hr6
 ·show Qxg Z x tv kb p1 h0 n0 _ T4.heap _
  rw [q4]
  exact ⟨_, rfl, N4, rfl, hr4⟩

theorem d26_0 : own_D own_c55 0 (.aload_n 0) 1 := by decide +kernel
theorem d26_1 : own_D own_c55 1 (.iload_n 1) 1 := by decide +kernel
theorem d26_2 : own_D own_c55 2 (.iconst 0) 1 := by decide +kernel
theorem d26_3 : own_D own_c55 3 (.invokevirtual 633) 3 := by decide +kernel
theorem d26_6 : own_D own_c55 6 (.ireturn) 1 := by decide +kernel


def Qyg (Z : State) (x tv : Addr) (kb : ClassId) (p1 : Int32) (h0 : Heap) (n0 : Nat) (v : Option Value) (h : Heap) (L : List Loc) : Prop := own_QI h0 n0 (own_P p1) v h L
theorem rmyg (l : Launch) (Z : State) (a0 : Array Value) (hw : own_W Z a0) (ws : List Jvm.Cond) (x tv : Addr) (kb : ClassId) (p1 : Int32) (h0 : Heap) (n0 : Nat) (Z0 : n0 ≤ h0.size) (EN : own_env Z h0) (Ex : Exa Z h0 x "java/lang/String") (Vv : Fld Z h0 x "java/lang/String" "value" "[B" (.ref tv)) (Cc : Fld Z h0 x "java/lang/String" "coder" "B" (.int 0)) (Kk : Arv Z h0 tv kb .byte (4 : Int32) [.int 123, .int 125, .int 36, .int 92] (.int 0)) (hbp : own_b p1) :
  own_M l Z own_z27 own_c55 2 (some .int) ({ frames := 3, cells := 0, slots := 0, locals := 47 } : Room) ws #[(.ref x), (.int p1)] h0 (Qyg Z x tv kb p1 h0 n0) := by
 refine MetFree.of_bodySF (plainFor_of_name pn_k2) hisR ?_
 intro p e s m args below meth c s₁ Bd hml0 hP hK
 obtain ⟨rfl, hZ, hh⟩ := hP
 have hx := Bd.exec
 have hby := Bd.bytes
 have hml : c.maxLocals = 2 := hml0
 have hown : s.vm.findClass "java/lang/String" = some m.cls := findClass_of_methodNamed Bd.named
 have X0 : Stand p l e ({ frames := 3, cells := 0, slots := 0, locals := 47 } : Room) s m #[(.ref x), (.int p1)] below meth c s₁ [] 0 0 := Stand.of_body Bd
 have e0 : s₁.heap = h0 := by rw [← hh, Bd.state]; rfl
 have N0 := Fr.nil n0
 obtain ⟨PP, hPs, pre0⟩ : ∃ PP : State → Prop, (∀ t, PP t → Steps p.tables e below (s₁.setTop (entryFrame m #[(.ref x), (.int p1)] 2)) t) ∧ own_pr p e below PP s₁ (mkF m 0 #[.val (.ref x), .val (.int p1)] []) := ⟨_, fun _ κ => κ, fun τ κ => castTop (ef_gc m x p1) κ⟩
 obtain ⟨_, T1, Lc1, X1, hQ1, st1⟩ := own_cV X0 hx hZ (y := own_z28) (z := own_z28) hown (wd146 hw) (wd147 hw) (wd149 hw) rfl (wd149 hw) (wd148 hw) (wd150 hw) (wd8 hw) (by decide) (rmxg l Z a0 hw [] x tv kb p1 h0 n0 Z0 EN Ex Vv Cc Kk hbp) Ex 0 (by decide) (g := (mkF m 3 #[.val (.ref x), .val (.int p1)] [(.int (0 : Int32)), (.int p1), (.ref x)])) rfl hml.symm [(.int p1), (.int (0 : Int32))] [] (lenOf pd_mx rfl) rfl rfl (hb hby d26_3) e0 rfl
 obtain ⟨r1, rfl, N1q, q1, hr1⟩ := hQ1
 have N1 := Fr.app N0 N1q
 have pre2 : own_pr p e below PP T1 (mkF m 6 #[.val (.ref x), .val (.int p1)] [(.int r1)]) := fun τ κ => pre0 τ (by
  show own_st p e below s₁ (mkF m 0 #[.val (.ref x), .val (.int p1)] []) _
  refine XS.aloadN X0.here hx rfl (hb hby d26_0) rfl rfl ?_
  refine XS.iloadN X0.here hx rfl (hb hby d26_1) rfl ?_
  refine XS.iconst X0.here hx rfl (hb hby d26_2) ?_
  refine st1 _ ?_
  exact κ)
 obtain ⟨fs3, hr3, hrun3, hended3, hW3, hsame3⟩ := X1.leave (v := some (.int r1)) (fun h => by rw [Bd.returns] at h; cases h)
 refine ⟨_, _, hPs _ (pre2 _ ?_), hrun3, hended3, _, _, rfl, ?_, ⟨_, rfl⟩, hW3, hsame3.mono (by decide) (by decide)⟩
 ·show own_st p e below T1 (mkF m 6 #[.val (.ref x), .val (.int p1)] [(.int r1)]) _
  exact retOut X1 hx (t := .int) Bd.returns rfl (Or.inl ⟨rfl, Or.inl rfl, _, rfl⟩) (hb hby d26_6) hr3
 ·show Qyg Z x tv kb p1 h0 n0 _ T1.heap _
  rw [q1]
  exact ⟨_, rfl, N1, rfl, hr1⟩

def own_EL : List (String × Nat) := [("java/lang/String", 7), ("com/example/oxpecker/oxpecker/MessageTemplate", 65)]
theorem own_EW {Z : State} {a0 : Array Value} (hw : own_W Z a0) : EW Z a0 own_EL := EW.cons (hw _ (List.mem_of_getElem? (i := 20) rfl)) (by decide) (EW.cons (hw _ (List.mem_of_getElem? (i := 140) rfl)) (by decide) EW.nil)
theorem own_sb {Z : State} {h : Heap} {a b : Addr} {k : ClassId} {z : Int32} {vs : List Value} {d : Value} {n : Nat} {a0 : Array Value} (E : Exa Z h a "java/lang/String") (w : (Jvm.Cond.instantiable "java/lang/String" n).before a0 Z = true) (F : Arv Z h b k .byte z vs d) : a ≠ b := E.neArv F w
theorem own_safe {Z : State} {EL : List (String × Nat)} {vm : Vm} {h : Heap} {x : Addr} {a0 : Array Value} {n : Nat} (hal : Z.vm.Alike vm) (wi : (Jvm.Cond.instantiable "java/lang/String" n).before a0 Z = true) (E : Exa Z h x "java/lang/String") (V : Fld Z h x "java/lang/String" "value" "[B" .null) : Safe Z EL vm h x := fun B => by
 obtain ⟨p, hp, u, a, hb, q, hq, F, hx⟩ := B
 obtain ⟨cS, ⟨⟨s1, s2, s3, ⟨cv, kv, iv, s4, s4'⟩, ⟨cc, kc, ic, s5, s5'⟩, s6, s7, s8, s9, s10, s11, s12, s13, s14, s15, s16⟩, hfS, hcS⟩, r⟩ := F
 rcases hx with hx | hx
 ·subst hx
  obtain ⟨kv', z4⟩ := ff_back (U := Wst Z vm h) hal s4
  obtain ⟨cell, cf, k, i, f, h1, h2, h3, h4, h5, h6, h7⟩ := V
  cases h1.symm.trans s1
  cases h2.symm.trans z4
  rw [s8] at h7
  cases h7
 ·subst hx
  obtain ⟨c1, k1, e1, e2, e3, -⟩ := E
  cases e1.symm.trans s10
  obtain ⟨c2, k2, i1, i2, i3, -⟩ := Cond.instantiable_spec wi
  cases e2.symm.trans i1
  obtain ⟨k', q1, q2⟩ := hal.2.2 _ _ i2
  obtain ⟨hst, k9, hk9, comp, hkind9⟩ := s11
  have hk9 : vm.classes[q.SA.cls]? = some k9 := hk9
  have e9 : k9 = k' := Option.some.inj (hk9.symm.trans q1)
  have q4 : k'.kind = .ordinary := by rw [q2]; exact i3
  rw [e9, q4] at hkind9
  cases hkind9
theorem own_m0 : ∀ c ∈ ([] : List Int32), ¬ c < 0 ∧ ¬ (65535 : Int32) < c := fun _ q => nomatch q
theorem own_m1 {a : Int32} (ha : own_b a) {cs : List Int32} (h : ∀ c ∈ cs, ¬ c < 0 ∧ ¬ (65535 : Int32) < c) : ∀ c ∈ a :: cs, ¬ c < 0 ∧ ¬ (65535 : Int32) < c := fun c hc => by
 rcases List.mem_cons.mp hc with rfl | q
 ·exact ha
 ·exact h c q


def Qi4 (Z : State) (a1 a2 : Addr) (h0 : Heap) (n0 : Nat) (v : Option Value) (h : Heap) (L : List Loc) : Prop := v = none ∧ Fr n0 L ∧ Keep h0 h [a1] ∧ ∃ cd, own_s Z h a1 [] cd
theorem rmi4 (l : Launch) (Z : State) (a0 : Array Value) (hw : own_W Z a0) (ws : List Jvm.Cond) (a1 a2 : Addr) (h0 : Heap) (n0 : Nat) (Z0 : n0 ≤ h0.size) (F1 : Fld Z h0 a1 "java/lang/String" "value" "[B" .null) (C1 : Fld Z h0 a1 "java/lang/String" "coder" "B" (.int 0)) (E1 : Exa Z h0 a1 "java/lang/String") (g1 : n0 ≤ a1) :
  MetFree l own_z2 (head1 (Jvm.Cond.code own_z2 own_c23 6 none :: ws) ({ frames := 1, cells := 4, slots := 8, locals := 12 } : Room)) (fun a U => a = #[(.ref a1), (.ref a2), (.int (0 : Int32)), (.int (0 : Int32)), .null] ∧ Z.Warmed39 U.vm ∧ U.heap = h0 ∧ CHv Z own_EL U.vm h0) (fun _ _ _ _ _ => True) (fun _ U o U' => ∃ v L, o = .returned v ∧ Qi4 Z a1 a2 h0 n0 v U'.heap L ∧ CHr Z own_EL U.vm U.heap U'.vm U'.heap ∧ ReturnedEndW U o U' L ({ frames := 1, cells := 4, slots := 8, locals := 12 } : Room).cells ({ frames := 1, cells := 4, slots := 8, locals := 12 } : Room).slots) := by
 refine MetFree.of_bodySF (plainFor_of_name pn_k2) hisR ?_
 intro p e s m args below meth c s₁ Bd hml0 hP hK
 obtain ⟨rfl, hZ, hh, hCH⟩ := hP
 have hx := Bd.exec
 have hby := Bd.bytes
 have hml : c.maxLocals = 6 := hml0
 have hown : s.vm.findClass "java/lang/String" = some m.cls := findClass_of_methodNamed Bd.named
 have hnm := (name_of_methodNamed Bd.named Bd.method).1
 have X0 : Stand p l e ({ frames := 1, cells := 4, slots := 8, locals := 12 } : Room) (s.setVm s.vm) m #[(.ref a1), (.ref a2), (.int (0 : Int32)), (.int (0 : Int32)), .null] below meth c s₁ [] 0 0 := Stand.of_body Bd
 have e0 : s₁.heap = h0 := by rw [← hh, Bd.state]; rfl
 have N0 := Fr.nil n0
 have hZ0 : Z.Warmed39 (s.setVm s.vm).vm := hZ
 have ho0 : (s.setVm s.vm).vm.findClass "java/lang/String" = some m.cls := hown
 have hS0 : s.Since s.vm h0.size := (State.WarmedH.refl s).since _
 have hEL : EW Z a0 own_EL := own_EW hw
 have wS : ∀ a ∈ Bundle.stringAtoms, a.before a0 Z = true := fun d hd => hw d ((by decide +kernel : ∀ d ∈ Bundle.stringAtoms, d ∈ tables_1) d hd)
 obtain ⟨PP, hPs, pre0⟩ : ∃ PP : State → Prop, (∀ t, PP t → Steps p.tables e below (s₁.setTop (entryFrame m #[(.ref a1), (.ref a2), (.int (0 : Int32)), (.int (0 : Int32)), .null] 6)) t) ∧ own_pr p e below PP s₁ (mkF m 0 #[.val (.ref a1), .val (.ref a2), .val (.int (0 : Int32)), .val (.int (0 : Int32)), .val .null, .unset] []) := ⟨_, fun _ κ => κ, fun τ κ => castTop (ef_w41 m a1 a2 (0 : Int32) (0 : Int32)) κ⟩
 have sf0 : Safe Z own_EL s.vm h0 a1 := own_safe hZ0.alike (wd7 hw) E1 F1
 obtain ⟨T1, X1, e1, st1⟩ := initO X0 hx hZ0 ho0 (wd17 hw) (wd18 hw) (wd19 hw) e0 (g := (mkF m 1 #[.val (.ref a1), .val (.ref a2), .val (.int (0 : Int32)), .val (.int (0 : Int32)), .val .null, .unset] [(.ref a1)])) rfl hml.symm rfl (hb hby d3_1) (by decide) (W := 0) (by show 2 * 0 + _ ≤ _; exact Nat.le_of_eq rfl) (by decide)
 obtain ⟨la2, T2, h2, k2, b2, kc2, X2, e2, E2, hS2, hk2, hZ2, ho2, A2, C2, V2, K2_, lt2, lb2, CQ2, Lt2, sf2, st2⟩ := ldcCH X1 hx hZ0 ho0 (wd20 hw) wS e1 hS0 (Nat.le_refl _) hEL (by decide) hCH (vs := []) (z := (0 : Int32)) ⟨by decide, rfl⟩ (by decide) rfl (g := (mkF m 9 #[.val (.ref a1), .val (.ref a2), .val (.int (0 : Int32)), .val (.int (0 : Int32)), .val .null, .unset] [(.ref a1)])) rfl (hb hby d3_9) (n := 0) (by decide) (by decide) (by decide) (by decide)
 have CR2 := (CHr.refl hCH).trans CQ2
 have CH2 := CQ2.1
 have F1_2 := F1.ext E2
 have C1_2 := C1.ext E2
 have E1_2 := E1.ext E2
 have K2 := (Keep.refl h0 []).ext E2
 have sfa := CHr.safe CQ2 F1.lt sf0
 obtain ⟨T3, X3, e3, st3⟩ := getF X2 hx hZ2 ho2 (host := "") (Or.inl (wd26 hw)) Via.refl e2 V2 (g := (mkF m 11 #[.val (.ref a1), .val (.ref a2), .val (.int (0 : Int32)), .val (.int (0 : Int32)), .val .null, .unset] [(.ref la2), (.ref a1)])) rfl rfl (hb hby d3_11)
 obtain ⟨T4, h4, X4, e4, W4, st4⟩ := putF X3 hx hZ2 ho2 (host := "") (Or.inl (wd26 hw)) Via.refl e3 F1_2 E1_2 (Or.inr ⟨(wd22 hw), rfl, hnm⟩) (wd7 hw) (ty := (.array .byte)) (by decide) rfl rfl (g := (mkF m 14 #[.val (.ref a1), .val (.ref a2), .val (.int (0 : Int32)), .val (.int (0 : Int32)), .val .null, .unset] [(.ref b2), (.ref a1)])) rfl rfl (hb hby d3_14)
 have N4 := Fr.snoc X4 N0 g1
 have F1_4 := F1_2.same W4
 have C1_4 := C1_2.other W4 (Or.inr (slot_ne (Or.inr (wd23 hw)) (Or.inr (wd22 hw)) (by decide) (t := .byte) (t' := (.array .byte)) (by decide) (by decide)))
 have E1_4 := E1_2.wr W4
 have K2__4 := K2_.other W4 (Ne.symm (sf2 _ sfa).2)
 have CR4 := CR2.trans (CHr.wr W4 sfa CH2)
 have CH4 := CHv.wr W4 sfa CH2
 have sfb := Safe.wr W4 sfa CH2 sfa
 obtain ⟨la5, T5, h5, k5, b5, kc5, X5, e5, E5, hS5, hk5, hZ5, ho5, A5, C5, V5, K5_, lt5, lb5, CQ5, Lt5, sf5, st5⟩ := ldcCH X4 hx hZ2 ho2 (wd20 hw) wS e4 hS2 (Nat.le_trans hk2 (Nat.le_of_eq W4.size.symm)) hEL (by decide) CH4 (vs := []) (z := (0 : Int32)) ⟨by decide, rfl⟩ (by decide) rfl (g := (mkF m 18 #[.val (.ref a1), .val (.ref a2), .val (.int (0 : Int32)), .val (.int (0 : Int32)), .val .null, .unset] [(.ref a1)])) rfl (hb hby d3_18) (n := 0) (by decide) (by decide) (by decide) (by decide)
 have CR5 := CR4.trans CQ5
 have CH5 := CQ5.1
 have F1_5 := F1_4.ext E5
 have C1_5 := C1_4.ext E5
 have E1_5 := E1_4.ext E5
 have K2__5 := K2__4.ext E5
 have sfc := CHr.safe CQ5 F1_4.lt sfb
 obtain ⟨T6, X6, e6, st6⟩ := getF X5 hx hZ5 ho5 (host := "") (Or.inl (wd27 hw)) Via.refl e5 C5 (g := (mkF m 20 #[.val (.ref a1), .val (.ref a2), .val (.int (0 : Int32)), .val (.int (0 : Int32)), .val .null, .unset] [(.ref la5), (.ref a1)])) rfl rfl (hb hby d3_20)
 have nbb : b2 ≠ a1 := fun q => own_sb E1_5 (wd7 hw) K2__5 q.symm
 obtain ⟨T7, h7, X7, e7, W7, st7⟩ := putFN X6 hx hZ5 ho5 (wd27 hw) Via.refl e6 C1_5 E1_5 (Or.inr ⟨(wd23 hw), rfl, hnm⟩) (wd7 hw) (ty := .byte) (v' := (.int (0 : Int32))) (by decide) rfl rfl (g := (mkF m 23 #[.val (.ref a1), .val (.ref a2), .val (.int (0 : Int32)), .val (.int (0 : Int32)), .val .null, .unset] [(.int (0 : Int32)), (.ref a1)])) rfl rfl (hb hby d3_23)
 have N7 := Fr.snoc X7 N4 g1
 have F1_7 := F1_5.other W7 (Or.inr (slot_ne (Or.inr (wd22 hw)) (Or.inr (wd23 hw)) (by decide) (t := (.array .byte)) (t' := .byte) (by decide) (by decide)))
 have C1_7 := C1_5.same W7
 have E1_7 := E1_5.wr W7
 have K2__7 := K2__5.other W7 nbb
 have CR7 := CR5.trans (CHr.wr W7 sfc CH5)
 have CH7 := CHv.wr W7 sfc CH5
 have pre8 : own_pr p e below PP T7 (mkF m 26 #[.val (.ref a1), .val (.ref a2), .val (.int (0 : Int32)), .val (.int (0 : Int32)), .val .null, .unset] []) := fun τ κ => pre0 τ (by
  show own_st p e below s₁ (mkF m 0 #[.val (.ref a1), .val (.ref a2), .val (.int (0 : Int32)), .val (.int (0 : Int32)), .val .null, .unset] []) _
  refine XS.aloadN X0.here hx rfl (hb hby d3_0) rfl rfl ?_
  refine st1 _ ?_
  refine XS.iloadN X1.here hx rfl (hb hby d3_4) rfl ?_
  refine XS.ifNo X1.here hx rfl (hb hby d3_5) rfl ((if0 _ _).trans (teq (by decide : (0 : Int32) = (0 : Int32))).2) ?_
  refine XS.aloadN X1.here hx rfl (hb hby d3_8) rfl rfl ?_
  refine st2 _ ?_
  refine st3 _ ?_
  refine st4 _ ?_
  refine XS.aloadN X4.here hx rfl (hb hby d3_17) rfl rfl ?_
  refine st5 _ ?_
  refine st6 _ ?_
  refine st7 _ ?_
  exact κ)
 obtain ⟨fs9, hr9, hrun9, hended9, hE9⟩ := X7.leaveW hS5 (by first | exact (Nat.le_trans hk5 (Nat.le_of_eq W7.size.symm)) | (rw [e7]; exact (Nat.le_trans hk5 (Nat.le_of_eq W7.size.symm)))) (v := none) (fun _ => rfl)
 refine ⟨_, _, hPs _ (pre8 _ ?_), hrun9, hended9, _, _, rfl, ?_, ?_, hE9.1, hE9.2.1, hE9.2.2.1, hE9.2.2.2.mono (by decide) (by decide)⟩
 ·show own_st p e below T7 (mkF m 26 #[.val (.ref a1), .val (.ref a2), .val (.int (0 : Int32)), .val (.int (0 : Int32)), .val .null, .unset] []) _
  exact X7.returnOut hx Bd.returns (hb hby d3_26) hr9
 ·show Qi4 Z a1 a2 h0 n0 _ T7.heap _
  rw [e7]
  exact ⟨rfl, N7, ((((Keep.refl h0 [a1]).ext E2).wr W4 (Or.inl (List.mem_singleton.mpr rfl))).ext E5).wr W7 (Or.inl (List.mem_singleton.mpr rfl)), 0, b2, _, _, _, E1_7, F1_7, C1_7, K2__7, Or.inl ⟨rfl, rfl, rfl, fun _ q => nomatch q⟩⟩
 ·show CHr Z own_EL s.vm s.heap T7.vm T7.heap
  rw [e7]
  rw [hh]
  exact CR7.trans (CHv.at X7 hZ5 hEL CH7)


def Qi1 (Z : State) (a1 a2 : Addr) (k2 : ClassId) (h0 : Heap) (n0 : Nat) (v : Option Value) (h : Heap) (L : List Loc) : Prop := v = none ∧ Fr n0 L ∧ Keep h0 h [a1] ∧ ∃ cd, own_s Z h a1 [] cd
theorem rmi1 (l : Launch) (Z : State) (a0 : Array Value) (hw : own_W Z a0) (ws : List Jvm.Cond) (a1 a2 : Addr) (k2 : ClassId) (h0 : Heap) (n0 : Nat) (Z0 : n0 ≤ h0.size) (F1 : Fld Z h0 a1 "java/lang/String" "value" "[B" .null) (C1 : Fld Z h0 a1 "java/lang/String" "coder" "B" (.int 0)) (E1 : Exa Z h0 a1 "java/lang/String") (g1 : n0 ≤ a1) (A2 : Arv Z h0 a2 k2 .char (0 : Int32) [] (.int 0)) :
  MetFree l own_z1 (head1 (Jvm.Cond.code own_z1 own_c24 2 none :: ws) ({ frames := 2, cells := 4, slots := 8, locals := 30 } : Room)) (fun a U => a = #[(.ref a1), (.ref a2)] ∧ Z.Warmed39 U.vm ∧ U.heap = h0 ∧ CHv Z own_EL U.vm h0) (fun _ _ _ _ _ => True) (fun _ U o U' => ∃ v L, o = .returned v ∧ Qi1 Z a1 a2 k2 h0 n0 v U'.heap L ∧ CHr Z own_EL U.vm U.heap U'.vm U'.heap ∧ ReturnedEndW U o U' L ({ frames := 2, cells := 4, slots := 8, locals := 30 } : Room).cells ({ frames := 2, cells := 4, slots := 8, locals := 30 } : Room).slots) := by
 refine MetFree.of_bodySF (plainFor_of_name pn_k2) hisR ?_
 intro p e s m args below meth c s₁ Bd hml0 hP hK
 obtain ⟨rfl, hZ, hh, hCH⟩ := hP
 have hx := Bd.exec
 have hby := Bd.bytes
 have hml : c.maxLocals = 2 := hml0
 have hown : s.vm.findClass "java/lang/String" = some m.cls := findClass_of_methodNamed Bd.named
 have X0 : Stand p l e ({ frames := 2, cells := 4, slots := 8, locals := 30 } : Room) (s.setVm s.vm) m #[(.ref a1), (.ref a2)] below meth c s₁ [] 0 0 := Stand.of_body Bd
 have e0 : s₁.heap = h0 := by rw [← hh, Bd.state]; rfl
 have N0 := Fr.nil n0
 have hZ0 : Z.Warmed39 (s.setVm s.vm).vm := hZ
 have ho0 : (s.setVm s.vm).vm.findClass "java/lang/String" = some m.cls := hown
 have hS0 : s.Since s.vm h0.size := (State.WarmedH.refl s).since _
 have hEL : EW Z a0 own_EL := own_EW hw
 have wS : ∀ a ∈ Bundle.stringAtoms, a.before a0 Z = true := fun d hd => hw d ((by decide +kernel : ∀ d ∈ Bundle.stringAtoms, d ∈ tables_1) d hd)
 obtain ⟨PP, hPs, pre0⟩ : ∃ PP : State → Prop, (∀ t, PP t → Steps p.tables e below (s₁.setTop (entryFrame m #[(.ref a1), (.ref a2)] 2)) t) ∧ own_pr p e below PP s₁ (mkF m 0 #[.val (.ref a1), .val (.ref a2)] []) := ⟨_, fun _ κ => κ, fun τ κ => castTop (ef_w11 m a1 a2) κ⟩
 have Vc1 := A2
 obtain ⟨cl1, Ar1, qq1, sz1, nn1, Ha1, Gf1⟩ := Vc1
 obtain ⟨_, _, ⟨T2, L2, k2, n2⟩, -, Y2, hSq2, hgq2, ⟨Lc2, hQ2, l2, y2, z2, CQ2⟩, st2⟩ := X0.specialBackS hx (y := own_z2) rfl ho0 (mvT hZ0 (wd13 hw)) (mvT hZ0 (wd14 hw)) (mvT hZ0 (wd16 hw)) (by decide) (backOfSH (W := 0) (rmi4 l Z a0 hw [] a1 a2 h0 n0 Z0 F1 C1 E1 g1) hZ0 (wd16 hw) (wd8 hw) (by decide) (by decide) hEL hCH) (g := (mkF m 6 #[.val (.ref a1), .val (.ref a2)] [.null, (.int (0 : Int32)), (.int (0 : Int32)), (.ref a2), (.ref a1)])) rfl hml.symm (Steps.refl _) (a := a1) (argsL := [(.ref a2), (.int (0 : Int32)), (.int (0 : Int32)), .null]) (rest := []) (lenOf pd_w41 rfl) rfl (by show 2 * 0 + _ ≤ _; exact Nat.le_of_eq rfl) (hb hby d2_6) (fun _ _ => ⟨rfl, e0, (by decide : 0 + 4 ≤ _), (by decide : 0 + 8 ≤ _)⟩)
 dsimp only [Pt.U, Pt.locs, Pt.cells, Pt.slots] at Y2 hSq2 hgq2 l2 y2 z2 st2 hQ2 CQ2
 subst l2 y2 z2
 obtain ⟨X2, hS2, hZ2, ho2⟩ := rebS hS0 (by first | exact (Nat.le_refl _) | (rw [e0]; exact (Nat.le_refl _))) Y2 hSq2 hgq2 hZ0 ho0
 obtain ⟨rfl, N2q, Kp2, S2⟩ := hQ2
 have N2 := Fr.app N0 N2q
 have CR2 := (CHr.refl hCH).trans CQ2
 have CH2 := CQ2.1
 have pre3 : own_pr p e below PP T2 (mkF m 9 #[.val (.ref a1), .val (.ref a2)] []) := fun τ κ => pre0 τ (by
  show own_st p e below s₁ (mkF m 0 #[.val (.ref a1), .val (.ref a2)] []) _
  refine XS.aloadN X0.here hx rfl (hb hby d2_0) rfl rfl ?_
  refine XS.aloadN X0.here hx rfl (hb hby d2_1) rfl rfl ?_
  refine XS.iconst X0.here hx rfl (hb hby d2_2) ?_
  refine XS.aloadN X0.here hx rfl (hb hby d2_3) rfl rfl ?_
  refine X0.arraylength hx (by rw [e0]; exact Ar1.1) (State.isArrayOf_alike hZ0.alike Ar1.2.1) (g := (mkF m 4 #[.val (.ref a1), .val (.ref a2)] [(.ref a2), (.int (0 : Int32)), (.ref a2), (.ref a1)])) rfl rfl (hb hby d2_4) _ ?_
  rw [len_of sz1 nn1]
  refine XS.aconstNull X0.here hx rfl (hb hby d2_5) ?_
  refine st2.trans ?_
  exact κ)
 obtain ⟨fs4, hr4, hrun4, hended4, hE4⟩ := X2.leaveW hS2 (by first | exact (Nat.le_refl _) | (rw [rfl]; exact (Nat.le_refl _))) (v := none) (fun _ => rfl)
 refine ⟨_, _, hPs _ (pre3 _ ?_), hrun4, hended4, _, _, rfl, ?_, ?_, hE4.1, hE4.2.1, hE4.2.2.1, hE4.2.2.2.mono (by decide) (by decide)⟩
 ·show own_st p e below T2 (mkF m 9 #[.val (.ref a1), .val (.ref a2)] []) _
  exact X2.returnOut hx Bd.returns (hb hby d2_9) hr4
 ·show Qi1 Z a1 a2 k2 h0 n0 _ T2.heap _
  exact ⟨rfl, N2, Kp2, S2⟩
 ·show CHr Z own_EL s.vm s.heap T2.vm T2.heap
  rw [hh]
  exact CR2.trans (CHv.at X2 hZ2 hEL CH2)

theorem d5_0 : own_D own_c56 0 (.new 41) 3 := by decide +kernel
theorem d5_3 : own_D own_c56 3 (.dup) 1 := by decide +kernel
theorem d5_4 : own_D own_c56 4 (.aload_n 0) 1 := by decide +kernel
theorem d5_5 : own_D own_c56 5 (.invokevirtual 19) 3 := by decide +kernel
theorem d5_8 : own_D own_c56 8 (.invokespecial 43) 3 := by decide +kernel
theorem d5_11 : own_D own_c56 11 (.astore_n 1) 1 := by decide +kernel
theorem d5_12 : own_D own_c56 12 (.iconst 0) 1 := by decide +kernel
theorem d5_13 : own_D own_c56 13 (.istore_n 2) 1 := by decide +kernel
theorem d5_14 : own_D own_c56 14 (.iload_n 2) 1 := by decide +kernel
theorem d5_15 : own_D own_c56 15 (.aload_n 0) 1 := by decide +kernel
theorem d5_16 : own_D own_c56 16 (.invokevirtual 19) 3 := by decide +kernel
theorem d5_19 : own_D own_c56 19 (.if_icmp .ge 37) 3 := by decide +kernel
theorem d5_22 : own_D own_c56 22 (.aload_n 0) 1 := by decide +kernel
theorem d5_23 : own_D own_c56 23 (.iload_n 2) 1 := by decide +kernel
theorem d5_24 : own_D own_c56 24 (.invokevirtual 61) 3 := by decide +kernel
theorem d5_27 : own_D own_c56 27 (.istore_n 3) 1 := by decide +kernel
theorem d5_28 : own_D own_c56 28 (.ldc 65) 2 := by decide +kernel
theorem d5_30 : own_D own_c56 30 (.iload_n 3) 1 := by decide +kernel
theorem d5_31 : own_D own_c56 31 (.invokevirtual 7) 3 := by decide +kernel
theorem d5_34 : own_D own_c56 34 (.ifCond .lt 10) 3 := by decide +kernel
theorem d5_37 : own_D own_c56 37 (.aload_n 1) 1 := by decide +kernel
theorem d5_38 : own_D own_c56 38 (.bipush 92) 2 := by decide +kernel
theorem d5_40 : own_D own_c56 40 (.invokevirtual 67) 3 := by decide +kernel
theorem d5_43 : own_D own_c56 43 (.pop) 1 := by decide +kernel
theorem d5_44 : own_D own_c56 44 (.aload_n 1) 1 := by decide +kernel
theorem d5_45 : own_D own_c56 45 (.iload_n 3) 1 := by decide +kernel
theorem d5_46 : own_D own_c56 46 (.invokevirtual 67) 3 := by decide +kernel
theorem d5_49 : own_D own_c56 49 (.pop) 1 := by decide +kernel
theorem d5_50 : own_D own_c56 50 (.iinc 2 1) 3 := by decide +kernel
theorem d5_53 : own_D own_c56 53 (.goto (-39)) 3 := by decide +kernel
theorem d5_56 : own_D own_c56 56 (.aload_n 1) 1 := by decide +kernel
theorem d5_57 : own_D own_c56 57 (.invokevirtual 53) 3 := by decide +kernel
theorem d5_60 : own_D own_c56 60 (.areturn) 1 := by decide +kernel

theorem pd_lit0 : parseMethodDescriptor "(Ljava/lang/String;)Ljava/lang/String;" = some ⟨[(.object "java/lang/String")], some (.object "java/lang/String")⟩ := by decide +kernel

theorem ef_lit0 (m : MethodId) (x0 : Addr)  : entryFrame m #[(.ref x0)] 4 = mkF m 0 #[.val (.ref x0), .unset, .unset, .unset] [] := by first | (simp [entryFrame, mkF, argsToLocals, Value.category]; done) | rfl
def Qlit0 (Z : State) (x : Addr) (cd : Int32)  (h0 : Heap) (n0 : Nat) (v : Option Value) (h : Heap) (L : List Loc) : Prop := ∃ y, v = some (.ref y) ∧ Fr n0 L ∧ Keep h0 h [] ∧ ∃ cd, own_s Z h y (own_esc []) cd
theorem rmlit0 (l : Launch) (Z : State) (a0 : Array Value) (hw : own_W Z a0) (ws : List Jvm.Cond) (x : Addr) (cd : Int32)  (h0 : Heap) (n0 : Nat) (Z0 : n0 ≤ h0.size) (SX : own_s Z h0 x [] cd) (EN : own_env Z h0)  :
  MetFree l own_z4 (head1 (Jvm.Cond.code own_z4 own_c56 4 (some (.object "java/lang/String")) :: ws) ({ frames := 8, cells := 4, slots := 27, locals := 118 } : Room)) (fun a U => a = #[(.ref x)] ∧ Z.Warmed39 U.vm ∧ U.heap = h0 ∧ CHv Z own_EL U.vm h0) (fun _ _ _ _ _ => True) (fun _ U o U' => ∃ v L, o = .returned v ∧ Qlit0 Z x cd  h0 n0 v U'.heap L ∧ CHr Z own_EL U.vm U.heap U'.vm U'.heap ∧ ReturnedEndW U o U' L ({ frames := 8, cells := 4, slots := 27, locals := 118 } : Room).cells ({ frames := 8, cells := 4, slots := 27, locals := 118 } : Room).slots) := by
 refine MetFree.of_bodySF (plainFor_of_name pn_k1) hisR ?_
 intro p e s m args below meth c s₁ Bd hml0 hP hK
 obtain ⟨rfl, hZ, hh, hCH⟩ := hP
 have hx := Bd.exec
 have hby := Bd.bytes
 have hml : c.maxLocals = 4 := hml0
 have hown : s.vm.findClass "com/example/oxpecker/oxpecker/MessageTemplate" = some m.cls := findClass_of_methodNamed Bd.named
 have X0 : Stand p l e ({ frames := 8, cells := 4, slots := 27, locals := 118 } : Room) (s.setVm s.vm) m #[(.ref x)] below meth c s₁ [] 0 0 := Stand.of_body Bd
 have e0 : s₁.heap = h0 := by rw [← hh, Bd.state]; rfl
 have N0 := Fr.nil n0
 have hZ0 : Z.Warmed39 (s.setVm s.vm).vm := hZ
 have ho0 : (s.setVm s.vm).vm.findClass "com/example/oxpecker/oxpecker/MessageTemplate" = some m.cls := hown
 have hS0 : s.Since s.vm h0.size := (State.WarmedH.refl s).since _
 have hEL : EW Z a0 own_EL := own_EW hw
 have wS : ∀ a ∈ Bundle.stringAtoms, a.before a0 Z = true := fun d hd => hw d ((by decide +kernel : ∀ d ∈ Bundle.stringAtoms, d ∈ tables_1) d hd)
 obtain ⟨PP, hPs, pre0⟩ : ∃ PP : State → Prop, (∀ t, PP t → Steps p.tables e below (s₁.setTop (entryFrame m #[(.ref x)] 4)) t) ∧ own_pr p e below PP s₁ (mkF m 0 #[.val (.ref x), .unset, .unset, .unset] []) := ⟨_, fun _ κ => κ, fun τ κ => castTop (ef_lit0 m x) κ⟩
 have SX9 := SX
 obtain ⟨_, _, _, _, Ex, -⟩ := SX9
 obtain ⟨T1, h1, X1, e1, E1, A1, D1, -, st1⟩ := newO X0 hx hZ0 ho0 (wd32 hw) (wd33 hw) (wd34 hw) e0 (g := (mkF m 0 #[.val (.ref x), .unset, .unset, .unset] [])) rfl (hb hby d5_0) (by decide) (by decide)
 obtain ⟨b1, gb1⟩ : ∃ z, z = h0.size := ⟨_, rfl⟩
 rw [← gb1] at A1 D1 st1
 have gn1 : n0 ≤ b1 := Nat.le_trans Z0 (Nat.le_of_eq gb1.symm)
 have sz1_b : h0.size ≤ b1 := Nat.le_trans (Keep.refl h0 []).1 (Nat.le_of_eq gb1.symm)
 have K1 := (Keep.refl h0 []).ext E1
 have F_value_b1 : Fld Z h1 b1 "java/lang/AbstractStringBuilder" "value" "[B" .null := D1 (Or.inl (wd58 hw)) (ty := (.array .byte)) (by decide)
 have F_coder_b1 : Fld Z h1 b1 "java/lang/AbstractStringBuilder" "coder" "B" (.int (0 : Int32)) := D1 (Or.inl (wd60 hw)) (ty := .byte) (by decide)
 have F_count_b1 : Fld Z h1 b1 "java/lang/AbstractStringBuilder" "count" "I" (.int (0 : Int32)) := D1 (Or.inl (wd88 hw)) (ty := .int) (by decide)
 have F_maybeLatin1_b1 : Fld Z h1 b1 "java/lang/AbstractStringBuilder" "maybeLatin1" "Z" (.int (0 : Int32)) := D1 (Or.inl (wd276 hw)) (ty := .boolean) (by decide)
 obtain ⟨_, T2, Lc2, X2, hQ2, st2⟩ := own_cV X1 hx hZ0 (y := own_z5) (z := own_z5) ho0 (wd35 hw) (wd36 hw) (wd38 hw) rfl (wd38 hw) (wd37 hw) (wd39 hw) (wd8 hw) (by decide) (rmsl l Z a0 hw [] x [] cd h1 n0 (Nat.le_trans Z0 E1.1) (SX.ext (own_ext K1)) (EN.ext (own_ext K1)) (by simp)) (Ex.ext (own_ext K1)) 2 (by decide) (g := (mkF m 5 #[.val (.ref x), .unset, .unset, .unset] [(.ref x), (.ref b1), (.ref b1)])) rfl hml.symm [] [(.ref b1), (.ref b1)] (lenOf pd_sl rfl) rfl rfl (hb hby d5_5) e1 rfl
 obtain ⟨rfl, N2q, q2⟩ := hQ2
 have N2 := Fr.app N0 N2q
 obtain ⟨_, T3, Lc3, X3, hQ3, st3⟩ := own_cI X2 hx hZ0 (y := own_z7) rfl ho0 (wd46 hw) (wd47 hw) (wd48 hw) (wd34 hw) (by decide) (rmsbi l Z a0 hw [] b1 0 h1 n0 (Nat.le_trans Z0 E1.1) A1 F_value_b1 F_coder_b1 F_count_b1 F_maybeLatin1_b1 gn1 (EN.ext (own_ext K1)) (by decide)) 1 (by decide) (g := (mkF m 8 #[.val (.ref x), .unset, .unset, .unset] [(.int (0 : Int32)), (.ref b1), (.ref b1)])) rfl hml.symm b1 [(.int (0 : Int32))] [(.ref b1)] (lenOf pd_ai rfl) rfl rfl (hb hby d5_8) q2 rfl
 obtain ⟨rfl, N3q, t3, Kp3, gz3, SB3⟩ := hQ3
 have N3 := Fr.app N2 N3q
 have szt3 : h0.size ≤ t3 := Nat.le_trans K1.1 gz3
 have xb3 := A1.keep Kp3
 have K3 := K1.trans Kp3 (fun x hx => by cases List.mem_singleton.mp hx; exact Or.inr sz1_b)
 have sft3 : Safe Z own_EL s.vm T3.heap t3 := Safe.ext (own_ext K3) hCH (Safe.new szt3)
 obtain ⟨_, T4, Lc4, X4, hQ4, st4⟩ := own_cV X3 hx hZ0 (y := own_z5) (z := own_z5) ho0 (wd35 hw) (wd36 hw) (wd38 hw) rfl (wd38 hw) (wd37 hw) (wd39 hw) (wd8 hw) (by decide) (rmsl l Z a0 hw [] x [] cd T3.heap n0 (Nat.le_trans (Nat.le_trans Z0 E1.1) Kp3.1) (SX.ext (own_ext K3)) (EN.ext (own_ext K3)) (by simp)) (Ex.ext (own_ext K3)) 1 (by decide) (g := (mkF m 16 #[.val (.ref x), .val (.ref b1), .val (.int (0 : Int32)), .unset] [(.ref x), (.int (0 : Int32))])) rfl hml.symm [] [(.int (0 : Int32))] (lenOf pd_sl rfl) rfl rfl (hb hby d5_16) rfl rfl
 obtain ⟨rfl, N4q, q4⟩ := hQ4
 have N4 := Fr.app N3 N4q
 obtain ⟨_, T5, Lc5, X5, hQ5, st5⟩ := own_cV X4 hx hZ0 (y := own_z9) (z := own_z9) ho0 (wd61 hw) (wd62 hw) (wd64 hw) rfl (wd64 hw) (wd63 hw) (wd65 hw) (wd34 hw) (by decide) (rmts l Z a0 hw [] b1 t3 [] 0 T3.heap n0 (Nat.le_trans (Nat.le_trans Z0 E1.1) Kp3.1) SB3 (EN.ext (own_ext K3)) (by decide)) xb3 0 (by decide) (g := (mkF m 57 #[.val (.ref x), .val (.ref b1), .val (.int (0 : Int32)), .unset] [(.ref b1)])) rfl hml.symm [] [] (lenOf pd_ts rfl) rfl rfl (hb hby d5_57) q4 rfl
 obtain ⟨y5, rfl, N5q, E5, cd5, S5⟩ := hQ5
 have N5 := Fr.app N4 N5q
 have K5 := K3.ext E5
 have pre6 : own_pr p e below PP T5 (mkF m 60 #[.val (.ref x), .val (.ref b1), .val (.int (0 : Int32)), .unset] [(.ref y5)]) := fun τ κ => pre0 τ (by
  show own_st p e below s₁ (mkF m 0 #[.val (.ref x), .unset, .unset, .unset] []) _
  refine st1 _ ?_
  refine XS.dup X1.here hx rfl (hb hby d5_3) rfl rfl ?_
  refine XS.aloadN X1.here hx rfl (hb hby d5_4) rfl rfl ?_
  refine st2 _ ?_
  refine st3 _ ?_
  refine XS.astoreN X3.here hx rfl (hb hby d5_11) rfl rfl (l' := #[.val (.ref x), .val (.ref b1), .unset, .unset]) rfl ?_
  refine XS.iconst X3.here hx rfl (hb hby d5_12) ?_
  refine XS.istoreN X3.here hx rfl (hb hby d5_13) rfl (l' := #[.val (.ref x), .val (.ref b1), .val (.int (0 : Int32)), .unset]) rfl ?_
  refine XS.iloadN X3.here hx rfl (hb hby d5_14) rfl ?_
  refine XS.aloadN X3.here hx rfl (hb hby d5_15) rfl rfl ?_
  refine st4 _ ?_
  refine XS.icmpYes X4.here hx rfl (pc0 := 19) (pc' := 56) rfl (hb hby d5_19) rfl (flt (by decide : ¬ ((0 : Int32) < (0 : Int32)))).2.1 (by decide) (by decide) ?_
  refine XS.aloadN X4.here hx rfl (hb hby d5_56) rfl rfl ?_
  refine st5 _ ?_
  exact κ)
 obtain ⟨fs7, hr7, hrun7, hended7, hE7⟩ := X5.leaveW hS0 (by first | exact K5.1 | (rw [rfl]; exact K5.1)) (v := some (.ref y5)) (fun h => by rw [Bd.returns] at h; cases h)
 refine ⟨_, _, hPs _ (pre6 _ ?_), hrun7, hended7, _, _, rfl, ?_, ?_, hE7.1, hE7.2.1, hE7.2.2.1, hE7.2.2.2.mono (by decide) (by decide)⟩
 ·show own_st p e below T5 (mkF m 60 #[.val (.ref x), .val (.ref b1), .val (.int (0 : Int32)), .unset] [(.ref y5)]) _
  exact retOut X5 hx (t := (.object "java/lang/String")) Bd.returns rfl (Or.inr (Or.inr (Or.inr (Or.inr ⟨rfl, rfl, rfl⟩)))) (hb hby d5_60) hr7
 ·show Qlit0 Z x cd  h0 n0 _ T5.heap _
  refine ⟨_, rfl, N5, K5, cd5, ?_⟩
  rw [show own_esc [] = [] from by simp [own_esc]]
  exact S5
 ·show CHr Z own_EL s.vm s.heap T5.vm T5.heap
  rw [hh]
  exact (CHr.ext (own_ext K5) hCH).trans (CHv.at X5 hZ0 hEL (CHv.ext (own_ext K5) hCH))


def Qlit1 (Z : State) (x : Addr) (cd : Int32) (c0 : Int32) (h0 : Heap) (n0 : Nat) (v : Option Value) (h : Heap) (L : List Loc) : Prop := ∃ y, v = some (.ref y) ∧ Fr n0 L ∧ Keep h0 h [] ∧ ∃ cd, own_s Z h y (own_esc [c0]) cd
theorem rmlit1 (l : Launch) (Z : State) (a0 : Array Value) (hw : own_W Z a0) (ws : List Jvm.Cond) (x : Addr) (cd : Int32) (c0 : Int32) (h0 : Heap) (n0 : Nat) (Z0 : n0 ≤ h0.size) (SX : own_s Z h0 x [c0] cd) (EN : own_env Z h0) (hb0 : own_b c0) :
  MetFree l own_z4 (head1 (Jvm.Cond.code own_z4 own_c56 4 (some (.object "java/lang/String")) :: ws) ({ frames := 8, cells := 10, slots := 111, locals := 118 } : Room)) (fun a U => a = #[(.ref x)] ∧ Z.Warmed39 U.vm ∧ U.heap = h0 ∧ CHv Z own_EL U.vm h0) (fun _ _ _ _ _ => True) (fun _ U o U' => ∃ v L, o = .returned v ∧ Qlit1 Z x cd c0 h0 n0 v U'.heap L ∧ CHr Z own_EL U.vm U.heap U'.vm U'.heap ∧ ReturnedEndW U o U' L ({ frames := 8, cells := 10, slots := 111, locals := 118 } : Room).cells ({ frames := 8, cells := 10, slots := 111, locals := 118 } : Room).slots) := by
 refine MetFree.of_bodySF (plainFor_of_name pn_k1) hisR ?_
 intro p e s m args below meth c s₁ Bd hml0 hP hK
 obtain ⟨rfl, hZ, hh, hCH⟩ := hP
 have hx := Bd.exec
 have hby := Bd.bytes
 have hml : c.maxLocals = 4 := hml0
 have hown : s.vm.findClass "com/example/oxpecker/oxpecker/MessageTemplate" = some m.cls := findClass_of_methodNamed Bd.named
 have X0 : Stand p l e ({ frames := 8, cells := 10, slots := 111, locals := 118 } : Room) (s.setVm s.vm) m #[(.ref x)] below meth c s₁ [] 0 0 := Stand.of_body Bd
 have e0 : s₁.heap = h0 := by rw [← hh, Bd.state]; rfl
 have N0 := Fr.nil n0
 have hZ0 : Z.Warmed39 (s.setVm s.vm).vm := hZ
 have ho0 : (s.setVm s.vm).vm.findClass "com/example/oxpecker/oxpecker/MessageTemplate" = some m.cls := hown
 have hS0 : s.Since s.vm h0.size := (State.WarmedH.refl s).since _
 have hEL : EW Z a0 own_EL := own_EW hw
 have wS : ∀ a ∈ Bundle.stringAtoms, a.before a0 Z = true := fun d hd => hw d ((by decide +kernel : ∀ d ∈ Bundle.stringAtoms, d ∈ tables_1) d hd)
 obtain ⟨PP, hPs, pre0⟩ : ∃ PP : State → Prop, (∀ t, PP t → Steps p.tables e below (s₁.setTop (entryFrame m #[(.ref x)] 4)) t) ∧ own_pr p e below PP s₁ (mkF m 0 #[.val (.ref x), .unset, .unset, .unset] []) := ⟨_, fun _ κ => κ, fun τ κ => castTop (ef_lit0 m x) κ⟩
 have SX9 := SX
 obtain ⟨_, _, _, _, Ex, -⟩ := SX9
 have el0 := own_el c0
 obtain ⟨T1, h1, X1, e1, E1, A1, D1, -, st1⟩ := newO X0 hx hZ0 ho0 (wd32 hw) (wd33 hw) (wd34 hw) e0 (g := (mkF m 0 #[.val (.ref x), .unset, .unset, .unset] [])) rfl (hb hby d5_0) (by decide) (by decide)
 obtain ⟨b1, gb1⟩ : ∃ z, z = h0.size := ⟨_, rfl⟩
 rw [← gb1] at A1 D1 st1
 have gn1 : n0 ≤ b1 := Nat.le_trans Z0 (Nat.le_of_eq gb1.symm)
 have sz1_b : h0.size ≤ b1 := Nat.le_trans (Keep.refl h0 []).1 (Nat.le_of_eq gb1.symm)
 have K1 := (Keep.refl h0 []).ext E1
 have F_value_b1 : Fld Z h1 b1 "java/lang/AbstractStringBuilder" "value" "[B" .null := D1 (Or.inl (wd58 hw)) (ty := (.array .byte)) (by decide)
 have F_coder_b1 : Fld Z h1 b1 "java/lang/AbstractStringBuilder" "coder" "B" (.int (0 : Int32)) := D1 (Or.inl (wd60 hw)) (ty := .byte) (by decide)
 have F_count_b1 : Fld Z h1 b1 "java/lang/AbstractStringBuilder" "count" "I" (.int (0 : Int32)) := D1 (Or.inl (wd88 hw)) (ty := .int) (by decide)
 have F_maybeLatin1_b1 : Fld Z h1 b1 "java/lang/AbstractStringBuilder" "maybeLatin1" "Z" (.int (0 : Int32)) := D1 (Or.inl (wd276 hw)) (ty := .boolean) (by decide)
 obtain ⟨_, T2, Lc2, X2, hQ2, st2⟩ := own_cV X1 hx hZ0 (y := own_z5) (z := own_z5) ho0 (wd35 hw) (wd36 hw) (wd38 hw) rfl (wd38 hw) (wd37 hw) (wd39 hw) (wd8 hw) (by decide) (rmsl l Z a0 hw [] x [c0] cd h1 n0 (Nat.le_trans Z0 E1.1) (SX.ext (own_ext K1)) (EN.ext (own_ext K1)) (by simp)) (Ex.ext (own_ext K1)) 2 (by decide) (g := (mkF m 5 #[.val (.ref x), .unset, .unset, .unset] [(.ref x), (.ref b1), (.ref b1)])) rfl hml.symm [] [(.ref b1), (.ref b1)] (lenOf pd_sl rfl) rfl rfl (hb hby d5_5) e1 rfl
 obtain ⟨rfl, N2q, q2⟩ := hQ2
 have N2 := Fr.app N0 N2q
 obtain ⟨_, T3, Lc3, X3, hQ3, st3⟩ := own_cI X2 hx hZ0 (y := own_z7) rfl ho0 (wd46 hw) (wd47 hw) (wd48 hw) (wd34 hw) (by decide) (rmsbi l Z a0 hw [] b1 1 h1 n0 (Nat.le_trans Z0 E1.1) A1 F_value_b1 F_coder_b1 F_count_b1 F_maybeLatin1_b1 gn1 (EN.ext (own_ext K1)) (by decide)) 1 (by decide) (g := (mkF m 8 #[.val (.ref x), .unset, .unset, .unset] [(.int (1 : Int32)), (.ref b1), (.ref b1)])) rfl hml.symm b1 [(.int (1 : Int32))] [(.ref b1)] (lenOf pd_ai rfl) rfl rfl (hb hby d5_8) q2 rfl
 obtain ⟨rfl, N3q, t3, Kp3, gz3, SB3⟩ := hQ3
 have N3 := Fr.app N2 N3q
 have szt3 : h0.size ≤ t3 := Nat.le_trans K1.1 gz3
 have xb3 := A1.keep Kp3
 have K3 := K1.trans Kp3 (fun x hx => by cases List.mem_singleton.mp hx; exact Or.inr sz1_b)
 have sft3 : Safe Z own_EL s.vm T3.heap t3 := Safe.ext (own_ext K3) hCH (Safe.new szt3)
 obtain ⟨_, T4, Lc4, X4, hQ4, st4⟩ := own_cV X3 hx hZ0 (y := own_z5) (z := own_z5) ho0 (wd35 hw) (wd36 hw) (wd38 hw) rfl (wd38 hw) (wd37 hw) (wd39 hw) (wd8 hw) (by decide) (rmsl l Z a0 hw [] x [c0] cd T3.heap n0 (Nat.le_trans (Nat.le_trans Z0 E1.1) Kp3.1) (SX.ext (own_ext K3)) (EN.ext (own_ext K3)) (by simp)) (Ex.ext (own_ext K3)) 1 (by decide) (g := (mkF m 16 #[.val (.ref x), .val (.ref b1), .val (.int (0 : Int32)), .unset] [(.ref x), (.int (0 : Int32))])) rfl hml.symm [] [(.int (0 : Int32))] (lenOf pd_sl rfl) rfl rfl (hb hby d5_16) rfl rfl
 obtain ⟨rfl, N4q, q4⟩ := hQ4
 have N4 := Fr.app N3 N4q
 obtain ⟨_, T5, Lc5, X5, hQ5, st5⟩ := own_cV X4 hx hZ0 (y := own_z22) (z := own_z22) ho0 (wd118 hw) (wd119 hw) (wd121 hw) rfl (wd121 hw) (wd120 hw) (wd122 hw) (wd8 hw) (by decide) (rmch l Z a0 hw [] x [c0] cd c0 0 T3.heap n0 (Nat.le_trans (Nat.le_trans Z0 E1.1) Kp3.1) (SX.ext (own_ext K3)) (EN.ext (own_ext K3)) (by simp) (by simp) rfl hb0) (Ex.ext (own_ext K3)) 0 (by decide) (g := (mkF m 24 #[.val (.ref x), .val (.ref b1), .val (.int (0 : Int32)), .unset] [(.int (0 : Int32)), (.ref x)])) rfl hml.symm [(.int (0 : Int32))] [] (lenOf pd_pk rfl) rfl rfl (hb hby d5_24) q4 rfl
 obtain ⟨rfl, N5q, q5⟩ := hQ5
 have N5 := Fr.app N4 N5q
 have Sz5 := SB3
 obtain ⟨kt5, _, _, _, -, -, -, -, -, -, At5, -⟩ := Sz5
 obtain ⟨la6, T6, h6, k6, b6, kc6, X6, e6, E6, hS6, hk6, hZ6, ho6, A6, C6, V6, K6_, lt6, lb6, CQ6, Lt6, sf6, st6⟩ := ldcCH X5 hx hZ0 ho0 (wd140 hw) wS q5 hS0 K3.1 hEL (by decide) (CHv.ext (own_ext K3) hCH) (vs := [.int 123, .int 125, .int 36, .int 92]) (z := (4 : Int32)) ⟨by decide, rfl⟩ (by decide) rfl (g := (mkF m 28 #[.val (.ref x), .val (.ref b1), .val (.int (0 : Int32)), .val (.int c0)] [])) rfl (hb hby d5_28) (n := 16) (by decide) (by decide) (by decide) (by decide)
 have CR6 := (CHr.ext (own_ext K3) hCH).trans CQ6
 have CH6 := CQ6.1
 have K6 := K3.ext E6
 have sft6 := CHr.safe CQ6 At5.lt sft3
 have SB6 := SB3.ext E6
 have xb6 := xb3.ext E6
 obtain ⟨_, T7, Lc7, X7, hQ7, st7⟩ := own_cV X6 hx hZ6 (y := own_z27) (z := own_z27) ho6 (wd141 hw) (wd142 hw) (wd144 hw) rfl (wd144 hw) (wd143 hw) (wd145 hw) (wd8 hw) (by decide) (rmyg l Z a0 hw [] la6 b6 kc6 c0 h6 n0 (Nat.le_trans (Nat.le_trans (Nat.le_trans Z0 E1.1) Kp3.1) E6.1) (EN.ext (own_ext K6)) A6 V6 C6 K6_ hb0) A6 0 (by decide) (g := (mkF m 31 #[.val (.ref x), .val (.ref b1), .val (.int (0 : Int32)), .val (.int c0)] [(.int c0), (.ref la6)])) rfl hml.symm [(.int c0)] [] (lenOf pd_bl1 rfl) rfl rfl (hb hby d5_31) e6 rfl
 obtain ⟨r7, rfl, N7q, q7, hr7⟩ := hQ7
 have N7 := Fr.app N5 N7q
 have pre8 : own_pr p e below PP T7 (mkF m 34 #[.val (.ref x), .val (.ref b1), .val (.int (0 : Int32)), .val (.int c0)] [(.int r7)]) := fun τ κ => pre0 τ (by
  show own_st p e below s₁ (mkF m 0 #[.val (.ref x), .unset, .unset, .unset] []) _
  refine st1 _ ?_
  refine XS.dup X1.here hx rfl (hb hby d5_3) rfl rfl ?_
  refine XS.aloadN X1.here hx rfl (hb hby d5_4) rfl rfl ?_
  refine st2 _ ?_
  refine st3 _ ?_
  refine XS.astoreN X3.here hx rfl (hb hby d5_11) rfl rfl (l' := #[.val (.ref x), .val (.ref b1), .unset, .unset]) rfl ?_
  refine XS.iconst X3.here hx rfl (hb hby d5_12) ?_
  refine XS.istoreN X3.here hx rfl (hb hby d5_13) rfl (l' := #[.val (.ref x), .val (.ref b1), .val (.int (0 : Int32)), .unset]) rfl ?_
  refine XS.iloadN X3.here hx rfl (hb hby d5_14) rfl ?_
  refine XS.aloadN X3.here hx rfl (hb hby d5_15) rfl rfl ?_
  refine st4 _ ?_
  refine XS.icmpNo X4.here hx rfl (hb hby d5_19) rfl (tlt (by decide : (0 : Int32) < (1 : Int32))).2.1 ?_
  refine XS.aloadN X4.here hx rfl (hb hby d5_22) rfl rfl ?_
  refine XS.iloadN X4.here hx rfl (hb hby d5_23) rfl ?_
  refine st5 _ ?_
  refine XS.istoreN X5.here hx rfl (hb hby d5_27) rfl (l' := #[.val (.ref x), .val (.ref b1), .val (.int (0 : Int32)), .val (.int c0)]) rfl ?_
  refine st6 _ ?_
  refine XS.iloadN X6.here hx rfl (hb hby d5_30) rfl ?_
  refine st7 _ ?_
  exact κ)
 obtain ⟨T9, L9, t9, C9, X9, N9, Kp9, ht9, SB9, hC9, pre9⟩ : ∃ (T9 : State) (L9 : List Loc) (t9 : Addr) (C9 : Nat), Stand p l e ({ frames := 8, cells := 10, slots := 111, locals := 118 } : Room) (s.setVm T6.vm) m #[(.ref x)] below meth c T9 L9 (4 + 2) (27 + 32) ∧ Fr n0 L9 ∧ Keep h6 T9.heap [b1, t3] ∧ (t9 = t3 ∨ h6.size ≤ t9) ∧ own_sbd Z T9.heap b1 t9 ([] ++ own_e c0) C9 ∧ (C9 = 1 ∨ C9 = 2 * 1 + 2) ∧ own_pr p e below PP T9 (mkF m 44 #[.val (.ref x), .val (.ref b1), .val (.int (0 : Int32)), .val (.int c0)] []) := by
  by_cases hc34 : r7 < (0 : Int32)
  ·have pre10 : own_pr p e below PP T7 (mkF m 44 #[.val (.ref x), .val (.ref b1), .val (.int (0 : Int32)), .val (.int c0)] []) := fun τ κ => pre8 τ (by
    show own_st p e below T7 (mkF m 34 #[.val (.ref x), .val (.ref b1), .val (.int (0 : Int32)), .val (.int c0)] [(.int r7)]) _
    refine XS.ifYes X7.here hx rfl (pc0 := 34) (pc' := 44) rfl (hb hby d5_34) rfl ((if0 _ _).trans (tlt hc34).1) (by decide) (by decide) ?_
    exact κ)
   refine ⟨_, _, t3, 1, X7.mono (by decide) (by decide), N7, by rw [q7]; exact Keep.refl _ _, Or.inl rfl, ?_, (Or.inl rfl), pre10⟩
   rw [q7, own_P0 (hr7.mp hc34), List.append_nil]
   exact SB6
  ·obtain ⟨_, T11, Lc11, X11, hQ11, st11⟩ := own_cV X7 hx hZ6 (y := own_z34) (z := own_z34) ho6 (wd168 hw) (wd169 hw) (wd171 hw) rfl (wd171 hw) (wd170 hw) (wd172 hw) (wd34 hw) (by decide) (rmsap l Z a0 hw [] b1 t3 [] (92 : Int32) 1 1 h6 n0 (Nat.le_trans (Nat.le_trans (Nat.le_trans Z0 E1.1) Kp3.1) E6.1) SB6 (EN.ext (own_ext K6)) (Nat.le_trans Z0 sz1_b) (Nat.le_trans Z0 szt3) (by decide) (Or.inl rfl) (by simp only [List.length_append, List.length_cons, List.length_nil]; omega) own_bnil) xb6 0 (by decide) (g := (mkF m 40 #[.val (.ref x), .val (.ref b1), .val (.int (0 : Int32)), .val (.int c0)] [(.int (92 : Int32)), (.ref b1)])) rfl hml.symm [(.int (92 : Int32))] [] (lenOf pd_sap rfl) rfl rfl (hb hby d5_40) q7 rfl
   obtain ⟨rfl, N11q, t11, C11, Kp11, ht11, SB11, hC11⟩ := hQ11
   have N11 := Fr.app N7 N11q
   have pre12 : own_pr p e below PP T11 (mkF m 44 #[.val (.ref x), .val (.ref b1), .val (.int (0 : Int32)), .val (.int c0)] []) := fun τ κ => pre8 τ (by
    show own_st p e below T7 (mkF m 34 #[.val (.ref x), .val (.ref b1), .val (.int (0 : Int32)), .val (.int c0)] [(.int r7)]) _
    refine XS.ifNo X7.here hx rfl (hb hby d5_34) rfl ((if0 _ _).trans (flt hc34).1) ?_
    refine XS.aloadN X7.here hx rfl (hb hby d5_37) rfl rfl ?_
    refine XS.bipush X7.here hx rfl (hb hby d5_38) ?_
    refine st11 _ ?_
    refine XS.pop X11.here hx rfl (hb hby d5_43) rfl rfl ?_
    exact κ)
   have hP9 : own_e c0 = [92] := own_P1 (Classical.byContradiction fun q => hc34 (hr7.mpr q))
   exact ⟨_, _, t11, C11, X11, N11, Kp11, ht11, by rw [hP9]; exact SB11, hC11, pre12⟩
 have hs9 : ∀ y ∈ [b1, t3], Safe Z own_EL T6.vm h6 y := fun y hy => by
  rcases List.mem_cons.mp hy with rfl | hy
  ·exact Safe.exa hZ6.alike xb6 (by decide) (by decide)
  ·cases List.mem_singleton.mp hy; exact sft6
 have K9 := K6.trans Kp9 (fun y hy => Or.inr (by
  rcases List.mem_cons.mp hy with rfl | hy
  ·exact sz1_b
  ·cases List.mem_singleton.mp hy; exact szt3))
 have CR9 := CR6.trans (CHr.keep Kp9 hs9 CH6)
 have CH9 := CHv.keep Kp9 hs9 CH6
 have sft9 : Safe Z own_EL T6.vm T9.heap t9 := by
  rcases ht9 with q | q
  ·rw [q]; exact Safe.keep Kp9 hs9 CH6 sft6
  ·exact Safe.keep Kp9 hs9 CH6 (Safe.new q)
 have szt9 : h0.size ≤ t9 := by
  rcases ht9 with q | q
  ·rw [q]; exact szt3
  ·exact Nat.le_trans K6.1 q
 have xb9 := xb6.keep Kp9
 obtain ⟨_, T13, Lc13, X13, hQ13, st13⟩ := own_cV X9 hx hZ6 (y := own_z34) (z := own_z34) ho6 (wd168 hw) (wd169 hw) (wd171 hw) rfl (wd171 hw) (wd170 hw) (wd172 hw) (wd34 hw) (by decide) (rmsap l Z a0 hw [] b1 t9 ([] ++ own_e c0) c0 C9 1 T9.heap n0 (Nat.le_trans (Nat.le_trans (Nat.le_trans (Nat.le_trans Z0 E1.1) Kp3.1) E6.1) Kp9.1) SB9 (EN.ext (own_ext K9)) (Nat.le_trans Z0 sz1_b) (Nat.le_trans Z0 szt9) (by decide) hC9 (by simp only [List.length_append, List.length_cons, List.length_nil]; omega) (own_bapp own_bnil (own_be c0))) xb9 0 (by decide) (g := (mkF m 46 #[.val (.ref x), .val (.ref b1), .val (.int (0 : Int32)), .val (.int c0)] [(.int c0), (.ref b1)])) rfl hml.symm [(.int c0)] [] (lenOf pd_sap rfl) rfl rfl (hb hby d5_46) rfl rfl
 obtain ⟨rfl, N13q, t13, C13, Kp13, ht13, SB13, hC13⟩ := hQ13
 have N13 := Fr.app N9 N13q
 have hs13 : ∀ y ∈ [b1, t9], Safe Z own_EL T6.vm T9.heap y := fun y hy => by
  rcases List.mem_cons.mp hy with rfl | hy
  ·exact Safe.exa hZ6.alike xb9 (by decide) (by decide)
  ·cases List.mem_singleton.mp hy; exact sft9
 have K13 := K9.trans Kp13 (fun y hy => Or.inr (by
  rcases List.mem_cons.mp hy with rfl | hy
  ·exact sz1_b
  ·cases List.mem_singleton.mp hy; exact szt9))
 have CR13 := CR9.trans (CHr.keep Kp13 hs13 CH9)
 have CH13 := CHv.keep Kp13 hs13 CH9
 have sft13 : Safe Z own_EL T6.vm T13.heap t13 := by
  rcases ht13 with q | q
  ·rw [q]; exact Safe.keep Kp13 hs13 CH9 sft9
  ·exact Safe.keep Kp13 hs13 CH9 (Safe.new q)
 have szt13 : h0.size ≤ t13 := by
  rcases ht13 with q | q
  ·rw [q]; exact szt9
  ·exact Nat.le_trans K9.1 q
 have xb13 := xb9.keep Kp13
 obtain ⟨_, T14, Lc14, X14, hQ14, st14⟩ := own_cV X13 hx hZ6 (y := own_z5) (z := own_z5) ho6 (wd35 hw) (wd36 hw) (wd38 hw) rfl (wd38 hw) (wd37 hw) (wd39 hw) (wd8 hw) (by decide) (rmsl l Z a0 hw [] x [c0] cd T13.heap n0 (Nat.le_trans (Nat.le_trans (Nat.le_trans (Nat.le_trans (Nat.le_trans Z0 E1.1) Kp3.1) E6.1) Kp9.1) Kp13.1) (SX.ext (own_ext K13)) (EN.ext (own_ext K13)) (by simp)) (Ex.ext (own_ext K13)) 1 (by decide) (g := (mkF m 16 #[.val (.ref x), .val (.ref b1), .val (.int (1 : Int32)), .val (.int c0)] [(.ref x), (.int (1 : Int32))])) rfl hml.symm [] [(.int (1 : Int32))] (lenOf pd_sl rfl) rfl rfl (hb hby d5_16) rfl rfl
 obtain ⟨rfl, N14q, q14⟩ := hQ14
 have N14 := Fr.app N13 N14q
 obtain ⟨_, T15, Lc15, X15, hQ15, st15⟩ := own_cV X14 hx hZ6 (y := own_z9) (z := own_z9) ho6 (wd61 hw) (wd62 hw) (wd64 hw) rfl (wd64 hw) (wd63 hw) (wd65 hw) (wd34 hw) (by decide) (rmts l Z a0 hw [] b1 t13 (([] ++ own_e c0) ++ [c0]) C13 T13.heap n0 (Nat.le_trans (Nat.le_trans (Nat.le_trans (Nat.le_trans (Nat.le_trans Z0 E1.1) Kp3.1) E6.1) Kp9.1) Kp13.1) SB13 (EN.ext (own_ext K13)) (by have q := hC13; omega)) xb13 0 (by decide) (g := (mkF m 57 #[.val (.ref x), .val (.ref b1), .val (.int (1 : Int32)), .val (.int c0)] [(.ref b1)])) rfl hml.symm [] [] (lenOf pd_ts rfl) rfl rfl (hb hby d5_57) q14 rfl
 obtain ⟨y15, rfl, N15q, E15, cd15, S15⟩ := hQ15
 have N15 := Fr.app N14 N15q
 have K15 := K13.ext E15
 have CR15 := CR13.trans (CHr.ext E15 CH13)
 have CH15 := CHv.ext E15 CH13
 have pre16 : own_pr p e below PP T15 (mkF m 60 #[.val (.ref x), .val (.ref b1), .val (.int (1 : Int32)), .val (.int c0)] [(.ref y15)]) := fun τ κ => pre9 τ (by
  show own_st p e below T9 (mkF m 44 #[.val (.ref x), .val (.ref b1), .val (.int (0 : Int32)), .val (.int c0)] []) _
  refine XS.aloadN X9.here hx rfl (hb hby d5_44) rfl rfl ?_
  refine XS.iloadN X9.here hx rfl (hb hby d5_45) rfl ?_
  refine st13 _ ?_
  refine XS.pop X13.here hx rfl (hb hby d5_49) rfl rfl ?_
  refine XS.iinc X13.here hx rfl (hb hby d5_50) rfl (l' := #[.val (.ref x), .val (.ref b1), .val (.int ((0 : Int32) + (1 : Int32))), .val (.int c0)]) rfl ?_
  show own_st p e below T13 (mkF m 53 #[.val (.ref x), .val (.ref b1), .val (.int ((0 : Int32) + (1 : Int32))), .val (.int c0)] []) _
  rw [show ((0 : Int32) + (1 : Int32)) = (1 : Int32) from by decide]
  refine XS.goto X13.here hx rfl (pc0 := 53) (pc' := 14) rfl (hb hby d5_53) (by decide) (by decide) ?_
  refine XS.iloadN X13.here hx rfl (hb hby d5_14) rfl ?_
  refine XS.aloadN X13.here hx rfl (hb hby d5_15) rfl rfl ?_
  refine st14 _ ?_
  refine XS.icmpYes X14.here hx rfl (pc0 := 19) (pc' := 56) rfl (hb hby d5_19) rfl (flt (by decide : ¬ ((1 : Int32) < (1 : Int32)))).2.1 (by decide) (by decide) ?_
  refine XS.aloadN X14.here hx rfl (hb hby d5_56) rfl rfl ?_
  refine st15 _ ?_
  exact κ)
 obtain ⟨fs17, hr17, hrun17, hended17, hE17⟩ := X15.leaveW hS6 (by first | exact (Nat.le_trans (Nat.le_trans (Nat.le_trans hk6 Kp9.1) Kp13.1) E15.1) | (rw [rfl]; exact (Nat.le_trans (Nat.le_trans (Nat.le_trans hk6 Kp9.1) Kp13.1) E15.1))) (v := some (.ref y15)) (fun h => by rw [Bd.returns] at h; cases h)
 refine ⟨_, _, hPs _ (pre16 _ ?_), hrun17, hended17, _, _, rfl, ?_, ?_, hE17.1, hE17.2.1, hE17.2.2.1, hE17.2.2.2.mono (by decide) (by decide)⟩
 ·show own_st p e below T15 (mkF m 60 #[.val (.ref x), .val (.ref b1), .val (.int (1 : Int32)), .val (.int c0)] [(.ref y15)]) _
  exact retOut X15 hx (t := (.object "java/lang/String")) Bd.returns rfl (Or.inr (Or.inr (Or.inr (Or.inr ⟨rfl, rfl, rfl⟩)))) (hb hby d5_60) hr17
 ·show Qlit1 Z x cd c0 h0 n0 _ T15.heap _
  refine ⟨_, rfl, N15, K15, cd15, ?_⟩
  rw [show own_esc [c0] = (([] ++ own_e c0) ++ [c0]) from by simp [own_esc]]
  exact S15
 ·show CHr Z own_EL s.vm s.heap T15.vm T15.heap
  rw [hh]
  exact CR15.trans (CHv.at X15 hZ6 hEL CH15)


def Qlit2 (Z : State) (x : Addr) (cd : Int32) (c0 c1 : Int32) (h0 : Heap) (n0 : Nat) (v : Option Value) (h : Heap) (L : List Loc) : Prop := ∃ y, v = some (.ref y) ∧ Fr n0 L ∧ Keep h0 h [] ∧ ∃ cd, own_s Z h y (own_esc [c0, c1]) cd
theorem rmlit2 (l : Launch) (Z : State) (a0 : Array Value) (hw : own_W Z a0) (ws : List Jvm.Cond) (x : Addr) (cd : Int32) (c0 c1 : Int32) (h0 : Heap) (n0 : Nat) (Z0 : n0 ≤ h0.size) (SX : own_s Z h0 x [c0, c1] cd) (EN : own_env Z h0) (hb0 : own_b c0) (hb1 : own_b c1) :
  MetFree l own_z4 (head1 (Jvm.Cond.code own_z4 own_c56 4 (some (.object "java/lang/String")) :: ws) ({ frames := 8, cells := 16, slots := 195, locals := 118 } : Room)) (fun a U => a = #[(.ref x)] ∧ Z.Warmed39 U.vm ∧ U.heap = h0 ∧ CHv Z own_EL U.vm h0) (fun _ _ _ _ _ => True) (fun _ U o U' => ∃ v L, o = .returned v ∧ Qlit2 Z x cd c0 c1 h0 n0 v U'.heap L ∧ CHr Z own_EL U.vm U.heap U'.vm U'.heap ∧ ReturnedEndW U o U' L ({ frames := 8, cells := 16, slots := 195, locals := 118 } : Room).cells ({ frames := 8, cells := 16, slots := 195, locals := 118 } : Room).slots) := by
 refine MetFree.of_bodySF (plainFor_of_name pn_k1) hisR ?_
 intro p e s m args below meth c s₁ Bd hml0 hP hK
 obtain ⟨rfl, hZ, hh, hCH⟩ := hP
 have hx := Bd.exec
 have hby := Bd.bytes
 have hml : c.maxLocals = 4 := hml0
 have hown : s.vm.findClass "com/example/oxpecker/oxpecker/MessageTemplate" = some m.cls := findClass_of_methodNamed Bd.named
 have X0 : Stand p l e ({ frames := 8, cells := 16, slots := 195, locals := 118 } : Room) (s.setVm s.vm) m #[(.ref x)] below meth c s₁ [] 0 0 := Stand.of_body Bd
 have e0 : s₁.heap = h0 := by rw [← hh, Bd.state]; rfl
 have N0 := Fr.nil n0
 have hZ0 : Z.Warmed39 (s.setVm s.vm).vm := hZ
 have ho0 : (s.setVm s.vm).vm.findClass "com/example/oxpecker/oxpecker/MessageTemplate" = some m.cls := hown
 have hS0 : s.Since s.vm h0.size := (State.WarmedH.refl s).since _
 have hEL : EW Z a0 own_EL := own_EW hw
 have wS : ∀ a ∈ Bundle.stringAtoms, a.before a0 Z = true := fun d hd => hw d ((by decide +kernel : ∀ d ∈ Bundle.stringAtoms, d ∈ tables_1) d hd)
 obtain ⟨PP, hPs, pre0⟩ : ∃ PP : State → Prop, (∀ t, PP t → Steps p.tables e below (s₁.setTop (entryFrame m #[(.ref x)] 4)) t) ∧ own_pr p e below PP s₁ (mkF m 0 #[.val (.ref x), .unset, .unset, .unset] []) := ⟨_, fun _ κ => κ, fun τ κ => castTop (ef_lit0 m x) κ⟩
 have SX9 := SX
 obtain ⟨_, _, _, _, Ex, -⟩ := SX9
 have el0 := own_el c0
 have el1 := own_el c1
 obtain ⟨T1, h1, X1, e1, E1, A1, D1, -, st1⟩ := newO X0 hx hZ0 ho0 (wd32 hw) (wd33 hw) (wd34 hw) e0 (g := (mkF m 0 #[.val (.ref x), .unset, .unset, .unset] [])) rfl (hb hby d5_0) (by decide) (by decide)
 obtain ⟨b1, gb1⟩ : ∃ z, z = h0.size := ⟨_, rfl⟩
 rw [← gb1] at A1 D1 st1
 have gn1 : n0 ≤ b1 := Nat.le_trans Z0 (Nat.le_of_eq gb1.symm)
 have sz1_b : h0.size ≤ b1 := Nat.le_trans (Keep.refl h0 []).1 (Nat.le_of_eq gb1.symm)
 have K1 := (Keep.refl h0 []).ext E1
 have F_value_b1 : Fld Z h1 b1 "java/lang/AbstractStringBuilder" "value" "[B" .null := D1 (Or.inl (wd58 hw)) (ty := (.array .byte)) (by decide)
 have F_coder_b1 : Fld Z h1 b1 "java/lang/AbstractStringBuilder" "coder" "B" (.int (0 : Int32)) := D1 (Or.inl (wd60 hw)) (ty := .byte) (by decide)
 have F_count_b1 : Fld Z h1 b1 "java/lang/AbstractStringBuilder" "count" "I" (.int (0 : Int32)) := D1 (Or.inl (wd88 hw)) (ty := .int) (by decide)
 have F_maybeLatin1_b1 : Fld Z h1 b1 "java/lang/AbstractStringBuilder" "maybeLatin1" "Z" (.int (0 : Int32)) := D1 (Or.inl (wd276 hw)) (ty := .boolean) (by decide)
 obtain ⟨_, T2, Lc2, X2, hQ2, st2⟩ := own_cV X1 hx hZ0 (y := own_z5) (z := own_z5) ho0 (wd35 hw) (wd36 hw) (wd38 hw) rfl (wd38 hw) (wd37 hw) (wd39 hw) (wd8 hw) (by decide) (rmsl l Z a0 hw [] x [c0, c1] cd h1 n0 (Nat.le_trans Z0 E1.1) (SX.ext (own_ext K1)) (EN.ext (own_ext K1)) (by simp)) (Ex.ext (own_ext K1)) 2 (by decide) (g := (mkF m 5 #[.val (.ref x), .unset, .unset, .unset] [(.ref x), (.ref b1), (.ref b1)])) rfl hml.symm [] [(.ref b1), (.ref b1)] (lenOf pd_sl rfl) rfl rfl (hb hby d5_5) e1 rfl
 obtain ⟨rfl, N2q, q2⟩ := hQ2
 have N2 := Fr.app N0 N2q
 obtain ⟨_, T3, Lc3, X3, hQ3, st3⟩ := own_cI X2 hx hZ0 (y := own_z7) rfl ho0 (wd46 hw) (wd47 hw) (wd48 hw) (wd34 hw) (by decide) (rmsbi l Z a0 hw [] b1 2 h1 n0 (Nat.le_trans Z0 E1.1) A1 F_value_b1 F_coder_b1 F_count_b1 F_maybeLatin1_b1 gn1 (EN.ext (own_ext K1)) (by decide)) 1 (by decide) (g := (mkF m 8 #[.val (.ref x), .unset, .unset, .unset] [(.int (2 : Int32)), (.ref b1), (.ref b1)])) rfl hml.symm b1 [(.int (2 : Int32))] [(.ref b1)] (lenOf pd_ai rfl) rfl rfl (hb hby d5_8) q2 rfl
 obtain ⟨rfl, N3q, t3, Kp3, gz3, SB3⟩ := hQ3
 have N3 := Fr.app N2 N3q
 have szt3 : h0.size ≤ t3 := Nat.le_trans K1.1 gz3
 have xb3 := A1.keep Kp3
 have K3 := K1.trans Kp3 (fun x hx => by cases List.mem_singleton.mp hx; exact Or.inr sz1_b)
 have sft3 : Safe Z own_EL s.vm T3.heap t3 := Safe.ext (own_ext K3) hCH (Safe.new szt3)
 obtain ⟨_, T4, Lc4, X4, hQ4, st4⟩ := own_cV X3 hx hZ0 (y := own_z5) (z := own_z5) ho0 (wd35 hw) (wd36 hw) (wd38 hw) rfl (wd38 hw) (wd37 hw) (wd39 hw) (wd8 hw) (by decide) (rmsl l Z a0 hw [] x [c0, c1] cd T3.heap n0 (Nat.le_trans (Nat.le_trans Z0 E1.1) Kp3.1) (SX.ext (own_ext K3)) (EN.ext (own_ext K3)) (by simp)) (Ex.ext (own_ext K3)) 1 (by decide) (g := (mkF m 16 #[.val (.ref x), .val (.ref b1), .val (.int (0 : Int32)), .unset] [(.ref x), (.int (0 : Int32))])) rfl hml.symm [] [(.int (0 : Int32))] (lenOf pd_sl rfl) rfl rfl (hb hby d5_16) rfl rfl
 obtain ⟨rfl, N4q, q4⟩ := hQ4
 have N4 := Fr.app N3 N4q
 obtain ⟨_, T5, Lc5, X5, hQ5, st5⟩ := own_cV X4 hx hZ0 (y := own_z22) (z := own_z22) ho0 (wd118 hw) (wd119 hw) (wd121 hw) rfl (wd121 hw) (wd120 hw) (wd122 hw) (wd8 hw) (by decide) (rmch l Z a0 hw [] x [c0, c1] cd c0 0 T3.heap n0 (Nat.le_trans (Nat.le_trans Z0 E1.1) Kp3.1) (SX.ext (own_ext K3)) (EN.ext (own_ext K3)) (by simp) (by simp) rfl hb0) (Ex.ext (own_ext K3)) 0 (by decide) (g := (mkF m 24 #[.val (.ref x), .val (.ref b1), .val (.int (0 : Int32)), .unset] [(.int (0 : Int32)), (.ref x)])) rfl hml.symm [(.int (0 : Int32))] [] (lenOf pd_pk rfl) rfl rfl (hb hby d5_24) q4 rfl
 obtain ⟨rfl, N5q, q5⟩ := hQ5
 have N5 := Fr.app N4 N5q
 have Sz5 := SB3
 obtain ⟨kt5, _, _, _, -, -, -, -, -, -, At5, -⟩ := Sz5
 obtain ⟨la6, T6, h6, k6, b6, kc6, X6, e6, E6, hS6, hk6, hZ6, ho6, A6, C6, V6, K6_, lt6, lb6, CQ6, Lt6, sf6, st6⟩ := ldcCH X5 hx hZ0 ho0 (wd140 hw) wS q5 hS0 K3.1 hEL (by decide) (CHv.ext (own_ext K3) hCH) (vs := [.int 123, .int 125, .int 36, .int 92]) (z := (4 : Int32)) ⟨by decide, rfl⟩ (by decide) rfl (g := (mkF m 28 #[.val (.ref x), .val (.ref b1), .val (.int (0 : Int32)), .val (.int c0)] [])) rfl (hb hby d5_28) (n := 16) (by decide) (by decide) (by decide) (by decide)
 have CR6 := (CHr.ext (own_ext K3) hCH).trans CQ6
 have CH6 := CQ6.1
 have K6 := K3.ext E6
 have sft6 := CHr.safe CQ6 At5.lt sft3
 have SB6 := SB3.ext E6
 have xb6 := xb3.ext E6
 obtain ⟨_, T7, Lc7, X7, hQ7, st7⟩ := own_cV X6 hx hZ6 (y := own_z27) (z := own_z27) ho6 (wd141 hw) (wd142 hw) (wd144 hw) rfl (wd144 hw) (wd143 hw) (wd145 hw) (wd8 hw) (by decide) (rmyg l Z a0 hw [] la6 b6 kc6 c0 h6 n0 (Nat.le_trans (Nat.le_trans (Nat.le_trans Z0 E1.1) Kp3.1) E6.1) (EN.ext (own_ext K6)) A6 V6 C6 K6_ hb0) A6 0 (by decide) (g := (mkF m 31 #[.val (.ref x), .val (.ref b1), .val (.int (0 : Int32)), .val (.int c0)] [(.int c0), (.ref la6)])) rfl hml.symm [(.int c0)] [] (lenOf pd_bl1 rfl) rfl rfl (hb hby d5_31) e6 rfl
 obtain ⟨r7, rfl, N7q, q7, hr7⟩ := hQ7
 have N7 := Fr.app N5 N7q
 have pre8 : own_pr p e below PP T7 (mkF m 34 #[.val (.ref x), .val (.ref b1), .val (.int (0 : Int32)), .val (.int c0)] [(.int r7)]) := fun τ κ => pre0 τ (by
  show own_st p e below s₁ (mkF m 0 #[.val (.ref x), .unset, .unset, .unset] []) _
  refine st1 _ ?_
  refine XS.dup X1.here hx rfl (hb hby d5_3) rfl rfl ?_
  refine XS.aloadN X1.here hx rfl (hb hby d5_4) rfl rfl ?_
  refine st2 _ ?_
  refine st3 _ ?_
  refine XS.astoreN X3.here hx rfl (hb hby d5_11) rfl rfl (l' := #[.val (.ref x), .val (.ref b1), .unset, .unset]) rfl ?_
  refine XS.iconst X3.here hx rfl (hb hby d5_12) ?_
  refine XS.istoreN X3.here hx rfl (hb hby d5_13) rfl (l' := #[.val (.ref x), .val (.ref b1), .val (.int (0 : Int32)), .unset]) rfl ?_
  refine XS.iloadN X3.here hx rfl (hb hby d5_14) rfl ?_
  refine XS.aloadN X3.here hx rfl (hb hby d5_15) rfl rfl ?_
  refine st4 _ ?_
  refine XS.icmpNo X4.here hx rfl (hb hby d5_19) rfl (tlt (by decide : (0 : Int32) < (2 : Int32))).2.1 ?_
  refine XS.aloadN X4.here hx rfl (hb hby d5_22) rfl rfl ?_
  refine XS.iloadN X4.here hx rfl (hb hby d5_23) rfl ?_
  refine st5 _ ?_
  refine XS.istoreN X5.here hx rfl (hb hby d5_27) rfl (l' := #[.val (.ref x), .val (.ref b1), .val (.int (0 : Int32)), .val (.int c0)]) rfl ?_
  refine st6 _ ?_
  refine XS.iloadN X6.here hx rfl (hb hby d5_30) rfl ?_
  refine st7 _ ?_
  exact κ)
 obtain ⟨T9, L9, t9, C9, X9, N9, Kp9, ht9, SB9, hC9, pre9⟩ : ∃ (T9 : State) (L9 : List Loc) (t9 : Addr) (C9 : Nat), Stand p l e ({ frames := 8, cells := 16, slots := 195, locals := 118 } : Room) (s.setVm T6.vm) m #[(.ref x)] below meth c T9 L9 (4 + 2) (27 + 32) ∧ Fr n0 L9 ∧ Keep h6 T9.heap [b1, t3] ∧ (t9 = t3 ∨ h6.size ≤ t9) ∧ own_sbd Z T9.heap b1 t9 ([] ++ own_e c0) C9 ∧ (C9 = 2 ∨ C9 = 2 * 2 + 2) ∧ own_pr p e below PP T9 (mkF m 44 #[.val (.ref x), .val (.ref b1), .val (.int (0 : Int32)), .val (.int c0)] []) := by
  by_cases hc34 : r7 < (0 : Int32)
  ·have pre10 : own_pr p e below PP T7 (mkF m 44 #[.val (.ref x), .val (.ref b1), .val (.int (0 : Int32)), .val (.int c0)] []) := fun τ κ => pre8 τ (by
    show own_st p e below T7 (mkF m 34 #[.val (.ref x), .val (.ref b1), .val (.int (0 : Int32)), .val (.int c0)] [(.int r7)]) _
    refine XS.ifYes X7.here hx rfl (pc0 := 34) (pc' := 44) rfl (hb hby d5_34) rfl ((if0 _ _).trans (tlt hc34).1) (by decide) (by decide) ?_
    exact κ)
   refine ⟨_, _, t3, 2, X7.mono (by decide) (by decide), N7, by rw [q7]; exact Keep.refl _ _, Or.inl rfl, ?_, (Or.inl rfl), pre10⟩
   rw [q7, own_P0 (hr7.mp hc34), List.append_nil]
   exact SB6
  ·obtain ⟨_, T11, Lc11, X11, hQ11, st11⟩ := own_cV X7 hx hZ6 (y := own_z34) (z := own_z34) ho6 (wd168 hw) (wd169 hw) (wd171 hw) rfl (wd171 hw) (wd170 hw) (wd172 hw) (wd34 hw) (by decide) (rmsap l Z a0 hw [] b1 t3 [] (92 : Int32) 2 2 h6 n0 (Nat.le_trans (Nat.le_trans (Nat.le_trans Z0 E1.1) Kp3.1) E6.1) SB6 (EN.ext (own_ext K6)) (Nat.le_trans Z0 sz1_b) (Nat.le_trans Z0 szt3) (by decide) (Or.inl rfl) (by simp only [List.length_append, List.length_cons, List.length_nil]; omega) own_bnil) xb6 0 (by decide) (g := (mkF m 40 #[.val (.ref x), .val (.ref b1), .val (.int (0 : Int32)), .val (.int c0)] [(.int (92 : Int32)), (.ref b1)])) rfl hml.symm [(.int (92 : Int32))] [] (lenOf pd_sap rfl) rfl rfl (hb hby d5_40) q7 rfl
   obtain ⟨rfl, N11q, t11, C11, Kp11, ht11, SB11, hC11⟩ := hQ11
   have N11 := Fr.app N7 N11q
   have pre12 : own_pr p e below PP T11 (mkF m 44 #[.val (.ref x), .val (.ref b1), .val (.int (0 : Int32)), .val (.int c0)] []) := fun τ κ => pre8 τ (by
    show own_st p e below T7 (mkF m 34 #[.val (.ref x), .val (.ref b1), .val (.int (0 : Int32)), .val (.int c0)] [(.int r7)]) _
    refine XS.ifNo X7.here hx rfl (hb hby d5_34) rfl ((if0 _ _).trans (flt hc34).1) ?_
    refine XS.aloadN X7.here hx rfl (hb hby d5_37) rfl rfl ?_
    refine XS.bipush X7.here hx rfl (hb hby d5_38) ?_
    refine st11 _ ?_
    refine XS.pop X11.here hx rfl (hb hby d5_43) rfl rfl ?_
    exact κ)
   have hP9 : own_e c0 = [92] := own_P1 (Classical.byContradiction fun q => hc34 (hr7.mpr q))
   exact ⟨_, _, t11, C11, X11, N11, Kp11, ht11, by rw [hP9]; exact SB11, hC11, pre12⟩
 have hs9 : ∀ y ∈ [b1, t3], Safe Z own_EL T6.vm h6 y := fun y hy => by
  rcases List.mem_cons.mp hy with rfl | hy
  ·exact Safe.exa hZ6.alike xb6 (by decide) (by decide)
  ·cases List.mem_singleton.mp hy; exact sft6
 have K9 := K6.trans Kp9 (fun y hy => Or.inr (by
  rcases List.mem_cons.mp hy with rfl | hy
  ·exact sz1_b
  ·cases List.mem_singleton.mp hy; exact szt3))
 have CR9 := CR6.trans (CHr.keep Kp9 hs9 CH6)
 have CH9 := CHv.keep Kp9 hs9 CH6
 have sft9 : Safe Z own_EL T6.vm T9.heap t9 := by
  rcases ht9 with q | q
  ·rw [q]; exact Safe.keep Kp9 hs9 CH6 sft6
  ·exact Safe.keep Kp9 hs9 CH6 (Safe.new q)
 have szt9 : h0.size ≤ t9 := by
  rcases ht9 with q | q
  ·rw [q]; exact szt3
  ·exact Nat.le_trans K6.1 q
 have xb9 := xb6.keep Kp9
 obtain ⟨_, T13, Lc13, X13, hQ13, st13⟩ := own_cV X9 hx hZ6 (y := own_z34) (z := own_z34) ho6 (wd168 hw) (wd169 hw) (wd171 hw) rfl (wd171 hw) (wd170 hw) (wd172 hw) (wd34 hw) (by decide) (rmsap l Z a0 hw [] b1 t9 ([] ++ own_e c0) c0 C9 2 T9.heap n0 (Nat.le_trans (Nat.le_trans (Nat.le_trans (Nat.le_trans Z0 E1.1) Kp3.1) E6.1) Kp9.1) SB9 (EN.ext (own_ext K9)) (Nat.le_trans Z0 sz1_b) (Nat.le_trans Z0 szt9) (by decide) hC9 (by simp only [List.length_append, List.length_cons, List.length_nil]; omega) (own_bapp own_bnil (own_be c0))) xb9 0 (by decide) (g := (mkF m 46 #[.val (.ref x), .val (.ref b1), .val (.int (0 : Int32)), .val (.int c0)] [(.int c0), (.ref b1)])) rfl hml.symm [(.int c0)] [] (lenOf pd_sap rfl) rfl rfl (hb hby d5_46) rfl rfl
 obtain ⟨rfl, N13q, t13, C13, Kp13, ht13, SB13, hC13⟩ := hQ13
 have N13 := Fr.app N9 N13q
 have hs13 : ∀ y ∈ [b1, t9], Safe Z own_EL T6.vm T9.heap y := fun y hy => by
  rcases List.mem_cons.mp hy with rfl | hy
  ·exact Safe.exa hZ6.alike xb9 (by decide) (by decide)
  ·cases List.mem_singleton.mp hy; exact sft9
 have K13 := K9.trans Kp13 (fun y hy => Or.inr (by
  rcases List.mem_cons.mp hy with rfl | hy
  ·exact sz1_b
  ·cases List.mem_singleton.mp hy; exact szt9))
 have CR13 := CR9.trans (CHr.keep Kp13 hs13 CH9)
 have CH13 := CHv.keep Kp13 hs13 CH9
 have sft13 : Safe Z own_EL T6.vm T13.heap t13 := by
  rcases ht13 with q | q
  ·rw [q]; exact Safe.keep Kp13 hs13 CH9 sft9
  ·exact Safe.keep Kp13 hs13 CH9 (Safe.new q)
 have szt13 : h0.size ≤ t13 := by
  rcases ht13 with q | q
  ·rw [q]; exact szt9
  ·exact Nat.le_trans K9.1 q
 have xb13 := xb9.keep Kp13
 obtain ⟨_, T14, Lc14, X14, hQ14, st14⟩ := own_cV X13 hx hZ6 (y := own_z5) (z := own_z5) ho6 (wd35 hw) (wd36 hw) (wd38 hw) rfl (wd38 hw) (wd37 hw) (wd39 hw) (wd8 hw) (by decide) (rmsl l Z a0 hw [] x [c0, c1] cd T13.heap n0 (Nat.le_trans (Nat.le_trans (Nat.le_trans (Nat.le_trans (Nat.le_trans Z0 E1.1) Kp3.1) E6.1) Kp9.1) Kp13.1) (SX.ext (own_ext K13)) (EN.ext (own_ext K13)) (by simp)) (Ex.ext (own_ext K13)) 1 (by decide) (g := (mkF m 16 #[.val (.ref x), .val (.ref b1), .val (.int (1 : Int32)), .val (.int c0)] [(.ref x), (.int (1 : Int32))])) rfl hml.symm [] [(.int (1 : Int32))] (lenOf pd_sl rfl) rfl rfl (hb hby d5_16) rfl rfl
 obtain ⟨rfl, N14q, q14⟩ := hQ14
 have N14 := Fr.app N13 N14q
 obtain ⟨_, T15, Lc15, X15, hQ15, st15⟩ := own_cV X14 hx hZ6 (y := own_z22) (z := own_z22) ho6 (wd118 hw) (wd119 hw) (wd121 hw) rfl (wd121 hw) (wd120 hw) (wd122 hw) (wd8 hw) (by decide) (rmch l Z a0 hw [] x [c0, c1] cd c1 1 T13.heap n0 (Nat.le_trans (Nat.le_trans (Nat.le_trans (Nat.le_trans (Nat.le_trans Z0 E1.1) Kp3.1) E6.1) Kp9.1) Kp13.1) (SX.ext (own_ext K13)) (EN.ext (own_ext K13)) (by simp) (by simp) rfl hb1) (Ex.ext (own_ext K13)) 0 (by decide) (g := (mkF m 24 #[.val (.ref x), .val (.ref b1), .val (.int (1 : Int32)), .val (.int c0)] [(.int (1 : Int32)), (.ref x)])) rfl hml.symm [(.int (1 : Int32))] [] (lenOf pd_pk rfl) rfl rfl (hb hby d5_24) q14 rfl
 obtain ⟨rfl, N15q, q15⟩ := hQ15
 have N15 := Fr.app N14 N15q
 have Sz15 := SB13
 obtain ⟨kt15, _, _, _, -, -, -, -, -, -, At15, -⟩ := Sz15
 obtain ⟨la16, T16, h16, k16, b16, kc16, X16, e16, E16, hS16, hk16, hZ16, ho16, A16, C16, V16, K16_, lt16, lb16, CQ16, Lt16, sf16, st16⟩ := ldcCH X15 hx hZ6 ho6 (wd140 hw) wS q15 hS6 (Nat.le_trans (Nat.le_trans hk6 Kp9.1) Kp13.1) hEL (by decide) CH13 (vs := [.int 123, .int 125, .int 36, .int 92]) (z := (4 : Int32)) ⟨by decide, rfl⟩ (by decide) rfl (g := (mkF m 28 #[.val (.ref x), .val (.ref b1), .val (.int (1 : Int32)), .val (.int c1)] [])) rfl (hb hby d5_28) (n := 16) (by decide) (by decide) (by decide) (by decide)
 have CR16 := CR13.trans CQ16
 have CH16 := CQ16.1
 have K16 := K13.ext E16
 have sft16 := CHr.safe CQ16 At15.lt sft13
 have SB16 := SB13.ext E16
 have xb16 := xb13.ext E16
 obtain ⟨_, T17, Lc17, X17, hQ17, st17⟩ := own_cV X16 hx hZ16 (y := own_z27) (z := own_z27) ho16 (wd141 hw) (wd142 hw) (wd144 hw) rfl (wd144 hw) (wd143 hw) (wd145 hw) (wd8 hw) (by decide) (rmyg l Z a0 hw [] la16 b16 kc16 c1 h16 n0 (Nat.le_trans (Nat.le_trans (Nat.le_trans (Nat.le_trans (Nat.le_trans (Nat.le_trans Z0 E1.1) Kp3.1) E6.1) Kp9.1) Kp13.1) E16.1) (EN.ext (own_ext K16)) A16 V16 C16 K16_ hb1) A16 0 (by decide) (g := (mkF m 31 #[.val (.ref x), .val (.ref b1), .val (.int (1 : Int32)), .val (.int c1)] [(.int c1), (.ref la16)])) rfl hml.symm [(.int c1)] [] (lenOf pd_bl1 rfl) rfl rfl (hb hby d5_31) e16 rfl
 obtain ⟨r17, rfl, N17q, q17, hr17⟩ := hQ17
 have N17 := Fr.app N15 N17q
 have pre18 : own_pr p e below PP T17 (mkF m 34 #[.val (.ref x), .val (.ref b1), .val (.int (1 : Int32)), .val (.int c1)] [(.int r17)]) := fun τ κ => pre9 τ (by
  show own_st p e below T9 (mkF m 44 #[.val (.ref x), .val (.ref b1), .val (.int (0 : Int32)), .val (.int c0)] []) _
  refine XS.aloadN X9.here hx rfl (hb hby d5_44) rfl rfl ?_
  refine XS.iloadN X9.here hx rfl (hb hby d5_45) rfl ?_
  refine st13 _ ?_
  refine XS.pop X13.here hx rfl (hb hby d5_49) rfl rfl ?_
  refine XS.iinc X13.here hx rfl (hb hby d5_50) rfl (l' := #[.val (.ref x), .val (.ref b1), .val (.int ((0 : Int32) + (1 : Int32))), .val (.int c0)]) rfl ?_
  show own_st p e below T13 (mkF m 53 #[.val (.ref x), .val (.ref b1), .val (.int ((0 : Int32) + (1 : Int32))), .val (.int c0)] []) _
  rw [show ((0 : Int32) + (1 : Int32)) = (1 : Int32) from by decide]
  refine XS.goto X13.here hx rfl (pc0 := 53) (pc' := 14) rfl (hb hby d5_53) (by decide) (by decide) ?_
  refine XS.iloadN X13.here hx rfl (hb hby d5_14) rfl ?_
  refine XS.aloadN X13.here hx rfl (hb hby d5_15) rfl rfl ?_
  refine st14 _ ?_
  refine XS.icmpNo X14.here hx rfl (hb hby d5_19) rfl (tlt (by decide : (1 : Int32) < (2 : Int32))).2.1 ?_
  refine XS.aloadN X14.here hx rfl (hb hby d5_22) rfl rfl ?_
  refine XS.iloadN X14.here hx rfl (hb hby d5_23) rfl ?_
  refine st15 _ ?_
  refine XS.istoreN X15.here hx rfl (hb hby d5_27) rfl (l' := #[.val (.ref x), .val (.ref b1), .val (.int (1 : Int32)), .val (.int c1)]) rfl ?_
  refine st16 _ ?_
  refine XS.iloadN X16.here hx rfl (hb hby d5_30) rfl ?_
  refine st17 _ ?_
  exact κ)
 obtain ⟨T19, L19, t19, C19, X19, N19, Kp19, ht19, SB19, hC19, pre19⟩ : ∃ (T9 : State) (L9 : List Loc) (t9 : Addr) (C9 : Nat), Stand p l e ({ frames := 8, cells := 16, slots := 195, locals := 118 } : Room) (s.setVm T16.vm) m #[(.ref x)] below meth c T9 L9 (10 + 2) (111 + 32) ∧ Fr n0 L9 ∧ Keep h16 T9.heap [b1, t13] ∧ (t9 = t13 ∨ h16.size ≤ t9) ∧ own_sbd Z T9.heap b1 t9 ((([] ++ own_e c0) ++ [c0]) ++ own_e c1) C9 ∧ (C9 = 2 ∨ C9 = 2 * 2 + 2) ∧ own_pr p e below PP T9 (mkF m 44 #[.val (.ref x), .val (.ref b1), .val (.int (1 : Int32)), .val (.int c1)] []) := by
  by_cases hc34 : r17 < (0 : Int32)
  ·have pre20 : own_pr p e below PP T17 (mkF m 44 #[.val (.ref x), .val (.ref b1), .val (.int (1 : Int32)), .val (.int c1)] []) := fun τ κ => pre18 τ (by
    show own_st p e below T17 (mkF m 34 #[.val (.ref x), .val (.ref b1), .val (.int (1 : Int32)), .val (.int c1)] [(.int r17)]) _
    refine XS.ifYes X17.here hx rfl (pc0 := 34) (pc' := 44) rfl (hb hby d5_34) rfl ((if0 _ _).trans (tlt hc34).1) (by decide) (by decide) ?_
    exact κ)
   refine ⟨_, _, t13, C13, X17.mono (by decide) (by decide), N17, by rw [q17]; exact Keep.refl _ _, Or.inl rfl, ?_, hC13, pre20⟩
   rw [q17, own_P0 (hr17.mp hc34), List.append_nil]
   exact SB16
  ·obtain ⟨_, T21, Lc21, X21, hQ21, st21⟩ := own_cV X17 hx hZ16 (y := own_z34) (z := own_z34) ho16 (wd168 hw) (wd169 hw) (wd171 hw) rfl (wd171 hw) (wd170 hw) (wd172 hw) (wd34 hw) (by decide) (rmsap l Z a0 hw [] b1 t13 (([] ++ own_e c0) ++ [c0]) (92 : Int32) C13 2 h16 n0 (Nat.le_trans (Nat.le_trans (Nat.le_trans (Nat.le_trans (Nat.le_trans (Nat.le_trans Z0 E1.1) Kp3.1) E6.1) Kp9.1) Kp13.1) E16.1) SB16 (EN.ext (own_ext K16)) (Nat.le_trans Z0 sz1_b) (Nat.le_trans Z0 szt13) (by decide) hC13 (by simp only [List.length_append, List.length_cons, List.length_nil]; omega) (own_bapp (own_bapp own_bnil (own_be c0)) (own_bone hb0))) xb16 0 (by decide) (g := (mkF m 40 #[.val (.ref x), .val (.ref b1), .val (.int (1 : Int32)), .val (.int c1)] [(.int (92 : Int32)), (.ref b1)])) rfl hml.symm [(.int (92 : Int32))] [] (lenOf pd_sap rfl) rfl rfl (hb hby d5_40) q17 rfl
   obtain ⟨rfl, N21q, t21, C21, Kp21, ht21, SB21, hC21⟩ := hQ21
   have N21 := Fr.app N17 N21q
   have pre22 : own_pr p e below PP T21 (mkF m 44 #[.val (.ref x), .val (.ref b1), .val (.int (1 : Int32)), .val (.int c1)] []) := fun τ κ => pre18 τ (by
    show own_st p e below T17 (mkF m 34 #[.val (.ref x), .val (.ref b1), .val (.int (1 : Int32)), .val (.int c1)] [(.int r17)]) _
    refine XS.ifNo X17.here hx rfl (hb hby d5_34) rfl ((if0 _ _).trans (flt hc34).1) ?_
    refine XS.aloadN X17.here hx rfl (hb hby d5_37) rfl rfl ?_
    refine XS.bipush X17.here hx rfl (hb hby d5_38) ?_
    refine st21 _ ?_
    refine XS.pop X21.here hx rfl (hb hby d5_43) rfl rfl ?_
    exact κ)
   have hP9 : own_e c1 = [92] := own_P1 (Classical.byContradiction fun q => hc34 (hr17.mpr q))
   exact ⟨_, _, t21, C21, X21, N21, Kp21, ht21, by rw [hP9]; exact SB21, hC21, pre22⟩
 have hs19 : ∀ y ∈ [b1, t13], Safe Z own_EL T16.vm h16 y := fun y hy => by
  rcases List.mem_cons.mp hy with rfl | hy
  ·exact Safe.exa hZ16.alike xb16 (by decide) (by decide)
  ·cases List.mem_singleton.mp hy; exact sft16
 have K19 := K16.trans Kp19 (fun y hy => Or.inr (by
  rcases List.mem_cons.mp hy with rfl | hy
  ·exact sz1_b
  ·cases List.mem_singleton.mp hy; exact szt13))
 have CR19 := CR16.trans (CHr.keep Kp19 hs19 CH16)
 have CH19 := CHv.keep Kp19 hs19 CH16
 have sft19 : Safe Z own_EL T16.vm T19.heap t19 := by
  rcases ht19 with q | q
  ·rw [q]; exact Safe.keep Kp19 hs19 CH16 sft16
  ·exact Safe.keep Kp19 hs19 CH16 (Safe.new q)
 have szt19 : h0.size ≤ t19 := by
  rcases ht19 with q | q
  ·rw [q]; exact szt13
  ·exact Nat.le_trans K16.1 q
 have xb19 := xb16.keep Kp19
 obtain ⟨_, T23, Lc23, X23, hQ23, st23⟩ := own_cV X19 hx hZ16 (y := own_z34) (z := own_z34) ho16 (wd168 hw) (wd169 hw) (wd171 hw) rfl (wd171 hw) (wd170 hw) (wd172 hw) (wd34 hw) (by decide) (rmsap l Z a0 hw [] b1 t19 ((([] ++ own_e c0) ++ [c0]) ++ own_e c1) c1 C19 2 T19.heap n0 (Nat.le_trans (Nat.le_trans (Nat.le_trans (Nat.le_trans (Nat.le_trans (Nat.le_trans (Nat.le_trans Z0 E1.1) Kp3.1) E6.1) Kp9.1) Kp13.1) E16.1) Kp19.1) SB19 (EN.ext (own_ext K19)) (Nat.le_trans Z0 sz1_b) (Nat.le_trans Z0 szt19) (by decide) hC19 (by simp only [List.length_append, List.length_cons, List.length_nil]; omega) (own_bapp (own_bapp (own_bapp own_bnil (own_be c0)) (own_bone hb0)) (own_be c1))) xb19 0 (by decide) (g := (mkF m 46 #[.val (.ref x), .val (.ref b1), .val (.int (1 : Int32)), .val (.int c1)] [(.int c1), (.ref b1)])) rfl hml.symm [(.int c1)] [] (lenOf pd_sap rfl) rfl rfl (hb hby d5_46) rfl rfl
 obtain ⟨rfl, N23q, t23, C23, Kp23, ht23, SB23, hC23⟩ := hQ23
 have N23 := Fr.app N19 N23q
 have hs23 : ∀ y ∈ [b1, t19], Safe Z own_EL T16.vm T19.heap y := fun y hy => by
  rcases List.mem_cons.mp hy with rfl | hy
  ·exact Safe.exa hZ16.alike xb19 (by decide) (by decide)
  ·cases List.mem_singleton.mp hy; exact sft19
 have K23 := K19.trans Kp23 (fun y hy => Or.inr (by
  rcases List.mem_cons.mp hy with rfl | hy
  ·exact sz1_b
  ·cases List.mem_singleton.mp hy; exact szt19))
 have CR23 := CR19.trans (CHr.keep Kp23 hs23 CH19)
 have CH23 := CHv.keep Kp23 hs23 CH19
 have sft23 : Safe Z own_EL T16.vm T23.heap t23 := by
  rcases ht23 with q | q
  ·rw [q]; exact Safe.keep Kp23 hs23 CH19 sft19
  ·exact Safe.keep Kp23 hs23 CH19 (Safe.new q)
 have szt23 : h0.size ≤ t23 := by
  rcases ht23 with q | q
  ·rw [q]; exact szt19
  ·exact Nat.le_trans K19.1 q
 have xb23 := xb19.keep Kp23
 obtain ⟨_, T24, Lc24, X24, hQ24, st24⟩ := own_cV X23 hx hZ16 (y := own_z5) (z := own_z5) ho16 (wd35 hw) (wd36 hw) (wd38 hw) rfl (wd38 hw) (wd37 hw) (wd39 hw) (wd8 hw) (by decide) (rmsl l Z a0 hw [] x [c0, c1] cd T23.heap n0 (Nat.le_trans (Nat.le_trans (Nat.le_trans (Nat.le_trans (Nat.le_trans (Nat.le_trans (Nat.le_trans (Nat.le_trans Z0 E1.1) Kp3.1) E6.1) Kp9.1) Kp13.1) E16.1) Kp19.1) Kp23.1) (SX.ext (own_ext K23)) (EN.ext (own_ext K23)) (by simp)) (Ex.ext (own_ext K23)) 1 (by decide) (g := (mkF m 16 #[.val (.ref x), .val (.ref b1), .val (.int (2 : Int32)), .val (.int c1)] [(.ref x), (.int (2 : Int32))])) rfl hml.symm [] [(.int (2 : Int32))] (lenOf pd_sl rfl) rfl rfl (hb hby d5_16) rfl rfl
 obtain ⟨rfl, N24q, q24⟩ := hQ24
 have N24 := Fr.app N23 N24q
 obtain ⟨_, T25, Lc25, X25, hQ25, st25⟩ := own_cV X24 hx hZ16 (y := own_z9) (z := own_z9) ho16 (wd61 hw) (wd62 hw) (wd64 hw) rfl (wd64 hw) (wd63 hw) (wd65 hw) (wd34 hw) (by decide) (rmts l Z a0 hw [] b1 t23 (((([] ++ own_e c0) ++ [c0]) ++ own_e c1) ++ [c1]) C23 T23.heap n0 (Nat.le_trans (Nat.le_trans (Nat.le_trans (Nat.le_trans (Nat.le_trans (Nat.le_trans (Nat.le_trans (Nat.le_trans Z0 E1.1) Kp3.1) E6.1) Kp9.1) Kp13.1) E16.1) Kp19.1) Kp23.1) SB23 (EN.ext (own_ext K23)) (by have q := hC23; omega)) xb23 0 (by decide) (g := (mkF m 57 #[.val (.ref x), .val (.ref b1), .val (.int (2 : Int32)), .val (.int c1)] [(.ref b1)])) rfl hml.symm [] [] (lenOf pd_ts rfl) rfl rfl (hb hby d5_57) q24 rfl
 obtain ⟨y25, rfl, N25q, E25, cd25, S25⟩ := hQ25
 have N25 := Fr.app N24 N25q
 have K25 := K23.ext E25
 have CR25 := CR23.trans (CHr.ext E25 CH23)
 have CH25 := CHv.ext E25 CH23
 have pre26 : own_pr p e below PP T25 (mkF m 60 #[.val (.ref x), .val (.ref b1), .val (.int (2 : Int32)), .val (.int c1)] [(.ref y25)]) := fun τ κ => pre19 τ (by
  show own_st p e below T19 (mkF m 44 #[.val (.ref x), .val (.ref b1), .val (.int (1 : Int32)), .val (.int c1)] []) _
  refine XS.aloadN X19.here hx rfl (hb hby d5_44) rfl rfl ?_
  refine XS.iloadN X19.here hx rfl (hb hby d5_45) rfl ?_
  refine st23 _ ?_
  refine XS.pop X23.here hx rfl (hb hby d5_49) rfl rfl ?_
  refine XS.iinc X23.here hx rfl (hb hby d5_50) rfl (l' := #[.val (.ref x), .val (.ref b1), .val (.int ((1 : Int32) + (1 : Int32))), .val (.int c1)]) rfl ?_
  show own_st p e below T23 (mkF m 53 #[.val (.ref x), .val (.ref b1), .val (.int ((1 : Int32) + (1 : Int32))), .val (.int c1)] []) _
  rw [show ((1 : Int32) + (1 : Int32)) = (2 : Int32) from by decide]
  refine XS.goto X23.here hx rfl (pc0 := 53) (pc' := 14) rfl (hb hby d5_53) (by decide) (by decide) ?_
  refine XS.iloadN X23.here hx rfl (hb hby d5_14) rfl ?_
  refine XS.aloadN X23.here hx rfl (hb hby d5_15) rfl rfl ?_
  refine st24 _ ?_
  refine XS.icmpYes X24.here hx rfl (pc0 := 19) (pc' := 56) rfl (hb hby d5_19) rfl (flt (by decide : ¬ ((2 : Int32) < (2 : Int32)))).2.1 (by decide) (by decide) ?_
  refine XS.aloadN X24.here hx rfl (hb hby d5_56) rfl rfl ?_
  refine st25 _ ?_
  exact κ)
 obtain ⟨fs27, hr27, hrun27, hended27, hE27⟩ := X25.leaveW hS16 (by first | exact (Nat.le_trans (Nat.le_trans (Nat.le_trans hk16 Kp19.1) Kp23.1) E25.1) | (rw [rfl]; exact (Nat.le_trans (Nat.le_trans (Nat.le_trans hk16 Kp19.1) Kp23.1) E25.1))) (v := some (.ref y25)) (fun h => by rw [Bd.returns] at h; cases h)
 refine ⟨_, _, hPs _ (pre26 _ ?_), hrun27, hended27, _, _, rfl, ?_, ?_, hE27.1, hE27.2.1, hE27.2.2.1, hE27.2.2.2.mono (by decide) (by decide)⟩
 ·show own_st p e below T25 (mkF m 60 #[.val (.ref x), .val (.ref b1), .val (.int (2 : Int32)), .val (.int c1)] [(.ref y25)]) _
  exact retOut X25 hx (t := (.object "java/lang/String")) Bd.returns rfl (Or.inr (Or.inr (Or.inr (Or.inr ⟨rfl, rfl, rfl⟩)))) (hb hby d5_60) hr27
 ·show Qlit2 Z x cd c0 c1 h0 n0 _ T25.heap _
  refine ⟨_, rfl, N25, K25, cd25, ?_⟩
  rw [show own_esc [c0, c1] = (((([] ++ own_e c0) ++ [c0]) ++ own_e c1) ++ [c1]) from by simp [own_esc]]
  exact S25
 ·show CHr Z own_EL s.vm s.heap T25.vm T25.heap
  rw [hh]
  exact CR25.trans (CHv.at X25 hZ16 hEL CH25)


def Qlit3 (Z : State) (x : Addr) (cd : Int32) (c0 c1 c2 : Int32) (h0 : Heap) (n0 : Nat) (v : Option Value) (h : Heap) (L : List Loc) : Prop := ∃ y, v = some (.ref y) ∧ Fr n0 L ∧ Keep h0 h [] ∧ ∃ cd, own_s Z h y (own_esc [c0, c1, c2]) cd
theorem rmlit3 (l : Launch) (Z : State) (a0 : Array Value) (hw : own_W Z a0) (ws : List Jvm.Cond) (x : Addr) (cd : Int32) (c0 c1 c2 : Int32) (h0 : Heap) (n0 : Nat) (Z0 : n0 ≤ h0.size) (SX : own_s Z h0 x [c0, c1, c2] cd) (EN : own_env Z h0) (hb0 : own_b c0) (hb1 : own_b c1) (hb2 : own_b c2) :
  MetFree l own_z4 (head1 (Jvm.Cond.code own_z4 own_c56 4 (some (.object "java/lang/String")) :: ws) ({ frames := 8, cells := 22, slots := 279, locals := 118 } : Room)) (fun a U => a = #[(.ref x)] ∧ Z.Warmed39 U.vm ∧ U.heap = h0 ∧ CHv Z own_EL U.vm h0) (fun _ _ _ _ _ => True) (fun _ U o U' => ∃ v L, o = .returned v ∧ Qlit3 Z x cd c0 c1 c2 h0 n0 v U'.heap L ∧ CHr Z own_EL U.vm U.heap U'.vm U'.heap ∧ ReturnedEndW U o U' L ({ frames := 8, cells := 22, slots := 279, locals := 118 } : Room).cells ({ frames := 8, cells := 22, slots := 279, locals := 118 } : Room).slots) := by
 refine MetFree.of_bodySF (plainFor_of_name pn_k1) hisR ?_
 intro p e s m args below meth c s₁ Bd hml0 hP hK
 obtain ⟨rfl, hZ, hh, hCH⟩ := hP
 have hx := Bd.exec
 have hby := Bd.bytes
 have hml : c.maxLocals = 4 := hml0
 have hown : s.vm.findClass "com/example/oxpecker/oxpecker/MessageTemplate" = some m.cls := findClass_of_methodNamed Bd.named
 have X0 : Stand p l e ({ frames := 8, cells := 22, slots := 279, locals := 118 } : Room) (s.setVm s.vm) m #[(.ref x)] below meth c s₁ [] 0 0 := Stand.of_body Bd
 have e0 : s₁.heap = h0 := by rw [← hh, Bd.state]; rfl
 have N0 := Fr.nil n0
 have hZ0 : Z.Warmed39 (s.setVm s.vm).vm := hZ
 have ho0 : (s.setVm s.vm).vm.findClass "com/example/oxpecker/oxpecker/MessageTemplate" = some m.cls := hown
 have hS0 : s.Since s.vm h0.size := (State.WarmedH.refl s).since _
 have hEL : EW Z a0 own_EL := own_EW hw
 have wS : ∀ a ∈ Bundle.stringAtoms, a.before a0 Z = true := fun d hd => hw d ((by decide +kernel : ∀ d ∈ Bundle.stringAtoms, d ∈ tables_1) d hd)
 obtain ⟨PP, hPs, pre0⟩ : ∃ PP : State → Prop, (∀ t, PP t → Steps p.tables e below (s₁.setTop (entryFrame m #[(.ref x)] 4)) t) ∧ own_pr p e below PP s₁ (mkF m 0 #[.val (.ref x), .unset, .unset, .unset] []) := ⟨_, fun _ κ => κ, fun τ κ => castTop (ef_lit0 m x) κ⟩
 have SX9 := SX
 obtain ⟨_, _, _, _, Ex, -⟩ := SX9
 have el0 := own_el c0
 have el1 := own_el c1
 have el2 := own_el c2
 obtain ⟨T1, h1, X1, e1, E1, A1, D1, -, st1⟩ := newO X0 hx hZ0 ho0 (wd32 hw) (wd33 hw) (wd34 hw) e0 (g := (mkF m 0 #[.val (.ref x), .unset, .unset, .unset] [])) rfl (hb hby d5_0) (by decide) (by decide)
 obtain ⟨b1, gb1⟩ : ∃ z, z = h0.size := ⟨_, rfl⟩
 rw [← gb1] at A1 D1 st1
 have gn1 : n0 ≤ b1 := Nat.le_trans Z0 (Nat.le_of_eq gb1.symm)
 have sz1_b : h0.size ≤ b1 := Nat.le_trans (Keep.refl h0 []).1 (Nat.le_of_eq gb1.symm)
 have K1 := (Keep.refl h0 []).ext E1
 have F_value_b1 : Fld Z h1 b1 "java/lang/AbstractStringBuilder" "value" "[B" .null := D1 (Or.inl (wd58 hw)) (ty := (.array .byte)) (by decide)
 have F_coder_b1 : Fld Z h1 b1 "java/lang/AbstractStringBuilder" "coder" "B" (.int (0 : Int32)) := D1 (Or.inl (wd60 hw)) (ty := .byte) (by decide)
 have F_count_b1 : Fld Z h1 b1 "java/lang/AbstractStringBuilder" "count" "I" (.int (0 : Int32)) := D1 (Or.inl (wd88 hw)) (ty := .int) (by decide)
 have F_maybeLatin1_b1 : Fld Z h1 b1 "java/lang/AbstractStringBuilder" "maybeLatin1" "Z" (.int (0 : Int32)) := D1 (Or.inl (wd276 hw)) (ty := .boolean) (by decide)
 obtain ⟨_, T2, Lc2, X2, hQ2, st2⟩ := own_cV X1 hx hZ0 (y := own_z5) (z := own_z5) ho0 (wd35 hw) (wd36 hw) (wd38 hw) rfl (wd38 hw) (wd37 hw) (wd39 hw) (wd8 hw) (by decide) (rmsl l Z a0 hw [] x [c0, c1, c2] cd h1 n0 (Nat.le_trans Z0 E1.1) (SX.ext (own_ext K1)) (EN.ext (own_ext K1)) (by simp)) (Ex.ext (own_ext K1)) 2 (by decide) (g := (mkF m 5 #[.val (.ref x), .unset, .unset, .unset] [(.ref x), (.ref b1), (.ref b1)])) rfl hml.symm [] [(.ref b1), (.ref b1)] (lenOf pd_sl rfl) rfl rfl (hb hby d5_5) e1 rfl
 obtain ⟨rfl, N2q, q2⟩ := hQ2
 have N2 := Fr.app N0 N2q
 obtain ⟨_, T3, Lc3, X3, hQ3, st3⟩ := own_cI X2 hx hZ0 (y := own_z7) rfl ho0 (wd46 hw) (wd47 hw) (wd48 hw) (wd34 hw) (by decide) (rmsbi l Z a0 hw [] b1 3 h1 n0 (Nat.le_trans Z0 E1.1) A1 F_value_b1 F_coder_b1 F_count_b1 F_maybeLatin1_b1 gn1 (EN.ext (own_ext K1)) (by decide)) 1 (by decide) (g := (mkF m 8 #[.val (.ref x), .unset, .unset, .unset] [(.int (3 : Int32)), (.ref b1), (.ref b1)])) rfl hml.symm b1 [(.int (3 : Int32))] [(.ref b1)] (lenOf pd_ai rfl) rfl rfl (hb hby d5_8) q2 rfl
 obtain ⟨rfl, N3q, t3, Kp3, gz3, SB3⟩ := hQ3
 have N3 := Fr.app N2 N3q
 have szt3 : h0.size ≤ t3 := Nat.le_trans K1.1 gz3
 have xb3 := A1.keep Kp3
 have K3 := K1.trans Kp3 (fun x hx => by cases List.mem_singleton.mp hx; exact Or.inr sz1_b)
 have sft3 : Safe Z own_EL s.vm T3.heap t3 := Safe.ext (own_ext K3) hCH (Safe.new szt3)
 obtain ⟨_, T4, Lc4, X4, hQ4, st4⟩ := own_cV X3 hx hZ0 (y := own_z5) (z := own_z5) ho0 (wd35 hw) (wd36 hw) (wd38 hw) rfl (wd38 hw) (wd37 hw) (wd39 hw) (wd8 hw) (by decide) (rmsl l Z a0 hw [] x [c0, c1, c2] cd T3.heap n0 (Nat.le_trans (Nat.le_trans Z0 E1.1) Kp3.1) (SX.ext (own_ext K3)) (EN.ext (own_ext K3)) (by simp)) (Ex.ext (own_ext K3)) 1 (by decide) (g := (mkF m 16 #[.val (.ref x), .val (.ref b1), .val (.int (0 : Int32)), .unset] [(.ref x), (.int (0 : Int32))])) rfl hml.symm [] [(.int (0 : Int32))] (lenOf pd_sl rfl) rfl rfl (hb hby d5_16) rfl rfl
 obtain ⟨rfl, N4q, q4⟩ := hQ4
 have N4 := Fr.app N3 N4q
 obtain ⟨_, T5, Lc5, X5, hQ5, st5⟩ := own_cV X4 hx hZ0 (y := own_z22) (z := own_z22) ho0 (wd118 hw) (wd119 hw) (wd121 hw) rfl (wd121 hw) (wd120 hw) (wd122 hw) (wd8 hw) (by decide) (rmch l Z a0 hw [] x [c0, c1, c2] cd c0 0 T3.heap n0 (Nat.le_trans (Nat.le_trans Z0 E1.1) Kp3.1) (SX.ext (own_ext K3)) (EN.ext (own_ext K3)) (by simp) (by simp) rfl hb0) (Ex.ext (own_ext K3)) 0 (by decide) (g := (mkF m 24 #[.val (.ref x), .val (.ref b1), .val (.int (0 : Int32)), .unset] [(.int (0 : Int32)), (.ref x)])) rfl hml.symm [(.int (0 : Int32))] [] (lenOf pd_pk rfl) rfl rfl (hb hby d5_24) q4 rfl
 obtain ⟨rfl, N5q, q5⟩ := hQ5
 have N5 := Fr.app N4 N5q
 have Sz5 := SB3
 obtain ⟨kt5, _, _, _, -, -, -, -, -, -, At5, -⟩ := Sz5
 obtain ⟨la6, T6, h6, k6, b6, kc6, X6, e6, E6, hS6, hk6, hZ6, ho6, A6, C6, V6, K6_, lt6, lb6, CQ6, Lt6, sf6, st6⟩ := ldcCH X5 hx hZ0 ho0 (wd140 hw) wS q5 hS0 K3.1 hEL (by decide) (CHv.ext (own_ext K3) hCH) (vs := [.int 123, .int 125, .int 36, .int 92]) (z := (4 : Int32)) ⟨by decide, rfl⟩ (by decide) rfl (g := (mkF m 28 #[.val (.ref x), .val (.ref b1), .val (.int (0 : Int32)), .val (.int c0)] [])) rfl (hb hby d5_28) (n := 16) (by decide) (by decide) (by decide) (by decide)
 have CR6 := (CHr.ext (own_ext K3) hCH).trans CQ6
 have CH6 := CQ6.1
 have K6 := K3.ext E6
 have sft6 := CHr.safe CQ6 At5.lt sft3
 have SB6 := SB3.ext E6
 have xb6 := xb3.ext E6
 obtain ⟨_, T7, Lc7, X7, hQ7, st7⟩ := own_cV X6 hx hZ6 (y := own_z27) (z := own_z27) ho6 (wd141 hw) (wd142 hw) (wd144 hw) rfl (wd144 hw) (wd143 hw) (wd145 hw) (wd8 hw) (by decide) (rmyg l Z a0 hw [] la6 b6 kc6 c0 h6 n0 (Nat.le_trans (Nat.le_trans (Nat.le_trans Z0 E1.1) Kp3.1) E6.1) (EN.ext (own_ext K6)) A6 V6 C6 K6_ hb0) A6 0 (by decide) (g := (mkF m 31 #[.val (.ref x), .val (.ref b1), .val (.int (0 : Int32)), .val (.int c0)] [(.int c0), (.ref la6)])) rfl hml.symm [(.int c0)] [] (lenOf pd_bl1 rfl) rfl rfl (hb hby d5_31) e6 rfl
 obtain ⟨r7, rfl, N7q, q7, hr7⟩ := hQ7
 have N7 := Fr.app N5 N7q
 have pre8 : own_pr p e below PP T7 (mkF m 34 #[.val (.ref x), .val (.ref b1), .val (.int (0 : Int32)), .val (.int c0)] [(.int r7)]) := fun τ κ => pre0 τ (by
  show own_st p e below s₁ (mkF m 0 #[.val (.ref x), .unset, .unset, .unset] []) _
  refine st1 _ ?_
  refine XS.dup X1.here hx rfl (hb hby d5_3) rfl rfl ?_
  refine XS.aloadN X1.here hx rfl (hb hby d5_4) rfl rfl ?_
  refine st2 _ ?_
  refine st3 _ ?_
  refine XS.astoreN X3.here hx rfl (hb hby d5_11) rfl rfl (l' := #[.val (.ref x), .val (.ref b1), .unset, .unset]) rfl ?_
  refine XS.iconst X3.here hx rfl (hb hby d5_12) ?_
  refine XS.istoreN X3.here hx rfl (hb hby d5_13) rfl (l' := #[.val (.ref x), .val (.ref b1), .val (.int (0 : Int32)), .unset]) rfl ?_
  refine XS.iloadN X3.here hx rfl (hb hby d5_14) rfl ?_
  refine XS.aloadN X3.here hx rfl (hb hby d5_15) rfl rfl ?_
  refine st4 _ ?_
  refine XS.icmpNo X4.here hx rfl (hb hby d5_19) rfl (tlt (by decide : (0 : Int32) < (3 : Int32))).2.1 ?_
  refine XS.aloadN X4.here hx rfl (hb hby d5_22) rfl rfl ?_
  refine XS.iloadN X4.here hx rfl (hb hby d5_23) rfl ?_
  refine st5 _ ?_
  refine XS.istoreN X5.here hx rfl (hb hby d5_27) rfl (l' := #[.val (.ref x), .val (.ref b1), .val (.int (0 : Int32)), .val (.int c0)]) rfl ?_
  refine st6 _ ?_
  refine XS.iloadN X6.here hx rfl (hb hby d5_30) rfl ?_
  refine st7 _ ?_
  exact κ)
 obtain ⟨T9, L9, t9, C9, X9, N9, Kp9, ht9, SB9, hC9, pre9⟩ : ∃ (T9 : State) (L9 : List Loc) (t9 : Addr) (C9 : Nat), Stand p l e ({ frames := 8, cells := 22, slots := 279, locals := 118 } : Room) (s.setVm T6.vm) m #[(.ref x)] below meth c T9 L9 (4 + 2) (27 + 32) ∧ Fr n0 L9 ∧ Keep h6 T9.heap [b1, t3] ∧ (t9 = t3 ∨ h6.size ≤ t9) ∧ own_sbd Z T9.heap b1 t9 ([] ++ own_e c0) C9 ∧ (C9 = 3 ∨ C9 = 2 * 3 + 2) ∧ own_pr p e below PP T9 (mkF m 44 #[.val (.ref x), .val (.ref b1), .val (.int (0 : Int32)), .val (.int c0)] []) := by
  by_cases hc34 : r7 < (0 : Int32)
  ·have pre10 : own_pr p e below PP T7 (mkF m 44 #[.val (.ref x), .val (.ref b1), .val (.int (0 : Int32)), .val (.int c0)] []) := fun τ κ => pre8 τ (by
    show own_st p e below T7 (mkF m 34 #[.val (.ref x), .val (.ref b1), .val (.int (0 : Int32)), .val (.int c0)] [(.int r7)]) _
    refine XS.ifYes X7.here hx rfl (pc0 := 34) (pc' := 44) rfl (hb hby d5_34) rfl ((if0 _ _).trans (tlt hc34).1) (by decide) (by decide) ?_
    exact κ)
   refine ⟨_, _, t3, 3, X7.mono (by decide) (by decide), N7, by rw [q7]; exact Keep.refl _ _, Or.inl rfl, ?_, (Or.inl rfl), pre10⟩
   rw [q7, own_P0 (hr7.mp hc34), List.append_nil]
   exact SB6
  ·obtain ⟨_, T11, Lc11, X11, hQ11, st11⟩ := own_cV X7 hx hZ6 (y := own_z34) (z := own_z34) ho6 (wd168 hw) (wd169 hw) (wd171 hw) rfl (wd171 hw) (wd170 hw) (wd172 hw) (wd34 hw) (by decide) (rmsap l Z a0 hw [] b1 t3 [] (92 : Int32) 3 3 h6 n0 (Nat.le_trans (Nat.le_trans (Nat.le_trans Z0 E1.1) Kp3.1) E6.1) SB6 (EN.ext (own_ext K6)) (Nat.le_trans Z0 sz1_b) (Nat.le_trans Z0 szt3) (by decide) (Or.inl rfl) (by simp only [List.length_append, List.length_cons, List.length_nil]; omega) own_bnil) xb6 0 (by decide) (g := (mkF m 40 #[.val (.ref x), .val (.ref b1), .val (.int (0 : Int32)), .val (.int c0)] [(.int (92 : Int32)), (.ref b1)])) rfl hml.symm [(.int (92 : Int32))] [] (lenOf pd_sap rfl) rfl rfl (hb hby d5_40) q7 rfl
   obtain ⟨rfl, N11q, t11, C11, Kp11, ht11, SB11, hC11⟩ := hQ11
   have N11 := Fr.app N7 N11q
   have pre12 : own_pr p e below PP T11 (mkF m 44 #[.val (.ref x), .val (.ref b1), .val (.int (0 : Int32)), .val (.int c0)] []) := fun τ κ => pre8 τ (by
    show own_st p e below T7 (mkF m 34 #[.val (.ref x), .val (.ref b1), .val (.int (0 : Int32)), .val (.int c0)] [(.int r7)]) _
    refine XS.ifNo X7.here hx rfl (hb hby d5_34) rfl ((if0 _ _).trans (flt hc34).1) ?_
    refine XS.aloadN X7.here hx rfl (hb hby d5_37) rfl rfl ?_
    refine XS.bipush X7.here hx rfl (hb hby d5_38) ?_
    refine st11 _ ?_
    refine XS.pop X11.here hx rfl (hb hby d5_43) rfl rfl ?_
    exact κ)
   have hP9 : own_e c0 = [92] := own_P1 (Classical.byContradiction fun q => hc34 (hr7.mpr q))
   exact ⟨_, _, t11, C11, X11, N11, Kp11, ht11, by rw [hP9]; exact SB11, hC11, pre12⟩
 have hs9 : ∀ y ∈ [b1, t3], Safe Z own_EL T6.vm h6 y := fun y hy => by
  rcases List.mem_cons.mp hy with rfl | hy
  ·exact Safe.exa hZ6.alike xb6 (by decide) (by decide)
  ·cases List.mem_singleton.mp hy; exact sft6
 have K9 := K6.trans Kp9 (fun y hy => Or.inr (by
  rcases List.mem_cons.mp hy with rfl | hy
  ·exact sz1_b
  ·cases List.mem_singleton.mp hy; exact szt3))
 have CR9 := CR6.trans (CHr.keep Kp9 hs9 CH6)
 have CH9 := CHv.keep Kp9 hs9 CH6
 have sft9 : Safe Z own_EL T6.vm T9.heap t9 := by
  rcases ht9 with q | q
  ·rw [q]; exact Safe.keep Kp9 hs9 CH6 sft6
  ·exact Safe.keep Kp9 hs9 CH6 (Safe.new q)
 have szt9 : h0.size ≤ t9 := by
  rcases ht9 with q | q
  ·rw [q]; exact szt3
  ·exact Nat.le_trans K6.1 q
 have xb9 := xb6.keep Kp9
 obtain ⟨_, T13, Lc13, X13, hQ13, st13⟩ := own_cV X9 hx hZ6 (y := own_z34) (z := own_z34) ho6 (wd168 hw) (wd169 hw) (wd171 hw) rfl (wd171 hw) (wd170 hw) (wd172 hw) (wd34 hw) (by decide) (rmsap l Z a0 hw [] b1 t9 ([] ++ own_e c0) c0 C9 3 T9.heap n0 (Nat.le_trans (Nat.le_trans (Nat.le_trans (Nat.le_trans Z0 E1.1) Kp3.1) E6.1) Kp9.1) SB9 (EN.ext (own_ext K9)) (Nat.le_trans Z0 sz1_b) (Nat.le_trans Z0 szt9) (by decide) hC9 (by simp only [List.length_append, List.length_cons, List.length_nil]; omega) (own_bapp own_bnil (own_be c0))) xb9 0 (by decide) (g := (mkF m 46 #[.val (.ref x), .val (.ref b1), .val (.int (0 : Int32)), .val (.int c0)] [(.int c0), (.ref b1)])) rfl hml.symm [(.int c0)] [] (lenOf pd_sap rfl) rfl rfl (hb hby d5_46) rfl rfl
 obtain ⟨rfl, N13q, t13, C13, Kp13, ht13, SB13, hC13⟩ := hQ13
 have N13 := Fr.app N9 N13q
 have hs13 : ∀ y ∈ [b1, t9], Safe Z own_EL T6.vm T9.heap y := fun y hy => by
  rcases List.mem_cons.mp hy with rfl | hy
  ·exact Safe.exa hZ6.alike xb9 (by decide) (by decide)
  ·cases List.mem_singleton.mp hy; exact sft9
 have K13 := K9.trans Kp13 (fun y hy => Or.inr (by
  rcases List.mem_cons.mp hy with rfl | hy
  ·exact sz1_b
  ·cases List.mem_singleton.mp hy; exact szt9))
 have CR13 := CR9.trans (CHr.keep Kp13 hs13 CH9)
 have CH13 := CHv.keep Kp13 hs13 CH9
 have sft13 : Safe Z own_EL T6.vm T13.heap t13 := by
  rcases ht13 with q | q
  ·rw [q]; exact Safe.keep Kp13 hs13 CH9 sft9
  ·exact Safe.keep Kp13 hs13 CH9 (Safe.new q)
 have szt13 : h0.size ≤ t13 := by
  rcases ht13 with q | q
  ·rw [q]; exact szt9
  ·exact Nat.le_trans K9.1 q
 have xb13 := xb9.keep Kp13
 obtain ⟨_, T14, Lc14, X14, hQ14, st14⟩ := own_cV X13 hx hZ6 (y := own_z5) (z := own_z5) ho6 (wd35 hw) (wd36 hw) (wd38 hw) rfl (wd38 hw) (wd37 hw) (wd39 hw) (wd8 hw) (by decide) (rmsl l Z a0 hw [] x [c0, c1, c2] cd T13.heap n0 (Nat.le_trans (Nat.le_trans (Nat.le_trans (Nat.le_trans (Nat.le_trans Z0 E1.1) Kp3.1) E6.1) Kp9.1) Kp13.1) (SX.ext (own_ext K13)) (EN.ext (own_ext K13)) (by simp)) (Ex.ext (own_ext K13)) 1 (by decide) (g := (mkF m 16 #[.val (.ref x), .val (.ref b1), .val (.int (1 : Int32)), .val (.int c0)] [(.ref x), (.int (1 : Int32))])) rfl hml.symm [] [(.int (1 : Int32))] (lenOf pd_sl rfl) rfl rfl (hb hby d5_16) rfl rfl
 obtain ⟨rfl, N14q, q14⟩ := hQ14
 have N14 := Fr.app N13 N14q
 obtain ⟨_, T15, Lc15, X15, hQ15, st15⟩ := own_cV X14 hx hZ6 (y := own_z22) (z := own_z22) ho6 (wd118 hw) (wd119 hw) (wd121 hw) rfl (wd121 hw) (wd120 hw) (wd122 hw) (wd8 hw) (by decide) (rmch l Z a0 hw [] x [c0, c1, c2] cd c1 1 T13.heap n0 (Nat.le_trans (Nat.le_trans (Nat.le_trans (Nat.le_trans (Nat.le_trans Z0 E1.1) Kp3.1) E6.1) Kp9.1) Kp13.1) (SX.ext (own_ext K13)) (EN.ext (own_ext K13)) (by simp) (by simp) rfl hb1) (Ex.ext (own_ext K13)) 0 (by decide) (g := (mkF m 24 #[.val (.ref x), .val (.ref b1), .val (.int (1 : Int32)), .val (.int c0)] [(.int (1 : Int32)), (.ref x)])) rfl hml.symm [(.int (1 : Int32))] [] (lenOf pd_pk rfl) rfl rfl (hb hby d5_24) q14 rfl
 obtain ⟨rfl, N15q, q15⟩ := hQ15
 have N15 := Fr.app N14 N15q
 have Sz15 := SB13
 obtain ⟨kt15, _, _, _, -, -, -, -, -, -, At15, -⟩ := Sz15
 obtain ⟨la16, T16, h16, k16, b16, kc16, X16, e16, E16, hS16, hk16, hZ16, ho16, A16, C16, V16, K16_, lt16, lb16, CQ16, Lt16, sf16, st16⟩ := ldcCH X15 hx hZ6 ho6 (wd140 hw) wS q15 hS6 (Nat.le_trans (Nat.le_trans hk6 Kp9.1) Kp13.1) hEL (by decide) CH13 (vs := [.int 123, .int 125, .int 36, .int 92]) (z := (4 : Int32)) ⟨by decide, rfl⟩ (by decide) rfl (g := (mkF m 28 #[.val (.ref x), .val (.ref b1), .val (.int (1 : Int32)), .val (.int c1)] [])) rfl (hb hby d5_28) (n := 16) (by decide) (by decide) (by decide) (by decide)
 have CR16 := CR13.trans CQ16
 have CH16 := CQ16.1
 have K16 := K13.ext E16
 have sft16 := CHr.safe CQ16 At15.lt sft13
 have SB16 := SB13.ext E16
 have xb16 := xb13.ext E16
 obtain ⟨_, T17, Lc17, X17, hQ17, st17⟩ := own_cV X16 hx hZ16 (y := own_z27) (z := own_z27) ho16 (wd141 hw) (wd142 hw) (wd144 hw) rfl (wd144 hw) (wd143 hw) (wd145 hw) (wd8 hw) (by decide) (rmyg l Z a0 hw [] la16 b16 kc16 c1 h16 n0 (Nat.le_trans (Nat.le_trans (Nat.le_trans (Nat.le_trans (Nat.le_trans (Nat.le_trans Z0 E1.1) Kp3.1) E6.1) Kp9.1) Kp13.1) E16.1) (EN.ext (own_ext K16)) A16 V16 C16 K16_ hb1) A16 0 (by decide) (g := (mkF m 31 #[.val (.ref x), .val (.ref b1), .val (.int (1 : Int32)), .val (.int c1)] [(.int c1), (.ref la16)])) rfl hml.symm [(.int c1)] [] (lenOf pd_bl1 rfl) rfl rfl (hb hby d5_31) e16 rfl
 obtain ⟨r17, rfl, N17q, q17, hr17⟩ := hQ17
 have N17 := Fr.app N15 N17q
 have pre18 : own_pr p e below PP T17 (mkF m 34 #[.val (.ref x), .val (.ref b1), .val (.int (1 : Int32)), .val (.int c1)] [(.int r17)]) := fun τ κ => pre9 τ (by
  show own_st p e below T9 (mkF m 44 #[.val (.ref x), .val (.ref b1), .val (.int (0 : Int32)), .val (.int c0)] []) _
  refine XS.aloadN X9.here hx rfl (hb hby d5_44) rfl rfl ?_
  refine XS.iloadN X9.here hx rfl (hb hby d5_45) rfl ?_
  refine st13 _ ?_
  refine XS.pop X13.here hx rfl (hb hby d5_49) rfl rfl ?_
  refine XS.iinc X13.here hx rfl (hb hby d5_50) rfl (l' := #[.val (.ref x), .val (.ref b1), .val (.int ((0 : Int32) + (1 : Int32))), .val (.int c0)]) rfl ?_
  show own_st p e below T13 (mkF m 53 #[.val (.ref x), .val (.ref b1), .val (.int ((0 : Int32) + (1 : Int32))), .val (.int c0)] []) _
  rw [show ((0 : Int32) + (1 : Int32)) = (1 : Int32) from by decide]
  refine XS.goto X13.here hx rfl (pc0 := 53) (pc' := 14) rfl (hb hby d5_53) (by decide) (by decide) ?_
  refine XS.iloadN X13.here hx rfl (hb hby d5_14) rfl ?_
  refine XS.aloadN X13.here hx rfl (hb hby d5_15) rfl rfl ?_
  refine st14 _ ?_
  refine XS.icmpNo X14.here hx rfl (hb hby d5_19) rfl (tlt (by decide : (1 : Int32) < (3 : Int32))).2.1 ?_
  refine XS.aloadN X14.here hx rfl (hb hby d5_22) rfl rfl ?_
  refine XS.iloadN X14.here hx rfl (hb hby d5_23) rfl ?_
  refine st15 _ ?_
  refine XS.istoreN X15.here hx rfl (hb hby d5_27) rfl (l' := #[.val (.ref x), .val (.ref b1), .val (.int (1 : Int32)), .val (.int c1)]) rfl ?_
  refine st16 _ ?_
  refine XS.iloadN X16.here hx rfl (hb hby d5_30) rfl ?_
  refine st17 _ ?_
  exact κ)
 obtain ⟨T19, L19, t19, C19, X19, N19, Kp19, ht19, SB19, hC19, pre19⟩ : ∃ (T9 : State) (L9 : List Loc) (t9 : Addr) (C9 : Nat), Stand p l e ({ frames := 8, cells := 22, slots := 279, locals := 118 } : Room) (s.setVm T16.vm) m #[(.ref x)] below meth c T9 L9 (10 + 2) (111 + 32) ∧ Fr n0 L9 ∧ Keep h16 T9.heap [b1, t13] ∧ (t9 = t13 ∨ h16.size ≤ t9) ∧ own_sbd Z T9.heap b1 t9 ((([] ++ own_e c0) ++ [c0]) ++ own_e c1) C9 ∧ (C9 = 3 ∨ C9 = 2 * 3 + 2) ∧ own_pr p e below PP T9 (mkF m 44 #[.val (.ref x), .val (.ref b1), .val (.int (1 : Int32)), .val (.int c1)] []) := by
  by_cases hc34 : r17 < (0 : Int32)
  ·have pre20 : own_pr p e below PP T17 (mkF m 44 #[.val (.ref x), .val (.ref b1), .val (.int (1 : Int32)), .val (.int c1)] []) := fun τ κ => pre18 τ (by
    show own_st p e below T17 (mkF m 34 #[.val (.ref x), .val (.ref b1), .val (.int (1 : Int32)), .val (.int c1)] [(.int r17)]) _
    refine XS.ifYes X17.here hx rfl (pc0 := 34) (pc' := 44) rfl (hb hby d5_34) rfl ((if0 _ _).trans (tlt hc34).1) (by decide) (by decide) ?_
    exact κ)
   refine ⟨_, _, t13, C13, X17.mono (by decide) (by decide), N17, by rw [q17]; exact Keep.refl _ _, Or.inl rfl, ?_, hC13, pre20⟩
   rw [q17, own_P0 (hr17.mp hc34), List.append_nil]
   exact SB16
  ·obtain ⟨_, T21, Lc21, X21, hQ21, st21⟩ := own_cV X17 hx hZ16 (y := own_z34) (z := own_z34) ho16 (wd168 hw) (wd169 hw) (wd171 hw) rfl (wd171 hw) (wd170 hw) (wd172 hw) (wd34 hw) (by decide) (rmsap l Z a0 hw [] b1 t13 (([] ++ own_e c0) ++ [c0]) (92 : Int32) C13 3 h16 n0 (Nat.le_trans (Nat.le_trans (Nat.le_trans (Nat.le_trans (Nat.le_trans (Nat.le_trans Z0 E1.1) Kp3.1) E6.1) Kp9.1) Kp13.1) E16.1) SB16 (EN.ext (own_ext K16)) (Nat.le_trans Z0 sz1_b) (Nat.le_trans Z0 szt13) (by decide) hC13 (by simp only [List.length_append, List.length_cons, List.length_nil]; omega) (own_bapp (own_bapp own_bnil (own_be c0)) (own_bone hb0))) xb16 0 (by decide) (g := (mkF m 40 #[.val (.ref x), .val (.ref b1), .val (.int (1 : Int32)), .val (.int c1)] [(.int (92 : Int32)), (.ref b1)])) rfl hml.symm [(.int (92 : Int32))] [] (lenOf pd_sap rfl) rfl rfl (hb hby d5_40) q17 rfl
   obtain ⟨rfl, N21q, t21, C21, Kp21, ht21, SB21, hC21⟩ := hQ21
   have N21 := Fr.app N17 N21q
   have pre22 : own_pr p e below PP T21 (mkF m 44 #[.val (.ref x), .val (.ref b1), .val (.int (1 : Int32)), .val (.int c1)] []) := fun τ κ => pre18 τ (by
    show own_st p e below T17 (mkF m 34 #[.val (.ref x), .val (.ref b1), .val (.int (1 : Int32)), .val (.int c1)] [(.int r17)]) _
    refine XS.ifNo X17.here hx rfl (hb hby d5_34) rfl ((if0 _ _).trans (flt hc34).1) ?_
    refine XS.aloadN X17.here hx rfl (hb hby d5_37) rfl rfl ?_
    refine XS.bipush X17.here hx rfl (hb hby d5_38) ?_
    refine st21 _ ?_
    refine XS.pop X21.here hx rfl (hb hby d5_43) rfl rfl ?_
    exact κ)
   have hP9 : own_e c1 = [92] := own_P1 (Classical.byContradiction fun q => hc34 (hr17.mpr q))
   exact ⟨_, _, t21, C21, X21, N21, Kp21, ht21, by rw [hP9]; exact SB21, hC21, pre22⟩
 have hs19 : ∀ y ∈ [b1, t13], Safe Z own_EL T16.vm h16 y := fun y hy => by
  rcases List.mem_cons.mp hy with rfl | hy
  ·exact Safe.exa hZ16.alike xb16 (by decide) (by decide)
  ·cases List.mem_singleton.mp hy; exact sft16
 have K19 := K16.trans Kp19 (fun y hy => Or.inr (by
  rcases List.mem_cons.mp hy with rfl | hy
  ·exact sz1_b
  ·cases List.mem_singleton.mp hy; exact szt13))
 have CR19 := CR16.trans (CHr.keep Kp19 hs19 CH16)
 have CH19 := CHv.keep Kp19 hs19 CH16
 have sft19 : Safe Z own_EL T16.vm T19.heap t19 := by
  rcases ht19 with q | q
  ·rw [q]; exact Safe.keep Kp19 hs19 CH16 sft16
  ·exact Safe.keep Kp19 hs19 CH16 (Safe.new q)
 have szt19 : h0.size ≤ t19 := by
  rcases ht19 with q | q
  ·rw [q]; exact szt13
  ·exact Nat.le_trans K16.1 q
 have xb19 := xb16.keep Kp19
 obtain ⟨_, T23, Lc23, X23, hQ23, st23⟩ := own_cV X19 hx hZ16 (y := own_z34) (z := own_z34) ho16 (wd168 hw) (wd169 hw) (wd171 hw) rfl (wd171 hw) (wd170 hw) (wd172 hw) (wd34 hw) (by decide) (rmsap l Z a0 hw [] b1 t19 ((([] ++ own_e c0) ++ [c0]) ++ own_e c1) c1 C19 3 T19.heap n0 (Nat.le_trans (Nat.le_trans (Nat.le_trans (Nat.le_trans (Nat.le_trans (Nat.le_trans (Nat.le_trans Z0 E1.1) Kp3.1) E6.1) Kp9.1) Kp13.1) E16.1) Kp19.1) SB19 (EN.ext (own_ext K19)) (Nat.le_trans Z0 sz1_b) (Nat.le_trans Z0 szt19) (by decide) hC19 (by simp only [List.length_append, List.length_cons, List.length_nil]; omega) (own_bapp (own_bapp (own_bapp own_bnil (own_be c0)) (own_bone hb0)) (own_be c1))) xb19 0 (by decide) (g := (mkF m 46 #[.val (.ref x), .val (.ref b1), .val (.int (1 : Int32)), .val (.int c1)] [(.int c1), (.ref b1)])) rfl hml.symm [(.int c1)] [] (lenOf pd_sap rfl) rfl rfl (hb hby d5_46) rfl rfl
 obtain ⟨rfl, N23q, t23, C23, Kp23, ht23, SB23, hC23⟩ := hQ23
 have N23 := Fr.app N19 N23q
 have hs23 : ∀ y ∈ [b1, t19], Safe Z own_EL T16.vm T19.heap y := fun y hy => by
  rcases List.mem_cons.mp hy with rfl | hy
  ·exact Safe.exa hZ16.alike xb19 (by decide) (by decide)
  ·cases List.mem_singleton.mp hy; exact sft19
 have K23 := K19.trans Kp23 (fun y hy => Or.inr (by
  rcases List.mem_cons.mp hy with rfl | hy
  ·exact sz1_b
  ·cases List.mem_singleton.mp hy; exact szt19))
 have CR23 := CR19.trans (CHr.keep Kp23 hs23 CH19)
 have CH23 := CHv.keep Kp23 hs23 CH19
 have sft23 : Safe Z own_EL T16.vm T23.heap t23 := by
  rcases ht23 with q | q
  ·rw [q]; exact Safe.keep Kp23 hs23 CH19 sft19
  ·exact Safe.keep Kp23 hs23 CH19 (Safe.new q)
 have szt23 : h0.size ≤ t23 := by
  rcases ht23 with q | q
  ·rw [q]; exact szt19
  ·exact Nat.le_trans K19.1 q
 have xb23 := xb19.keep Kp23
 obtain ⟨_, T24, Lc24, X24, hQ24, st24⟩ := own_cV X23 hx hZ16 (y := own_z5) (z := own_z5) ho16 (wd35 hw) (wd36 hw) (wd38 hw) rfl (wd38 hw) (wd37 hw) (wd39 hw) (wd8 hw) (by decide) (rmsl l Z a0 hw [] x [c0, c1, c2] cd T23.heap n0 (Nat.le_trans (Nat.le_trans (Nat.le_trans (Nat.le_trans (Nat.le_trans (Nat.le_trans (Nat.le_trans (Nat.le_trans Z0 E1.1) Kp3.1) E6.1) Kp9.1) Kp13.1) E16.1) Kp19.1) Kp23.1) (SX.ext (own_ext K23)) (EN.ext (own_ext K23)) (by simp)) (Ex.ext (own_ext K23)) 1 (by decide) (g := (mkF m 16 #[.val (.ref x), .val (.ref b1), .val (.int (2 : Int32)), .val (.int c1)] [(.ref x), (.int (2 : Int32))])) rfl hml.symm [] [(.int (2 : Int32))] (lenOf pd_sl rfl) rfl rfl (hb hby d5_16) rfl rfl
 obtain ⟨rfl, N24q, q24⟩ := hQ24
 have N24 := Fr.app N23 N24q
 obtain ⟨_, T25, Lc25, X25, hQ25, st25⟩ := own_cV X24 hx hZ16 (y := own_z22) (z := own_z22) ho16 (wd118 hw) (wd119 hw) (wd121 hw) rfl (wd121 hw) (wd120 hw) (wd122 hw) (wd8 hw) (by decide) (rmch l Z a0 hw [] x [c0, c1, c2] cd c2 2 T23.heap n0 (Nat.le_trans (Nat.le_trans (Nat.le_trans (Nat.le_trans (Nat.le_trans (Nat.le_trans (Nat.le_trans (Nat.le_trans Z0 E1.1) Kp3.1) E6.1) Kp9.1) Kp13.1) E16.1) Kp19.1) Kp23.1) (SX.ext (own_ext K23)) (EN.ext (own_ext K23)) (by simp) (by simp) rfl hb2) (Ex.ext (own_ext K23)) 0 (by decide) (g := (mkF m 24 #[.val (.ref x), .val (.ref b1), .val (.int (2 : Int32)), .val (.int c1)] [(.int (2 : Int32)), (.ref x)])) rfl hml.symm [(.int (2 : Int32))] [] (lenOf pd_pk rfl) rfl rfl (hb hby d5_24) q24 rfl
 obtain ⟨rfl, N25q, q25⟩ := hQ25
 have N25 := Fr.app N24 N25q
 have Sz25 := SB23
 obtain ⟨kt25, _, _, _, -, -, -, -, -, -, At25, -⟩ := Sz25
 obtain ⟨la26, T26, h26, k26, b26, kc26, X26, e26, E26, hS26, hk26, hZ26, ho26, A26, C26, V26, K26_, lt26, lb26, CQ26, Lt26, sf26, st26⟩ := ldcCH X25 hx hZ16 ho16 (wd140 hw) wS q25 hS16 (Nat.le_trans (Nat.le_trans hk16 Kp19.1) Kp23.1) hEL (by decide) CH23 (vs := [.int 123, .int 125, .int 36, .int 92]) (z := (4 : Int32)) ⟨by decide, rfl⟩ (by decide) rfl (g := (mkF m 28 #[.val (.ref x), .val (.ref b1), .val (.int (2 : Int32)), .val (.int c2)] [])) rfl (hb hby d5_28) (n := 16) (by decide) (by decide) (by decide) (by decide)
 have CR26 := CR23.trans CQ26
 have CH26 := CQ26.1
 have K26 := K23.ext E26
 have sft26 := CHr.safe CQ26 At25.lt sft23
 have SB26 := SB23.ext E26
 have xb26 := xb23.ext E26
 obtain ⟨_, T27, Lc27, X27, hQ27, st27⟩ := own_cV X26 hx hZ26 (y := own_z27) (z := own_z27) ho26 (wd141 hw) (wd142 hw) (wd144 hw) rfl (wd144 hw) (wd143 hw) (wd145 hw) (wd8 hw) (by decide) (rmyg l Z a0 hw [] la26 b26 kc26 c2 h26 n0 (Nat.le_trans (Nat.le_trans (Nat.le_trans (Nat.le_trans (Nat.le_trans (Nat.le_trans (Nat.le_trans (Nat.le_trans (Nat.le_trans Z0 E1.1) Kp3.1) E6.1) Kp9.1) Kp13.1) E16.1) Kp19.1) Kp23.1) E26.1) (EN.ext (own_ext K26)) A26 V26 C26 K26_ hb2) A26 0 (by decide) (g := (mkF m 31 #[.val (.ref x), .val (.ref b1), .val (.int (2 : Int32)), .val (.int c2)] [(.int c2), (.ref la26)])) rfl hml.symm [(.int c2)] [] (lenOf pd_bl1 rfl) rfl rfl (hb hby d5_31) e26 rfl
 obtain ⟨r27, rfl, N27q, q27, hr27⟩ := hQ27
 have N27 := Fr.app N25 N27q
 have pre28 : own_pr p e below PP T27 (mkF m 34 #[.val (.ref x), .val (.ref b1), .val (.int (2 : Int32)), .val (.int c2)] [(.int r27)]) := fun τ κ => pre19 τ (by
  show own_st p e below T19 (mkF m 44 #[.val (.ref x), .val (.ref b1), .val (.int (1 : Int32)), .val (.int c1)] []) _
  refine XS.aloadN X19.here hx rfl (hb hby d5_44) rfl rfl ?_
  refine XS.iloadN X19.here hx rfl (hb hby d5_45) rfl ?_
  refine st23 _ ?_
  refine XS.pop X23.here hx rfl (hb hby d5_49) rfl rfl ?_
  refine XS.iinc X23.here hx rfl (hb hby d5_50) rfl (l' := #[.val (.ref x), .val (.ref b1), .val (.int ((1 : Int32) + (1 : Int32))), .val (.int c1)]) rfl ?_
  show own_st p e below T23 (mkF m 53 #[.val (.ref x), .val (.ref b1), .val (.int ((1 : Int32) + (1 : Int32))), .val (.int c1)] []) _
  rw [show ((1 : Int32) + (1 : Int32)) = (2 : Int32) from by decide]
  refine XS.goto X23.here hx rfl (pc0 := 53) (pc' := 14) rfl (hb hby d5_53) (by decide) (by decide) ?_
  refine XS.iloadN X23.here hx rfl (hb hby d5_14) rfl ?_
  refine XS.aloadN X23.here hx rfl (hb hby d5_15) rfl rfl ?_
  refine st24 _ ?_
  refine XS.icmpNo X24.here hx rfl (hb hby d5_19) rfl (tlt (by decide : (2 : Int32) < (3 : Int32))).2.1 ?_
  refine XS.aloadN X24.here hx rfl (hb hby d5_22) rfl rfl ?_
  refine XS.iloadN X24.here hx rfl (hb hby d5_23) rfl ?_
  refine st25 _ ?_
  refine XS.istoreN X25.here hx rfl (hb hby d5_27) rfl (l' := #[.val (.ref x), .val (.ref b1), .val (.int (2 : Int32)), .val (.int c2)]) rfl ?_
  refine st26 _ ?_
  refine XS.iloadN X26.here hx rfl (hb hby d5_30) rfl ?_
  refine st27 _ ?_
  exact κ)
 obtain ⟨T29, L29, t29, C29, X29, N29, Kp29, ht29, SB29, hC29, pre29⟩ : ∃ (T9 : State) (L9 : List Loc) (t9 : Addr) (C9 : Nat), Stand p l e ({ frames := 8, cells := 22, slots := 279, locals := 118 } : Room) (s.setVm T26.vm) m #[(.ref x)] below meth c T9 L9 (16 + 2) (195 + 32) ∧ Fr n0 L9 ∧ Keep h26 T9.heap [b1, t23] ∧ (t9 = t23 ∨ h26.size ≤ t9) ∧ own_sbd Z T9.heap b1 t9 ((((([] ++ own_e c0) ++ [c0]) ++ own_e c1) ++ [c1]) ++ own_e c2) C9 ∧ (C9 = 3 ∨ C9 = 2 * 3 + 2) ∧ own_pr p e below PP T9 (mkF m 44 #[.val (.ref x), .val (.ref b1), .val (.int (2 : Int32)), .val (.int c2)] []) := by
  by_cases hc34 : r27 < (0 : Int32)
  ·have pre30 : own_pr p e below PP T27 (mkF m 44 #[.val (.ref x), .val (.ref b1), .val (.int (2 : Int32)), .val (.int c2)] []) := fun τ κ => pre28 τ (by
    show own_st p e below T27 (mkF m 34 #[.val (.ref x), .val (.ref b1), .val (.int (2 : Int32)), .val (.int c2)] [(.int r27)]) _
    refine XS.ifYes X27.here hx rfl (pc0 := 34) (pc' := 44) rfl (hb hby d5_34) rfl ((if0 _ _).trans (tlt hc34).1) (by decide) (by decide) ?_
    exact κ)
   refine ⟨_, _, t23, C23, X27.mono (by decide) (by decide), N27, by rw [q27]; exact Keep.refl _ _, Or.inl rfl, ?_, hC23, pre30⟩
   rw [q27, own_P0 (hr27.mp hc34), List.append_nil]
   exact SB26
  ·obtain ⟨_, T31, Lc31, X31, hQ31, st31⟩ := own_cV X27 hx hZ26 (y := own_z34) (z := own_z34) ho26 (wd168 hw) (wd169 hw) (wd171 hw) rfl (wd171 hw) (wd170 hw) (wd172 hw) (wd34 hw) (by decide) (rmsap l Z a0 hw [] b1 t23 (((([] ++ own_e c0) ++ [c0]) ++ own_e c1) ++ [c1]) (92 : Int32) C23 3 h26 n0 (Nat.le_trans (Nat.le_trans (Nat.le_trans (Nat.le_trans (Nat.le_trans (Nat.le_trans (Nat.le_trans (Nat.le_trans (Nat.le_trans Z0 E1.1) Kp3.1) E6.1) Kp9.1) Kp13.1) E16.1) Kp19.1) Kp23.1) E26.1) SB26 (EN.ext (own_ext K26)) (Nat.le_trans Z0 sz1_b) (Nat.le_trans Z0 szt23) (by decide) hC23 (by simp only [List.length_append, List.length_cons, List.length_nil]; omega) (own_bapp (own_bapp (own_bapp (own_bapp own_bnil (own_be c0)) (own_bone hb0)) (own_be c1)) (own_bone hb1))) xb26 0 (by decide) (g := (mkF m 40 #[.val (.ref x), .val (.ref b1), .val (.int (2 : Int32)), .val (.int c2)] [(.int (92 : Int32)), (.ref b1)])) rfl hml.symm [(.int (92 : Int32))] [] (lenOf pd_sap rfl) rfl rfl (hb hby d5_40) q27 rfl
   obtain ⟨rfl, N31q, t31, C31, Kp31, ht31, SB31, hC31⟩ := hQ31
   have N31 := Fr.app N27 N31q
   have pre32 : own_pr p e below PP T31 (mkF m 44 #[.val (.ref x), .val (.ref b1), .val (.int (2 : Int32)), .val (.int c2)] []) := fun τ κ => pre28 τ (by
    show own_st p e below T27 (mkF m 34 #[.val (.ref x), .val (.ref b1), .val (.int (2 : Int32)), .val (.int c2)] [(.int r27)]) _
    refine XS.ifNo X27.here hx rfl (hb hby d5_34) rfl ((if0 _ _).trans (flt hc34).1) ?_
    refine XS.aloadN X27.here hx rfl (hb hby d5_37) rfl rfl ?_
    refine XS.bipush X27.here hx rfl (hb hby d5_38) ?_
    refine st31 _ ?_
    refine XS.pop X31.here hx rfl (hb hby d5_43) rfl rfl ?_
    exact κ)
   have hP9 : own_e c2 = [92] := own_P1 (Classical.byContradiction fun q => hc34 (hr27.mpr q))
   exact ⟨_, _, t31, C31, X31, N31, Kp31, ht31, by rw [hP9]; exact SB31, hC31, pre32⟩
 have hs29 : ∀ y ∈ [b1, t23], Safe Z own_EL T26.vm h26 y := fun y hy => by
  rcases List.mem_cons.mp hy with rfl | hy
  ·exact Safe.exa hZ26.alike xb26 (by decide) (by decide)
  ·cases List.mem_singleton.mp hy; exact sft26
 have K29 := K26.trans Kp29 (fun y hy => Or.inr (by
  rcases List.mem_cons.mp hy with rfl | hy
  ·exact sz1_b
  ·cases List.mem_singleton.mp hy; exact szt23))
 have CR29 := CR26.trans (CHr.keep Kp29 hs29 CH26)
 have CH29 := CHv.keep Kp29 hs29 CH26
 have sft29 : Safe Z own_EL T26.vm T29.heap t29 := by
  rcases ht29 with q | q
  ·rw [q]; exact Safe.keep Kp29 hs29 CH26 sft26
  ·exact Safe.keep Kp29 hs29 CH26 (Safe.new q)
 have szt29 : h0.size ≤ t29 := by
  rcases ht29 with q | q
  ·rw [q]; exact szt23
  ·exact Nat.le_trans K26.1 q
 have xb29 := xb26.keep Kp29
 obtain ⟨_, T33, Lc33, X33, hQ33, st33⟩ := own_cV X29 hx hZ26 (y := own_z34) (z := own_z34) ho26 (wd168 hw) (wd169 hw) (wd171 hw) rfl (wd171 hw) (wd170 hw) (wd172 hw) (wd34 hw) (by decide) (rmsap l Z a0 hw [] b1 t29 ((((([] ++ own_e c0) ++ [c0]) ++ own_e c1) ++ [c1]) ++ own_e c2) c2 C29 3 T29.heap n0 (Nat.le_trans (Nat.le_trans (Nat.le_trans (Nat.le_trans (Nat.le_trans (Nat.le_trans (Nat.le_trans (Nat.le_trans (Nat.le_trans (Nat.le_trans Z0 E1.1) Kp3.1) E6.1) Kp9.1) Kp13.1) E16.1) Kp19.1) Kp23.1) E26.1) Kp29.1) SB29 (EN.ext (own_ext K29)) (Nat.le_trans Z0 sz1_b) (Nat.le_trans Z0 szt29) (by decide) hC29 (by simp only [List.length_append, List.length_cons, List.length_nil]; omega) (own_bapp (own_bapp (own_bapp (own_bapp (own_bapp own_bnil (own_be c0)) (own_bone hb0)) (own_be c1)) (own_bone hb1)) (own_be c2))) xb29 0 (by decide) (g := (mkF m 46 #[.val (.ref x), .val (.ref b1), .val (.int (2 : Int32)), .val (.int c2)] [(.int c2), (.ref b1)])) rfl hml.symm [(.int c2)] [] (lenOf pd_sap rfl) rfl rfl (hb hby d5_46) rfl rfl
 obtain ⟨rfl, N33q, t33, C33, Kp33, ht33, SB33, hC33⟩ := hQ33
 have N33 := Fr.app N29 N33q
 have hs33 : ∀ y ∈ [b1, t29], Safe Z own_EL T26.vm T29.heap y := fun y hy => by
  rcases List.mem_cons.mp hy with rfl | hy
  ·exact Safe.exa hZ26.alike xb29 (by decide) (by decide)
  ·cases List.mem_singleton.mp hy; exact sft29
 have K33 := K29.trans Kp33 (fun y hy => Or.inr (by
  rcases List.mem_cons.mp hy with rfl | hy
  ·exact sz1_b
  ·cases List.mem_singleton.mp hy; exact szt29))
 have CR33 := CR29.trans (CHr.keep Kp33 hs33 CH29)
 have CH33 := CHv.keep Kp33 hs33 CH29
 have sft33 : Safe Z own_EL T26.vm T33.heap t33 := by
  rcases ht33 with q | q
  ·rw [q]; exact Safe.keep Kp33 hs33 CH29 sft29
  ·exact Safe.keep Kp33 hs33 CH29 (Safe.new q)
 have szt33 : h0.size ≤ t33 := by
  rcases ht33 with q | q
  ·rw [q]; exact szt29
  ·exact Nat.le_trans K29.1 q
 have xb33 := xb29.keep Kp33
 obtain ⟨_, T34, Lc34, X34, hQ34, st34⟩ := own_cV X33 hx hZ26 (y := own_z5) (z := own_z5) ho26 (wd35 hw) (wd36 hw) (wd38 hw) rfl (wd38 hw) (wd37 hw) (wd39 hw) (wd8 hw) (by decide) (rmsl l Z a0 hw [] x [c0, c1, c2] cd T33.heap n0 (Nat.le_trans (Nat.le_trans (Nat.le_trans (Nat.le_trans (Nat.le_trans (Nat.le_trans (Nat.le_trans (Nat.le_trans (Nat.le_trans (Nat.le_trans (Nat.le_trans Z0 E1.1) Kp3.1) E6.1) Kp9.1) Kp13.1) E16.1) Kp19.1) Kp23.1) E26.1) Kp29.1) Kp33.1) (SX.ext (own_ext K33)) (EN.ext (own_ext K33)) (by simp)) (Ex.ext (own_ext K33)) 1 (by decide) (g := (mkF m 16 #[.val (.ref x), .val (.ref b1), .val (.int (3 : Int32)), .val (.int c2)] [(.ref x), (.int (3 : Int32))])) rfl hml.symm [] [(.int (3 : Int32))] (lenOf pd_sl rfl) rfl rfl (hb hby d5_16) rfl rfl
 obtain ⟨rfl, N34q, q34⟩ := hQ34
 have N34 := Fr.app N33 N34q
 obtain ⟨_, T35, Lc35, X35, hQ35, st35⟩ := own_cV X34 hx hZ26 (y := own_z9) (z := own_z9) ho26 (wd61 hw) (wd62 hw) (wd64 hw) rfl (wd64 hw) (wd63 hw) (wd65 hw) (wd34 hw) (by decide) (rmts l Z a0 hw [] b1 t33 (((((([] ++ own_e c0) ++ [c0]) ++ own_e c1) ++ [c1]) ++ own_e c2) ++ [c2]) C33 T33.heap n0 (Nat.le_trans (Nat.le_trans (Nat.le_trans (Nat.le_trans (Nat.le_trans (Nat.le_trans (Nat.le_trans (Nat.le_trans (Nat.le_trans (Nat.le_trans (Nat.le_trans Z0 E1.1) Kp3.1) E6.1) Kp9.1) Kp13.1) E16.1) Kp19.1) Kp23.1) E26.1) Kp29.1) Kp33.1) SB33 (EN.ext (own_ext K33)) (by have q := hC33; omega)) xb33 0 (by decide) (g := (mkF m 57 #[.val (.ref x), .val (.ref b1), .val (.int (3 : Int32)), .val (.int c2)] [(.ref b1)])) rfl hml.symm [] [] (lenOf pd_ts rfl) rfl rfl (hb hby d5_57) q34 rfl
 obtain ⟨y35, rfl, N35q, E35, cd35, S35⟩ := hQ35
 have N35 := Fr.app N34 N35q
 have K35 := K33.ext E35
 have CR35 := CR33.trans (CHr.ext E35 CH33)
 have CH35 := CHv.ext E35 CH33
 have pre36 : own_pr p e below PP T35 (mkF m 60 #[.val (.ref x), .val (.ref b1), .val (.int (3 : Int32)), .val (.int c2)] [(.ref y35)]) := fun τ κ => pre29 τ (by
  show own_st p e below T29 (mkF m 44 #[.val (.ref x), .val (.ref b1), .val (.int (2 : Int32)), .val (.int c2)] []) _
  refine XS.aloadN X29.here hx rfl (hb hby d5_44) rfl rfl ?_
  refine XS.iloadN X29.here hx rfl (hb hby d5_45) rfl ?_
  refine st33 _ ?_
  refine XS.pop X33.here hx rfl (hb hby d5_49) rfl rfl ?_
  refine XS.iinc X33.here hx rfl (hb hby d5_50) rfl (l' := #[.val (.ref x), .val (.ref b1), .val (.int ((2 : Int32) + (1 : Int32))), .val (.int c2)]) rfl ?_
  show own_st p e below T33 (mkF m 53 #[.val (.ref x), .val (.ref b1), .val (.int ((2 : Int32) + (1 : Int32))), .val (.int c2)] []) _
  rw [show ((2 : Int32) + (1 : Int32)) = (3 : Int32) from by decide]
  refine XS.goto X33.here hx rfl (pc0 := 53) (pc' := 14) rfl (hb hby d5_53) (by decide) (by decide) ?_
  refine XS.iloadN X33.here hx rfl (hb hby d5_14) rfl ?_
  refine XS.aloadN X33.here hx rfl (hb hby d5_15) rfl rfl ?_
  refine st34 _ ?_
  refine XS.icmpYes X34.here hx rfl (pc0 := 19) (pc' := 56) rfl (hb hby d5_19) rfl (flt (by decide : ¬ ((3 : Int32) < (3 : Int32)))).2.1 (by decide) (by decide) ?_
  refine XS.aloadN X34.here hx rfl (hb hby d5_56) rfl rfl ?_
  refine st35 _ ?_
  exact κ)
 obtain ⟨fs37, hr37, hrun37, hended37, hE37⟩ := X35.leaveW hS26 (by first | exact (Nat.le_trans (Nat.le_trans (Nat.le_trans hk26 Kp29.1) Kp33.1) E35.1) | (rw [rfl]; exact (Nat.le_trans (Nat.le_trans (Nat.le_trans hk26 Kp29.1) Kp33.1) E35.1))) (v := some (.ref y35)) (fun h => by rw [Bd.returns] at h; cases h)
 refine ⟨_, _, hPs _ (pre36 _ ?_), hrun37, hended37, _, _, rfl, ?_, ?_, hE37.1, hE37.2.1, hE37.2.2.1, hE37.2.2.2.mono (by decide) (by decide)⟩
 ·show own_st p e below T35 (mkF m 60 #[.val (.ref x), .val (.ref b1), .val (.int (3 : Int32)), .val (.int c2)] [(.ref y35)]) _
  exact retOut X35 hx (t := (.object "java/lang/String")) Bd.returns rfl (Or.inr (Or.inr (Or.inr (Or.inr ⟨rfl, rfl, rfl⟩)))) (hb hby d5_60) hr37
 ·show Qlit3 Z x cd c0 c1 c2 h0 n0 _ T35.heap _
  refine ⟨_, rfl, N35, K35, cd35, ?_⟩
  rw [show own_esc [c0, c1, c2] = (((((([] ++ own_e c0) ++ [c0]) ++ own_e c1) ++ [c1]) ++ own_e c2) ++ [c2]) from by simp [own_esc]]
  exact S35
 ·show CHr Z own_EL s.vm s.heap T35.vm T35.heap
  rw [hh]
  exact CR35.trans (CHv.at X35 hZ26 hEL CH35)

def own_n (x : Int32) : Int32 := if (x &&& (3 : Int32)) = (3 : Int32) then (((x.toUInt32 >>> ((2 : Int32) &&& 31).toUInt32).toInt32) &&& (1 : Int32)) + (2 : Int32) else (x &&& (3 : Int32))
theorem own_n4 (x : Int32) : own_n x = 0 ∨ own_n x = 1 ∨ own_n x = 2 ∨ own_n x = 3 := by
 unfold own_n
 have h1 := c_mask x 3 2 (by decide) (by decide)
 have h2 := c_mask ((x.toUInt32 >>> ((2 : Int32) &&& 31).toUInt32).toInt32) 1 1 (by decide) (by decide)
 generalize (x &&& (3 : Int32)) = y at h1 ⊢
 generalize (((x.toUInt32 >>> ((2 : Int32) &&& 31).toUInt32).toInt32) &&& (1 : Int32)) = z at h2 ⊢
 split
 ·rcases (by omega : z.toInt = 0 ∨ z.toInt = 1) with h | h
  ·have e : z = 0 := Int32.toInt_inj.mp (h.trans rfl)
   subst e; decide
  ·have e : z = 1 := Int32.toInt_inj.mp (h.trans rfl)
   subst e; decide
 ·rcases (by omega : y.toInt = 0 ∨ y.toInt = 1 ∨ y.toInt = 2 ∨ y.toInt = 3) with h | h | h | h
  ·exact Or.inl (Int32.toInt_inj.mp (h.trans rfl))
  ·exact Or.inr (Or.inl (Int32.toInt_inj.mp (h.trans rfl)))
  ·exact Or.inr (Or.inr (Or.inl (Int32.toInt_inj.mp (h.trans rfl))))
  ·exact Or.inr (Or.inr (Or.inr (Int32.toInt_inj.mp (h.trans rfl))))
theorem own_e0 {c : Int32} (h : own_sp c = 0) : own_e c = [] := by unfold own_e; rw [if_pos h]
theorem own_e1 {c : Int32} (h : ¬ own_sp c = 0) : own_e c = [92] := by unfold own_e; rw [if_neg h]
theorem own_at0 {c : Int32} (A B : List Int32) (h : own_sp c = 0) : A.length < (A ++ (own_e c ++ c :: B)).length ∧ (A ++ (own_e c ++ c :: B)).getD A.length 0 = c := by
 rw [own_e0 h]; simp [List.getD_eq_getElem?_getD]
theorem own_at1 {c : Int32} (A B : List Int32) (h : ¬ own_sp c = 0) : A.length + 1 < (A ++ (own_e c ++ c :: B)).length ∧ (A ++ (own_e c ++ c :: B)).getD A.length 0 = 92 ∧ (A ++ (own_e c ++ c :: B)).getD (A.length + 1) 0 = c := by
 rw [own_e1 h]; simp [List.getD_eq_getElem?_getD, List.getElem?_append_right]
theorem own_l1 (c : Int32) : Int32.ofNat (own_e c ++ [c]).length = own_w2 c := by
 unfold own_e own_w2; split <;> rfl
theorem own_p1 (c : Int32) : (0 : Int32) + own_w2 c = Int32.ofNat (own_e c ++ [c]).length := by
 rw [own_l1]; unfold own_w2; split <;> decide
theorem own_p2 (a c : Int32) : Int32.ofNat (own_e a ++ [a]).length + own_w2 c = Int32.ofNat ((own_e a ++ [a]) ++ (own_e c ++ [c])).length := by
 unfold own_e own_w2; split <;> split <;> rfl
theorem own_q1 (a : Int32) : Int32.ofNat (own_esc [a]).length = ((own_w2 a + (0 : Int32)) + (0 : Int32)) := by
 simp only [own_esc]; unfold own_e own_w2; split <;> rfl
theorem own_q2 (a b : Int32) : Int32.ofNat (own_esc [a, b]).length = ((own_w2 a + own_w2 b) + (0 : Int32)) := by
 simp only [own_esc]; unfold own_e own_w2; split <;> split <;> rfl
theorem own_q3 (a b c : Int32) : Int32.ofNat (own_esc [a, b, c]).length = ((own_w2 a + own_w2 b) + own_w2 c) := by
 simp only [own_esc]; unfold own_e own_w2; split <;> split <;> split <;> rfl
theorem own_elen (a b c : Int32) : (own_esc []).length < 20 ∧ (own_esc [a]).length < 20 ∧ (own_esc [a, b]).length < 20 ∧ (own_esc [a, b, c]).length < 20 := by
 have h1 := own_el a
 have h2 := own_el b
 have h3 := own_el c
 simp only [own_esc, List.length_append, List.length_cons, List.length_nil]
 omega

theorem d39_0 : own_D own_c57 0 (.iload_n 2) 1 := by decide +kernel
theorem d39_1 : own_D own_c57 1 (.invokestatic 9) 3 := by decide +kernel
theorem d39_4 : own_D own_c57 4 (.ifCond .eq 30) 3 := by decide +kernel
theorem d39_7 : own_D own_c57 7 (.aload_n 0) 1 := by decide +kernel
theorem d39_8 : own_D own_c57 8 (.iload_n 1) 1 := by decide +kernel
theorem d39_9 : own_D own_c57 9 (.invokevirtual 15) 3 := by decide +kernel
theorem d39_12 : own_D own_c57 12 (.bipush 92) 2 := by decide +kernel
theorem d39_14 : own_D own_c57 14 (.if_icmp .ne 18) 3 := by decide +kernel
theorem d39_17 : own_D own_c57 17 (.aload_n 0) 1 := by decide +kernel
theorem d39_18 : own_D own_c57 18 (.iload_n 1) 1 := by decide +kernel
theorem d39_19 : own_D own_c57 19 (.iconst 1) 1 := by decide +kernel
theorem d39_20 : own_D own_c57 20 (.iadd) 1 := by decide +kernel
theorem d39_21 : own_D own_c57 21 (.invokevirtual 15) 3 := by decide +kernel
theorem d39_24 : own_D own_c57 24 (.iload_n 2) 1 := by decide +kernel
theorem d39_25 : own_D own_c57 25 (.if_icmp .ne 7) 3 := by decide +kernel
theorem d39_28 : own_D own_c57 28 (.iconst 1) 1 := by decide +kernel
theorem d39_29 : own_D own_c57 29 (.goto 4) 3 := by decide +kernel
theorem d39_33 : own_D own_c57 33 (.ireturn) 1 := by decide +kernel
theorem d39_34 : own_D own_c57 34 (.aload_n 0) 1 := by decide +kernel
theorem d39_35 : own_D own_c57 35 (.iload_n 1) 1 := by decide +kernel
theorem d39_36 : own_D own_c57 36 (.invokevirtual 15) 3 := by decide +kernel
theorem d39_39 : own_D own_c57 39 (.iload_n 2) 1 := by decide +kernel
theorem d39_40 : own_D own_c57 40 (.if_icmp .ne 7) 3 := by decide +kernel
theorem d39_43 : own_D own_c57 43 (.iconst 1) 1 := by decide +kernel
theorem d39_44 : own_D own_c57 44 (.goto 4) 3 := by decide +kernel
theorem d39_48 : own_D own_c57 48 (.ireturn) 1 := by decide +kernel

theorem pd_at : parseMethodDescriptor "(Ljava/lang/String;IC)Z" = some ⟨[(.object "java/lang/String"), .int, .char], some .boolean⟩ := by decide +kernel

def Qat (Z : State) (x : Addr) (A B : List Int32) (cd ch : Int32) (h0 : Heap) (n0 : Nat) (v : Option Value) (h : Heap) (L : List Loc) : Prop := v = some (.int (1 : Int32)) ∧ Fr n0 L ∧ h = h0
theorem rmat (l : Launch) (Z : State) (a0 : Array Value) (hw : own_W Z a0) (ws : List Jvm.Cond) (x : Addr) (A B : List Int32) (cd ch : Int32) (h0 : Heap) (n0 : Nat) (Z0 : n0 ≤ h0.size) (SX : own_s Z h0 x (A ++ (own_e ch ++ ch :: B)) cd) (EN : own_env Z h0) (hle : (A ++ (own_e ch ++ ch :: B)).length < 20) (hbc : own_b ch) :
  own_M l Z own_z40 own_c57 3 (some .boolean) ({ frames := 5, cells := 0, slots := 0, locals := 68 } : Room) ws #[(.ref x), (.int (Int32.ofNat A.length)), (.int ch)] h0 (Qat Z x A B cd ch h0 n0) := by
 refine MetFree.of_bodySF (plainFor_of_name pn_k0) hisR ?_
 intro p e s m args below meth c s₁ Bd hml0 hP hK
 obtain ⟨rfl, hZ, hh⟩ := hP
 have hx := Bd.exec
 have hby := Bd.bytes
 have hml : c.maxLocals = 3 := hml0
 have hown : s.vm.findClass "com/example/oxpecker/oxpecker/MessageTemplateLiteralPinLaw" = some m.cls := findClass_of_methodNamed Bd.named
 have X0 : Stand p l e ({ frames := 5, cells := 0, slots := 0, locals := 68 } : Room) s m #[(.ref x), (.int (Int32.ofNat A.length)), (.int ch)] below meth c s₁ [] 0 0 := Stand.of_body Bd
 have e0 : s₁.heap = h0 := by rw [← hh, Bd.state]; rfl
 have N0 := Fr.nil n0
 obtain ⟨PP, hPs, pre0⟩ : ∃ PP : State → Prop, (∀ t, PP t → Steps p.tables e below (s₁.setTop (entryFrame m #[(.ref x), (.int (Int32.ofNat A.length)), (.int ch)] 3)) t) ∧ own_pr p e below PP s₁ (mkF m 0 #[.val (.ref x), .val (.int (Int32.ofNat A.length)), .val (.int ch)] []) := ⟨_, fun _ κ => κ, fun τ κ => castTop (ef_pc m x (Int32.ofNat A.length) ch) κ⟩
 have SX9 := SX
 obtain ⟨_, _, _, _, Ex, -⟩ := SX9
 obtain ⟨_, T1, Lc1, X1, hQ1, st1⟩ := own_cS X0 hx hZ (y := own_z39) hown (wd189 hw) (wd190 hw) (wd2 hw) (wd191 hw) (by decide) (rmsp l Z a0 hw [] ch h0 n0 Z0) 0 (by decide) (g := (mkF m 1 #[.val (.ref x), .val (.int (Int32.ofNat A.length)), .val (.int ch)] [(.int ch)])) rfl hml.symm [(.int ch)] [] (lenOf pd_sp rfl) rfl rfl (hb hby d39_1) e0 rfl
 obtain ⟨rfl, N1q, q1⟩ := hQ1
 have N1 := Fr.app N0 N1q
 have pre2 : own_pr p e below PP T1 (mkF m 4 #[.val (.ref x), .val (.int (Int32.ofNat A.length)), .val (.int ch)] [(.int (own_sp ch))]) := fun τ κ => pre0 τ (by
  show own_st p e below s₁ (mkF m 0 #[.val (.ref x), .val (.int (Int32.ofNat A.length)), .val (.int ch)] []) _
  refine XS.iloadN X0.here hx rfl (hb hby d39_0) rfl ?_
  refine st1 _ ?_
  exact κ)
 by_cases hc4 : (own_sp ch) = (0 : Int32)
 ·obtain ⟨_, T3, Lc3, X3, hQ3, st3⟩ := own_cV X1 hx hZ (y := own_z22) (z := own_z22) hown (wd195 hw) (wd119 hw) (wd121 hw) rfl (wd121 hw) (wd120 hw) (wd122 hw) (wd8 hw) (by decide) (rmch l Z a0 hw [] x (A ++ (own_e ch ++ ch :: B)) cd ch A.length h0 n0 Z0 SX EN hle (own_at0 A B hc4).1 (own_at0 A B hc4).2 hbc) Ex 0 (by decide) (g := (mkF m 36 #[.val (.ref x), .val (.int (Int32.ofNat A.length)), .val (.int ch)] [(.int (Int32.ofNat A.length)), (.ref x)])) rfl hml.symm [(.int (Int32.ofNat A.length))] [] (lenOf pd_pk rfl) rfl rfl (hb hby d39_36) q1 rfl
  obtain ⟨rfl, N3q, q3⟩ := hQ3
  have N3 := Fr.app N1 N3q
  have pre4 : own_pr p e below PP T3 (mkF m 48 #[.val (.ref x), .val (.int (Int32.ofNat A.length)), .val (.int ch)] [(.int (1 : Int32))]) := fun τ κ => pre2 τ (by
   show own_st p e below T1 (mkF m 4 #[.val (.ref x), .val (.int (Int32.ofNat A.length)), .val (.int ch)] [(.int (own_sp ch))]) _
   refine XS.ifYes X1.here hx rfl (pc0 := 4) (pc' := 34) rfl (hb hby d39_4) rfl ((if0 _ _).trans (teq hc4).1) (by decide) (by decide) ?_
   refine XS.aloadN X1.here hx rfl (hb hby d39_34) rfl rfl ?_
   refine XS.iloadN X1.here hx rfl (hb hby d39_35) rfl ?_
   refine st3 _ ?_
   refine XS.iloadN X3.here hx rfl (hb hby d39_39) rfl ?_
   refine XS.icmpNo X3.here hx rfl (hb hby d39_40) rfl (teq (rfl : ch = ch)).2 ?_
   refine XS.iconst X3.here hx rfl (hb hby d39_43) ?_
   refine XS.goto X3.here hx rfl (pc0 := 44) (pc' := 48) rfl (hb hby d39_44) (by decide) (by decide) ?_
   exact κ)
  obtain ⟨fs5, hr5, hrun5, hended5, hW5, hsame5⟩ := X3.leave (v := some (.int (1 : Int32))) (fun h => by rw [Bd.returns] at h; cases h)
  refine ⟨_, _, hPs _ (pre4 _ ?_), hrun5, hended5, _, _, rfl, ?_, ⟨_, rfl⟩, hW5, hsame5.mono (by decide) (by decide)⟩
  ·show own_st p e below T3 (mkF m 48 #[.val (.ref x), .val (.int (Int32.ofNat A.length)), .val (.int ch)] [(.int (1 : Int32))]) _
   exact retN X3 hx (t := .boolean) Bd.returns (by simp) (hb hby d39_48) hr5
  ·show Qat Z x A B cd ch h0 n0 _ T3.heap _
   rw [q3]
   exact ⟨rfl, N3, rfl⟩
 obtain ⟨_, T6, Lc6, X6, hQ6, st6⟩ := own_cV X1 hx hZ (y := own_z22) (z := own_z22) hown (wd195 hw) (wd119 hw) (wd121 hw) rfl (wd121 hw) (wd120 hw) (wd122 hw) (wd8 hw) (by decide) (rmch l Z a0 hw [] x (A ++ (own_e ch ++ ch :: B)) cd (92 : Int32) A.length h0 n0 Z0 SX EN hle (by have q := (own_at1 A B hc4).1; omega) (own_at1 A B hc4).2.1 (by unfold own_b; decide)) Ex 0 (by decide) (g := (mkF m 9 #[.val (.ref x), .val (.int (Int32.ofNat A.length)), .val (.int ch)] [(.int (Int32.ofNat A.length)), (.ref x)])) rfl hml.symm [(.int (Int32.ofNat A.length))] [] (lenOf pd_pk rfl) rfl rfl (hb hby d39_9) q1 rfl
 obtain ⟨rfl, N6q, q6⟩ := hQ6
 have N6 := Fr.app N1 N6q
 obtain ⟨_, T7, Lc7, X7, hQ7, st7⟩ := own_cV X6 hx hZ (y := own_z22) (z := own_z22) hown (wd195 hw) (wd119 hw) (wd121 hw) rfl (wd121 hw) (wd120 hw) (wd122 hw) (wd8 hw) (by decide) (rmch l Z a0 hw [] x (A ++ (own_e ch ++ ch :: B)) cd ch (A.length + 1) h0 n0 Z0 SX EN hle (own_at1 A B hc4).1 (own_at1 A B hc4).2.2 hbc) Ex 0 (by decide) (g := (mkF m 21 #[.val (.ref x), .val (.int (Int32.ofNat A.length)), .val (.int ch)] [(.int (Int32.ofNat (A.length + 1))), (.ref x)])) rfl hml.symm [(.int (Int32.ofNat (A.length + 1)))] [] (lenOf pd_pk rfl) rfl rfl (hb hby d39_21) q6 rfl
 obtain ⟨rfl, N7q, q7⟩ := hQ7
 have N7 := Fr.app N6 N7q
 have pre8 : own_pr p e below PP T7 (mkF m 33 #[.val (.ref x), .val (.int (Int32.ofNat A.length)), .val (.int ch)] [(.int (1 : Int32))]) := fun τ κ => pre2 τ (by
  show own_st p e below T1 (mkF m 4 #[.val (.ref x), .val (.int (Int32.ofNat A.length)), .val (.int ch)] [(.int (own_sp ch))]) _
  refine XS.ifNo X1.here hx rfl (hb hby d39_4) rfl ((if0 _ _).trans (feq hc4).1) ?_
  refine XS.aloadN X1.here hx rfl (hb hby d39_7) rfl rfl ?_
  refine XS.iloadN X1.here hx rfl (hb hby d39_8) rfl ?_
  refine st6 _ ?_
  refine XS.bipush X6.here hx rfl (hb hby d39_12) ?_
  refine XS.icmpNo X6.here hx rfl (hb hby d39_14) rfl (teq (by decide : (92 : Int32) = (92 : Int32))).2 ?_
  refine XS.aloadN X6.here hx rfl (hb hby d39_17) rfl rfl ?_
  refine XS.iloadN X6.here hx rfl (hb hby d39_18) rfl ?_
  refine XS.iconst X6.here hx rfl (hb hby d39_19) ?_
  refine XS.iadd X6.here hx rfl (hb hby d39_20) rfl ?_
  show own_st p e below T6 (mkF m 21 #[.val (.ref x), .val (.int (Int32.ofNat A.length)), .val (.int ch)] [(.int ((Int32.ofNat A.length) + (1 : Int32))), (.ref x)]) _
  rw [own_s1 _ (by have q := (own_at1 A B hc4).1; omega)]
  refine st7 _ ?_
  refine XS.iloadN X7.here hx rfl (hb hby d39_24) rfl ?_
  refine XS.icmpNo X7.here hx rfl (hb hby d39_25) rfl (teq (rfl : ch = ch)).2 ?_
  refine XS.iconst X7.here hx rfl (hb hby d39_28) ?_
  refine XS.goto X7.here hx rfl (pc0 := 29) (pc' := 33) rfl (hb hby d39_29) (by decide) (by decide) ?_
  exact κ)
 obtain ⟨fs9, hr9, hrun9, hended9, hW9, hsame9⟩ := X7.leave (v := some (.int (1 : Int32))) (fun h => by rw [Bd.returns] at h; cases h)
 refine ⟨_, _, hPs _ (pre8 _ ?_), hrun9, hended9, _, _, rfl, ?_, ⟨_, rfl⟩, hW9, hsame9.mono (by decide) (by decide)⟩
 ·show own_st p e below T7 (mkF m 33 #[.val (.ref x), .val (.int (Int32.ofNat A.length)), .val (.int ch)] [(.int (1 : Int32))]) _
  exact retN X7 hx (t := .boolean) Bd.returns (by simp) (hb hby d39_33) hr9
 ·show Qat Z x A B cd ch h0 n0 _ T7.heap _
  rw [q7]
  exact ⟨rfl, N7, rfl⟩

theorem pd_0 : parseMethodDescriptor "(IIII)Z" = some ⟨[.int, .int, .int, .int], some .boolean⟩ := by decide +kernel

theorem ef_0 (m : MethodId) (x0 : Int32) (x1 : Int32) (x2 : Int32) (x3 : Int32)  : entryFrame m #[(.int x0), (.int x1), (.int x2), (.int x3)] maxLocals = mkF m 0 #[.val (.int x0), .val (.int x1), .val (.int x2), .val (.int x3), .unset, .unset, .unset, .unset, .unset, .unset, .unset, .unset, .unset] [] := by first | (simp [entryFrame, mkF, argsToLocals, Value.category, maxLocals]; done) | rfl
def Q0 (Z : State) (p1 p2 p3 p4 : Int32) (h0 : Heap) (n0 : Nat) (v : Option Value) (h : Heap) (L : List Loc) : Prop := v = some (.int (1 : Int32)) ∧ Fr n0 L
theorem rm0 (l : Launch) (Z : State) (a0 : Array Value) (hw : own_W Z a0) (ws : List Jvm.Cond) (p1 p2 p3 p4 : Int32) (h0 : Heap) (n0 : Nat) (Z0 : n0 ≤ h0.size) (EN : own_env Z h0) :
  MetFree l x (head1 (Jvm.Cond.code x code maxLocals ret :: ws) room_1) (fun a U => a = #[(.int p1), (.int p2), (.int p3), (.int p4)] ∧ Z.Warmed39 U.vm ∧ U.heap = h0 ∧ CHv Z own_EL U.vm h0) (fun _ _ _ _ _ => True) (fun _ U o U' => ∃ v L, o = .returned v ∧ Q0 Z p1 p2 p3 p4 h0 n0 v U'.heap L ∧ CHr Z own_EL U.vm U.heap U'.vm U'.heap ∧ ReturnedEndW U o U' L room_1.cells room_1.slots) := by
 refine MetFree.of_bodySF (plainFor_of_name pn_k0) hisR ?_
 intro p e s m args below meth c s₁ Bd hml0 hP hK
 obtain ⟨rfl, hZ, hh, hCH⟩ := hP
 have hx := Bd.exec
 have hby := Bd.bytes
 have hml : c.maxLocals = 13 := hml0
 have hown : s.vm.findClass "com/example/oxpecker/oxpecker/MessageTemplateLiteralPinLaw" = some m.cls := findClass_of_methodNamed Bd.named
 have X0 : Stand p l e room_1 (s.setVm s.vm) m #[(.int p1), (.int p2), (.int p3), (.int p4)] below meth c s₁ [] 0 0 := Stand.of_body Bd
 have e0 : s₁.heap = h0 := by rw [← hh, Bd.state]; rfl
 have N0 := Fr.nil n0
 have hZ0 : Z.Warmed39 (s.setVm s.vm).vm := hZ
 have ho0 : (s.setVm s.vm).vm.findClass "com/example/oxpecker/oxpecker/MessageTemplateLiteralPinLaw" = some m.cls := hown
 have hS0 : s.Since s.vm h0.size := (State.WarmedH.refl s).since _
 have hEL : EW Z a0 own_EL := own_EW hw
 have wS : ∀ a ∈ Bundle.stringAtoms, a.before a0 Z = true := fun d hd => hw d ((by decide +kernel : ∀ d ∈ Bundle.stringAtoms, d ∈ tables_1) d hd)
 obtain ⟨PP, hPs, pre0⟩ : ∃ PP : State → Prop, (∀ t, PP t → Steps p.tables e below (s₁.setTop (entryFrame m #[(.int p1), (.int p2), (.int p3), (.int p4)] maxLocals)) t) ∧ own_pr p e below PP s₁ (mkF m 0 #[.val (.int p1), .val (.int p2), .val (.int p3), .val (.int p4), .unset, .unset, .unset, .unset, .unset, .unset, .unset, .unset, .unset] []) := ⟨_, fun _ κ => κ, fun τ κ => castTop (ef_0 m p1 p2 p3 p4) κ⟩
 have pre1 : own_pr p e below PP s₁ (mkF m 5 #[.val (.int p1), .val (.int p2), .val (.int p3), .val (.int p4), .val (.int (p1 &&& (3 : Int32))), .unset, .unset, .unset, .unset, .unset, .unset, .unset, .unset] []) := fun τ κ => pre0 τ (by
  show own_st p e below s₁ (mkF m 0 #[.val (.int p1), .val (.int p2), .val (.int p3), .val (.int p4), .unset, .unset, .unset, .unset, .unset, .unset, .unset, .unset, .unset] []) _
  refine XS.iloadN X0.here hx rfl (hb hby at_0) rfl ?_
  refine XS.iconst X0.here hx rfl (hb hby at_1) ?_
  refine XS.iand X0.here hx rfl (hb hby at_2) rfl ?_
  refine XS.istore X0.here hx rfl (hb hby at_3) rfl (l' := #[.val (.int p1), .val (.int p2), .val (.int p3), .val (.int p4), .val (.int (p1 &&& (3 : Int32))), .unset, .unset, .unset, .unset, .unset, .unset, .unset, .unset]) rfl ?_
  exact κ)
 have pre2 : own_pr p e below PP s₁ (mkF m 24 #[.val (.int p1), .val (.int p2), .val (.int p3), .val (.int p4), .val (.int (own_n p1)), .unset, .unset, .unset, .unset, .unset, .unset, .unset, .unset] []) := by
  have pre3 : own_pr p e below PP s₁ (mkF m 8 #[.val (.int p1), .val (.int p2), .val (.int p3), .val (.int p4), .val (.int (p1 &&& (3 : Int32))), .unset, .unset, .unset, .unset, .unset, .unset, .unset, .unset] [(.int (3 : Int32)), (.int (p1 &&& (3 : Int32)))]) := fun τ κ => pre1 τ (by
   show own_st p e below s₁ (mkF m 5 #[.val (.int p1), .val (.int p2), .val (.int p3), .val (.int p4), .val (.int (p1 &&& (3 : Int32))), .unset, .unset, .unset, .unset, .unset, .unset, .unset, .unset] []) _
   refine XS.iload X0.here hx rfl (hb hby at_5) rfl ?_
   refine XS.iconst X0.here hx rfl (hb hby at_7) ?_
   exact κ)
  by_cases hc8 : (p1 &&& (3 : Int32)) = (3 : Int32)
  ·have pre4 : own_pr p e below PP s₁ (mkF m 24 #[.val (.int p1), .val (.int p2), .val (.int p3), .val (.int p4), .val (.int ((((p1.toUInt32 >>> ((2 : Int32) &&& 31).toUInt32).toInt32) &&& (1 : Int32)) + (2 : Int32))), .unset, .unset, .unset, .unset, .unset, .unset, .unset, .unset] []) := fun τ κ => pre3 τ (by
    show own_st p e below s₁ (mkF m 8 #[.val (.int p1), .val (.int p2), .val (.int p3), .val (.int p4), .val (.int (p1 &&& (3 : Int32))), .unset, .unset, .unset, .unset, .unset, .unset, .unset, .unset] [(.int (3 : Int32)), (.int (p1 &&& (3 : Int32)))]) _
    refine XS.icmpNo X0.here hx rfl (hb hby at_8) rfl (teq hc8).2 ?_
    refine XS.iloadN X0.here hx rfl (hb hby at_11) rfl ?_
    refine XS.iconst X0.here hx rfl (hb hby at_12) ?_
    refine XS.iushr X0.here hx rfl (hb hby at_13) rfl ?_
    refine XS.iconst X0.here hx rfl (hb hby at_14) ?_
    refine XS.iand X0.here hx rfl (hb hby at_15) rfl ?_
    refine XS.istore X0.here hx rfl (hb hby at_16) rfl (l' := #[.val (.int p1), .val (.int p2), .val (.int p3), .val (.int p4), .val (.int (((p1.toUInt32 >>> ((2 : Int32) &&& 31).toUInt32).toInt32) &&& (1 : Int32))), .unset, .unset, .unset, .unset, .unset, .unset, .unset, .unset]) rfl ?_
    refine XS.iload X0.here hx rfl (hb hby at_18) rfl ?_
    refine XS.iconst X0.here hx rfl (hb hby at_20) ?_
    refine XS.iadd X0.here hx rfl (hb hby at_21) rfl ?_
    refine XS.istore X0.here hx rfl (hb hby at_22) rfl (l' := #[.val (.int p1), .val (.int p2), .val (.int p3), .val (.int p4), .val (.int ((((p1.toUInt32 >>> ((2 : Int32) &&& 31).toUInt32).toInt32) &&& (1 : Int32)) + (2 : Int32))), .unset, .unset, .unset, .unset, .unset, .unset, .unset, .unset]) rfl ?_
    exact κ)
   rw [show own_n p1 = ((((p1.toUInt32 >>> ((2 : Int32) &&& 31).toUInt32).toInt32) &&& (1 : Int32)) + (2 : Int32)) from by unfold own_n; rw [if_pos hc8]]
   exact pre4
  have pre5 : own_pr p e below PP s₁ (mkF m 24 #[.val (.int p1), .val (.int p2), .val (.int p3), .val (.int p4), .val (.int (p1 &&& (3 : Int32))), .unset, .unset, .unset, .unset, .unset, .unset, .unset, .unset] []) := fun τ κ => pre3 τ (by
   show own_st p e below s₁ (mkF m 8 #[.val (.int p1), .val (.int p2), .val (.int p3), .val (.int p4), .val (.int (p1 &&& (3 : Int32))), .unset, .unset, .unset, .unset, .unset, .unset, .unset, .unset] [(.int (3 : Int32)), (.int (p1 &&& (3 : Int32)))]) _
   refine XS.icmpYes X0.here hx rfl (pc0 := 8) (pc' := 24) rfl (hb hby at_8) rfl (feq hc8).2 (by decide) (by decide) ?_
   exact κ)
  rw [show own_n p1 = (p1 &&& (3 : Int32)) from by unfold own_n; rw [if_neg hc8]]
  exact pre5
 obtain ⟨_, T6, Lc6, X6, hQ6, st6⟩ := own_cS X0 hx hZ0 (y := own_z0) ho0 (wd0 hw) (wd1 hw) (wd2 hw) (wd3 hw) (by decide) (rmpk l Z a0 hw [] p2 h0 n0 Z0) 0 (by decide) (g := (mkF m 25 #[.val (.int p1), .val (.int p2), .val (.int p3), .val (.int p4), .val (.int (own_n p1)), .unset, .unset, .unset, .unset, .unset, .unset, .unset, .unset] [(.int p2)])) rfl hml.symm [(.int p2)] [] (lenOf pd_pk rfl) rfl rfl (hb hby at_25) e0 rfl
 obtain ⟨rfl, N6q, q6⟩ := hQ6
 have N6 := Fr.app N0 N6q
 obtain ⟨_, T7, Lc7, X7, hQ7, st7⟩ := own_cS X6 hx hZ0 (y := own_z0) ho0 (wd0 hw) (wd1 hw) (wd2 hw) (wd3 hw) (by decide) (rmpk l Z a0 hw [] p3 h0 n0 Z0) 0 (by decide) (g := (mkF m 31 #[.val (.int p1), .val (.int p2), .val (.int p3), .val (.int p4), .val (.int (own_n p1)), .val (.int (own_pk p2)), .unset, .unset, .unset, .unset, .unset, .unset, .unset] [(.int p3)])) rfl hml.symm [(.int p3)] [] (lenOf pd_pk rfl) rfl rfl (hb hby at_31) q6 rfl
 obtain ⟨rfl, N7q, q7⟩ := hQ7
 have N7 := Fr.app N6 N7q
 obtain ⟨_, T8, Lc8, X8, hQ8, st8⟩ := own_cS X7 hx hZ0 (y := own_z0) ho0 (wd0 hw) (wd1 hw) (wd2 hw) (wd3 hw) (by decide) (rmpk l Z a0 hw [] p4 h0 n0 Z0) 0 (by decide) (g := (mkF m 37 #[.val (.int p1), .val (.int p2), .val (.int p3), .val (.int p4), .val (.int (own_n p1)), .val (.int (own_pk p2)), .val (.int (own_pk p3)), .unset, .unset, .unset, .unset, .unset, .unset] [(.int p4)])) rfl hml.symm [(.int p4)] [] (lenOf pd_pk rfl) rfl rfl (hb hby at_37) q7 rfl
 obtain ⟨rfl, N8q, q8⟩ := hQ8
 have N8 := Fr.app N7 N8q
 have pre9 : own_pr p e below PP T8 (mkF m 42 #[.val (.int p1), .val (.int p2), .val (.int p3), .val (.int p4), .val (.int (own_n p1)), .val (.int (own_pk p2)), .val (.int (own_pk p3)), .val (.int (own_pk p4)), .unset, .unset, .unset, .unset, .unset] []) := fun τ κ => pre2 τ (by
  show own_st p e below s₁ (mkF m 24 #[.val (.int p1), .val (.int p2), .val (.int p3), .val (.int p4), .val (.int (own_n p1)), .unset, .unset, .unset, .unset, .unset, .unset, .unset, .unset] []) _
  refine XS.iloadN X0.here hx rfl (hb hby at_24) rfl ?_
  refine st6 _ ?_
  refine XS.istore X6.here hx rfl (hb hby at_28) rfl (l' := #[.val (.int p1), .val (.int p2), .val (.int p3), .val (.int p4), .val (.int (own_n p1)), .val (.int (own_pk p2)), .unset, .unset, .unset, .unset, .unset, .unset, .unset]) rfl ?_
  refine XS.iloadN X6.here hx rfl (hb hby at_30) rfl ?_
  refine st7 _ ?_
  refine XS.istore X7.here hx rfl (hb hby at_34) rfl (l' := #[.val (.int p1), .val (.int p2), .val (.int p3), .val (.int p4), .val (.int (own_n p1)), .val (.int (own_pk p2)), .val (.int (own_pk p3)), .unset, .unset, .unset, .unset, .unset, .unset]) rfl ?_
  refine XS.iloadN X7.here hx rfl (hb hby at_36) rfl ?_
  refine st8 _ ?_
  refine XS.istore X8.here hx rfl (hb hby at_40) rfl (l' := #[.val (.int p1), .val (.int p2), .val (.int p3), .val (.int p4), .val (.int (own_n p1)), .val (.int (own_pk p2)), .val (.int (own_pk p3)), .val (.int (own_pk p4)), .unset, .unset, .unset, .unset, .unset]) rfl ?_
  exact κ)
 rcases own_n4 p1 with hn | hn | hn | hn
 ·obtain ⟨T10, h10, X10, e10, E10, A10, D10, -, st10⟩ := newO X8 hx hZ0 ho0 (wd6 hw) (wd7 hw) (wd8 hw) q8 (g := (mkF m 47 #[.val (.int p1), .val (.int p2), .val (.int p3), .val (.int p4), .val (.int (own_n p1)), .val (.int (own_pk p2)), .val (.int (own_pk p3)), .val (.int (own_pk p4)), .unset, .unset, .unset, .unset, .unset] [])) rfl (hb hby at_47) (by decide) (by decide)
  obtain ⟨b10, gb10⟩ : ∃ z, z = h0.size := ⟨_, rfl⟩
  rw [← gb10] at A10 D10 st10
  have gn10 : n0 ≤ b10 := Nat.le_trans Z0 (Nat.le_of_eq gb10.symm)
  have sz10_b : h0.size ≤ b10 := Nat.le_trans (Keep.refl h0 []).1 (Nat.le_of_eq gb10.symm)
  have EN_10 := EN.ext E10
  have K10 := (Keep.refl h0 []).ext E10
  have F_value_b10 : Fld Z h10 b10 "java/lang/String" "value" "[B" .null := D10 (Or.inr (wd22 hw)) (ty := (.array .byte)) (by decide)
  have F_coder_b10 : Fld Z h10 b10 "java/lang/String" "coder" "B" (.int (0 : Int32)) := D10 (Or.inr (wd23 hw)) (ty := .byte) (by decide)
  obtain ⟨T11, h11, k11, X11, e11, E11, A11, st11⟩ := newP (aty := .char) X10 hx hZ0 (wd9 hw) e10 (g := (mkF m 52 #[.val (.int p1), .val (.int p2), .val (.int p3), .val (.int p4), .val (.int (own_n p1)), .val (.int (own_pk p2)), .val (.int (own_pk p3)), .val (.int (own_pk p4)), .unset, .unset, .unset, .unset, .unset] [(.int (0 : Int32)), (.ref b10), (.ref b10)])) rfl (hb hby at_52) rfl (by decide) (cap := 0) (by decide) (by decide) (by decide) (by decide)
  obtain ⟨b11, gb11⟩ : ∃ z, z = h10.size := ⟨_, rfl⟩
  rw [← gb11] at A11 st11
  have gn11 : n0 ≤ b11 := Nat.le_trans (Nat.le_trans Z0 E10.1) (Nat.le_of_eq gb11.symm)
  have sz11_b : h0.size ≤ b11 := Nat.le_trans K10.1 (Nat.le_of_eq gb11.symm)
  have ne_b10_b11 : b10 ≠ b11 := Nat.ne_of_lt (Nat.lt_of_lt_of_le A10.lt (Nat.le_of_eq gb11.symm))
  have EN_11 := EN_10.ext E11
  have A10_11 := A10.ext E11
  have F_value_b10_11 := F_value_b10.ext E11
  have F_coder_b10_11 := F_coder_b10.ext E11
  have K11 := K10.ext E11
  have V11 : Arv Z h11 b11 k11 .char (0 : Int32) [] (.int (0 : Int32)) := (Arv.new A11 (by decide)).pad (pad_rep [] (.int (0 : Int32)) 0)
  obtain ⟨_, _, ⟨T12, L12, k12, n12⟩, -, Y12, hSq12, hgq12, ⟨Lc12, hQ12, l12, y12, z12, CQ12⟩, st12⟩ := X11.specialBackS hx (y := own_z1) rfl ho0 (mvT hZ0 (wd10 hw)) (mvT hZ0 (wd11 hw)) (mvT hZ0 (wd12 hw)) (by decide) (backOfSH (W := 1) (rmi1 l Z a0 hw [] b10 b11 k11 h11 n0 (Nat.le_trans (Nat.le_trans Z0 E10.1) E11.1) F_value_b10_11 F_coder_b10_11 A10_11 gn10 V11) hZ0 (wd12 hw) (wd8 hw) (by decide) (by decide) hEL (CHv.ext (own_ext K11) hCH)) (g := (mkF m 54 #[.val (.int p1), .val (.int p2), .val (.int p3), .val (.int p4), .val (.int (own_n p1)), .val (.int (own_pk p2)), .val (.int (own_pk p3)), .val (.int (own_pk p4)), .unset, .unset, .unset, .unset, .unset] [(.ref b11), (.ref b10), (.ref b10)])) rfl hml.symm (Steps.refl _) (a := b10) (argsL := [(.ref b11)]) (rest := [(.ref b10)]) (lenOf pd_w11 rfl) rfl (by show 2 * 0 + _ ≤ _; exact Nat.le_of_eq rfl) (hb hby at_54) (fun _ _ => ⟨rfl, e11, (by decide : 2 + 4 ≤ _), (by decide : 4 + 8 ≤ _)⟩)
  dsimp only [Pt.U, Pt.locs, Pt.cells, Pt.slots] at Y12 hSq12 hgq12 l12 y12 z12 st12 hQ12 CQ12
  subst l12 y12 z12
  obtain ⟨X12, hS12, hZ12, ho12⟩ := rebS hS0 (by first | exact K11.1 | (rw [e11]; exact K11.1)) Y12 hSq12 hgq12 hZ0 ho0
  obtain ⟨rfl, N12q, Kp12, cd12, S12⟩ := hQ12
  have N12 := Fr.app N8 N12q
  have CR12 := (CHr.ext (own_ext K11) hCH).trans CQ12
  have CH12 := CQ12.1
  have EN_12 := EN_11.keep Kp12 A10_11.nostat
  have K12 := K11.trans Kp12 (fun x hx => by cases List.mem_singleton.mp hx; exact Or.inr sz10_b)
  obtain ⟨_, _, ⟨T13, L13, k13, n13⟩, -, Y13, hSq13, hgq13, ⟨Lc13, hQ13, l13, y13, z13, CQ13⟩, st13⟩ := callSS X12 hx (y := own_z4) ho12 (mvT hZ12 (wd28 hw)) (mvT hZ12 (wd29 hw)) (mvT hZ12 (wd30 hw)) (mvT hZ12 (wd31 hw)) (by decide) (backOfSH (W := 0) (rmlit0 l Z a0 hw [] b10 cd12  T12.heap n0 (Nat.le_trans (Nat.le_trans (Nat.le_trans Z0 E10.1) E11.1) Kp12.1) S12 EN_12 ) hZ12 (wd31 hw) (wd30 hw) (by decide) (by decide) hEL CH12) (g := (mkF m 166 #[.val (.int p1), .val (.int p2), .val (.int p3), .val (.int p4), .val (.int (own_n p1)), .val (.int (own_pk p2)), .val (.int (own_pk p3)), .val (.int (own_pk p4)), .val (.ref b10), .unset, .unset, .unset, .unset] [(.ref b10)])) rfl hml.symm (argsL := [(.ref b10)]) (rest := []) (lenOf pd_lit0 rfl) rfl (by show 2 * 0 + _ ≤ _; exact Nat.le_of_eq rfl) (hb hby at_166) (fun _ _ => ⟨rfl, rfl, (by decide : 6 + 4 ≤ _), (by decide : 12 + 27 ≤ _)⟩)
  dsimp only [Pt.U, Pt.locs, Pt.cells, Pt.slots] at Y13 hSq13 hgq13 l13 y13 z13 st13 hQ13 CQ13
  subst l13 y13 z13
  obtain ⟨X13, hS13, hZ13, ho13⟩ := rebS hS12 (by first | exact (Nat.le_refl _) | (rw [rfl]; exact (Nat.le_refl _))) Y13 hSq13 hgq13 hZ12 ho12
  obtain ⟨y13, rfl, N13q, Kp13, cd13, S13⟩ := hQ13
  have N13 := Fr.app N12 N13q
  have CR13 := CR12.trans CQ13
  have CH13 := CQ13.1
  have EN13 := EN_12.ext (own_ext Kp13)
  have Sy := S13
  obtain ⟨_, _, _, _, Ey, -⟩ := Sy
  have hes := own_elen (own_pk p2) (own_pk p3) (own_pk p4)
  obtain ⟨_, T14, Lc14, X14, hQ14, st14⟩ := own_cV X13 hx hZ13 (y := own_z5) (z := own_z5) ho13 (wd107 hw) (wd36 hw) (wd38 hw) rfl (wd38 hw) (wd37 hw) (wd39 hw) (wd8 hw) (by decide) (rmsl l Z a0 hw [] y13 (own_esc []) cd13 T13.heap n0 (Nat.le_trans (Nat.le_trans (Nat.le_trans (Nat.le_trans Z0 E10.1) E11.1) Kp12.1) Kp13.1) S13 EN13 hes.1) Ey 0 (by decide) (g := (mkF m 221 #[.val (.int p1), .val (.int p2), .val (.int p3), .val (.int p4), .val (.int (own_n p1)), .val (.int (own_pk p2)), .val (.int (own_pk p3)), .val (.int (own_pk p4)), .val (.ref b10), .val (.ref y13), .val (.int (0 : Int32)), .unset, .unset] [(.ref y13)])) rfl hml.symm [] [] (lenOf pd_sl rfl) rfl rfl (hb hby at_221) rfl rfl
  obtain ⟨rfl, N14q, q14⟩ := hQ14
  have N14 := Fr.app N13 N14q
  have pre15 : own_pr p e below PP T14 (mkF m 348 #[.val (.int p1), .val (.int p2), .val (.int p3), .val (.int p4), .val (.int (own_n p1)), .val (.int (own_pk p2)), .val (.int (own_pk p3)), .val (.int (own_pk p4)), .val (.ref b10), .val (.ref y13), .val (.int (0 : Int32)), .val (.int (1 : Int32)), .val (.int (0 : Int32))] [(.int (1 : Int32))]) := fun τ κ => pre9 τ (by
   show own_st p e below T8 (mkF m 42 #[.val (.int p1), .val (.int p2), .val (.int p3), .val (.int p4), .val (.int (own_n p1)), .val (.int (own_pk p2)), .val (.int (own_pk p3)), .val (.int (own_pk p4)), .unset, .unset, .unset, .unset, .unset] []) _
   refine XS.iload X8.here hx rfl (hb hby at_42) rfl ?_
   refine XS.ifNo X8.here hx rfl (hb hby at_44) rfl ((if0 _ _).trans (teq hn).2) ?_
   refine st10 _ ?_
   refine XS.dup X10.here hx rfl (hb hby at_50) rfl rfl ?_
   refine XS.iconst X10.here hx rfl (hb hby at_51) ?_
   refine st11 _ ?_
   refine st12.trans ?_
   refine XS.astore X12.here hx rfl (hb hby at_57) rfl rfl (l' := #[.val (.int p1), .val (.int p2), .val (.int p3), .val (.int p4), .val (.int (own_n p1)), .val (.int (own_pk p2)), .val (.int (own_pk p3)), .val (.int (own_pk p4)), .val (.ref b10), .unset, .unset, .unset, .unset]) rfl ?_
   refine XS.goto X12.here hx rfl (pc0 := 59) (pc' := 164) rfl (hb hby at_59) (by decide) (by decide) ?_
   refine XS.aload X12.here hx rfl (hb hby at_164) rfl rfl ?_
   refine st13.trans ?_
   refine XS.astore X13.here hx rfl (hb hby at_169) rfl rfl (l' := #[.val (.int p1), .val (.int p2), .val (.int p3), .val (.int p4), .val (.int (own_n p1)), .val (.int (own_pk p2)), .val (.int (own_pk p3)), .val (.int (own_pk p4)), .val (.ref b10), .val (.ref y13), .unset, .unset, .unset]) rfl ?_
   refine XS.iload X13.here hx rfl (hb hby at_171) rfl ?_
   refine XS.ifYes X13.here hx rfl (pc0 := 173) (pc' := 184) rfl (hb hby at_173) rfl ((if0 _ _).trans (flt (by rw [hn]; decide)).2.2.2) (by decide) (by decide) ?_
   refine XS.iconst X13.here hx rfl (hb hby at_184) ?_
   refine XS.iload X13.here hx rfl (hb hby at_185) rfl ?_
   refine XS.iconst X13.here hx rfl (hb hby at_187) ?_
   refine XS.icmpYes X13.here hx rfl (pc0 := 188) (pc' := 199) rfl (hb hby at_188) rfl (flt (by rw [hn]; decide)).2.2.2 (by decide) (by decide) ?_
   refine XS.iconst X13.here hx rfl (hb hby at_199) ?_
   refine XS.iadd X13.here hx rfl (hb hby at_200) rfl ?_
   show own_st p e below T13 (mkF m 201 #[.val (.int p1), .val (.int p2), .val (.int p3), .val (.int p4), .val (.int (own_n p1)), .val (.int (own_pk p2)), .val (.int (own_pk p3)), .val (.int (own_pk p4)), .val (.ref b10), .val (.ref y13), .unset, .unset, .unset] [(.int ((0 : Int32) + (0 : Int32)))]) _
   rw [show ((0 : Int32) + (0 : Int32)) = (0 : Int32) from by decide]
   refine XS.iload X13.here hx rfl (hb hby at_201) rfl ?_
   refine XS.iconst X13.here hx rfl (hb hby at_203) ?_
   refine XS.icmpYes X13.here hx rfl (pc0 := 204) (pc' := 215) rfl (hb hby at_204) rfl (flt (by rw [hn]; decide)).2.2.2 (by decide) (by decide) ?_
   refine XS.iconst X13.here hx rfl (hb hby at_215) ?_
   refine XS.iadd X13.here hx rfl (hb hby at_216) rfl ?_
   show own_st p e below T13 (mkF m 217 #[.val (.int p1), .val (.int p2), .val (.int p3), .val (.int p4), .val (.int (own_n p1)), .val (.int (own_pk p2)), .val (.int (own_pk p3)), .val (.int (own_pk p4)), .val (.ref b10), .val (.ref y13), .unset, .unset, .unset] [(.int ((0 : Int32) + (0 : Int32)))]) _
   rw [show ((0 : Int32) + (0 : Int32)) = (0 : Int32) from by decide]
   refine XS.istore X13.here hx rfl (hb hby at_217) rfl (l' := #[.val (.int p1), .val (.int p2), .val (.int p3), .val (.int p4), .val (.int (own_n p1)), .val (.int (own_pk p2)), .val (.int (own_pk p3)), .val (.int (own_pk p4)), .val (.ref b10), .val (.ref y13), .val (.int (0 : Int32)), .unset, .unset]) rfl ?_
   refine XS.aload X13.here hx rfl (hb hby at_219) rfl rfl ?_
   refine st14 _ ?_
   refine XS.iload X14.here hx rfl (hb hby at_224) rfl ?_
   refine XS.icmpYes X14.here hx rfl (pc0 := 226) (pc' := 231) rfl (hb hby at_226) rfl (teq (by decide)).1 (by decide) (by decide) ?_
   refine XS.iconst X14.here hx rfl (hb hby at_231) ?_
   refine XS.istore X14.here hx rfl (hb hby at_232) rfl (l' := #[.val (.int p1), .val (.int p2), .val (.int p3), .val (.int p4), .val (.int (own_n p1)), .val (.int (own_pk p2)), .val (.int (own_pk p3)), .val (.int (own_pk p4)), .val (.ref b10), .val (.ref y13), .val (.int (0 : Int32)), .val (.int (1 : Int32)), .unset]) rfl ?_
   refine XS.iconst X14.here hx rfl (hb hby at_234) ?_
   refine XS.istore X14.here hx rfl (hb hby at_235) rfl (l' := #[.val (.int p1), .val (.int p2), .val (.int p3), .val (.int p4), .val (.int (own_n p1)), .val (.int (own_pk p2)), .val (.int (own_pk p3)), .val (.int (own_pk p4)), .val (.ref b10), .val (.ref y13), .val (.int (0 : Int32)), .val (.int (1 : Int32)), .val (.int (0 : Int32))]) rfl ?_
   refine XS.iload X14.here hx rfl (hb hby at_237) rfl ?_
   refine XS.ifYes X14.here hx rfl (pc0 := 239) (pc' := 276) rfl (hb hby at_239) rfl ((if0 _ _).trans (flt (by rw [hn]; decide)).2.2.2) (by decide) (by decide) ?_
   refine XS.iload X14.here hx rfl (hb hby at_276) rfl ?_
   refine XS.iconst X14.here hx rfl (hb hby at_278) ?_
   refine XS.icmpYes X14.here hx rfl (pc0 := 279) (pc' := 316) rfl (hb hby at_279) rfl (flt (by rw [hn]; decide)).2.2.2 (by decide) (by decide) ?_
   refine XS.iload X14.here hx rfl (hb hby at_316) rfl ?_
   refine XS.iconst X14.here hx rfl (hb hby at_318) ?_
   refine XS.icmpYes X14.here hx rfl (pc0 := 319) (pc' := 346) rfl (hb hby at_319) rfl (flt (by rw [hn]; decide)).2.2.2 (by decide) (by decide) ?_
   refine XS.iload X14.here hx rfl (hb hby at_346) rfl ?_
   exact κ)
  obtain ⟨fs16, hr16, hrun16, hended16, hE16⟩ := X14.leaveW hS13 (by first | exact (Nat.le_refl _) | (rw [q14]; exact (Nat.le_refl _))) (v := some (.int (1 : Int32))) (fun h => by rw [Bd.returns] at h; cases h)
  refine ⟨_, _, hPs _ (pre15 _ ?_), hrun16, hended16, _, _, rfl, ?_, ?_, hE16.1, hE16.2.1, hE16.2.2.1, hE16.2.2.2.mono (by decide) (by decide)⟩
  ·show own_st p e below T14 (mkF m 348 #[.val (.int p1), .val (.int p2), .val (.int p3), .val (.int p4), .val (.int (own_n p1)), .val (.int (own_pk p2)), .val (.int (own_pk p3)), .val (.int (own_pk p4)), .val (.ref b10), .val (.ref y13), .val (.int (0 : Int32)), .val (.int (1 : Int32)), .val (.int (0 : Int32))] [(.int (1 : Int32))]) _
   exact retN X14 hx (t := .boolean) Bd.returns (by simp) (hb hby at_348) hr16
  ·show Q0 Z p1 p2 p3 p4 h0 n0 _ T14.heap _
   rw [q14]
   exact ⟨rfl, N14⟩
  ·show CHr Z own_EL s.vm s.heap T14.vm T14.heap
   rw [q14]
   rw [hh]
   exact CR13.trans (CHv.at X14 hZ13 hEL CH13)
 ·obtain ⟨T17, h17, k17, X17, e17, E17, A17, st17⟩ := newP (aty := .char) X8 hx hZ0 (wd9 hw) q8 (g := (mkF m 69 #[.val (.int p1), .val (.int p2), .val (.int p3), .val (.int p4), .val (.int (own_n p1)), .val (.int (own_pk p2)), .val (.int (own_pk p3)), .val (.int (own_pk p4)), .unset, .unset, .unset, .unset, .unset] [(.int (1 : Int32))])) rfl (hb hby at_69) rfl (by decide) (cap := 1) (by decide) (by decide) (by decide) (by decide)
  obtain ⟨b17, gb17⟩ : ∃ z, z = h0.size := ⟨_, rfl⟩
  rw [← gb17] at A17 st17
  have gn17 : n0 ≤ b17 := Nat.le_trans Z0 (Nat.le_of_eq gb17.symm)
  have sz17_b : h0.size ≤ b17 := Nat.le_trans (Keep.refl h0 []).1 (Nat.le_of_eq gb17.symm)
  have EN_17 := EN.ext E17
  have K17 := (Keep.refl h0 []).ext E17
  have V17 : Arv Z h17 b17 k17 .char (1 : Int32) [(.int (0 : Int32))] (.int (0 : Int32)) := (Arv.new A17 (by decide)).pad (pad_rep [] (.int (0 : Int32)) 1)
  have Vc18 := V17
  obtain ⟨cl18, Ar18, qq18, sz18, nn18, Ha18, Gf18⟩ := Vc18
  have hin18 : ¬ ((0 : Int32) < 0 ∨ cl18.slots.size ≤ ((0 : Int32)).toNatClampNeg) := inb_of sz18 ⟨by decide, by decide⟩
  obtain ⟨T19, h19, X19, e19, W19, st19⟩ := stC X17 hx hZ0 e17 Ar18 (j := (0 : Int32)) hin18 (g := (mkF m 78 #[.val (.int p1), .val (.int p2), .val (.int p3), .val (.int p4), .val (.int (own_n p1)), .val (.int (own_pk p2)), .val (.int (own_pk p3)), .val (.int (own_pk p4)), .unset, .val (.ref b17), .unset, .unset, .unset] [(.int (own_pk p2)), (.int (0 : Int32)), (.ref b17)])) rfl rfl (hb hby at_78)
  have N19 := Fr.snoc X19 N8 gn17
  have EN_19 := EN_17.wr W19 trivial
  have V17_19 := Arv.set Ar18 qq18 sz18 nn18 Ha18 Gf18 (fits_nar_char _) W19 0 rfl (Nat.le_of_ble_eq_true rfl)
  have K19 := K17.wr W19 (Or.inr sz17_b)
  obtain ⟨T20, h20, X20, e20, E20, A20, D20, -, st20⟩ := newO X19 hx hZ0 ho0 (wd6 hw) (wd7 hw) (wd8 hw) e19 (g := (mkF m 79 #[.val (.int p1), .val (.int p2), .val (.int p3), .val (.int p4), .val (.int (own_n p1)), .val (.int (own_pk p2)), .val (.int (own_pk p3)), .val (.int (own_pk p4)), .unset, .val (.ref b17), .unset, .unset, .unset] [])) rfl (hb hby at_79) (by decide) (by decide)
  obtain ⟨b20, gb20⟩ : ∃ z, z = h19.size := ⟨_, rfl⟩
  rw [← gb20] at A20 D20 st20
  have gn20 : n0 ≤ b20 := Nat.le_trans (Nat.le_trans (Nat.le_trans Z0 E17.1) (Nat.le_of_eq W19.size.symm)) (Nat.le_of_eq gb20.symm)
  have sz20_b : h0.size ≤ b20 := Nat.le_trans K19.1 (Nat.le_of_eq gb20.symm)
  have ne_b17_b20 : b17 ≠ b20 := Nat.ne_of_lt (Nat.lt_of_lt_of_le V17_19.lt (Nat.le_of_eq gb20.symm))
  have EN_20 := EN_19.ext E20
  have V17_20 := V17_19.ext E20
  have K20 := K19.ext E20
  have F_value_b20 : Fld Z h20 b20 "java/lang/String" "value" "[B" .null := D20 (Or.inr (wd22 hw)) (ty := (.array .byte)) (by decide)
  have F_coder_b20 : Fld Z h20 b20 "java/lang/String" "coder" "B" (.int (0 : Int32)) := D20 (Or.inr (wd23 hw)) (ty := .byte) (by decide)
  have Kc : Arv Z h20 b17 k17 .char (1 : Int32) ([nar .char (own_pk p2)].map Value.int) (.int 0) := V17_20
  rw [own_nar (own_pkb p2)] at Kc
  obtain ⟨_, T21, Lc21, X21, hQ21, st21⟩ := own_cI X20 hx hZ0 (y := own_z1) rfl ho0 (wd10 hw) (wd11 hw) (wd12 hw) (wd8 hw) (by decide) (rmw11 l Z a0 hw [] b20 b17 k17 (own_pk p2) h20 n0 (Nat.le_trans (Nat.le_trans (Nat.le_trans Z0 E17.1) (Nat.le_of_eq W19.size.symm)) E20.1) F_value_b20 F_coder_b20 A20 gn20 Kc EN_20 (own_pkb p2)) 1 (by decide) (g := (mkF m 85 #[.val (.int p1), .val (.int p2), .val (.int p3), .val (.int p4), .val (.int (own_n p1)), .val (.int (own_pk p2)), .val (.int (own_pk p3)), .val (.int (own_pk p4)), .unset, .val (.ref b17), .unset, .unset, .unset] [(.ref b17), (.ref b20), (.ref b20)])) rfl hml.symm b20 [(.ref b17)] [(.ref b20)] (lenOf pd_w11 rfl) rfl rfl (hb hby at_85) e20 rfl
  obtain ⟨rfl, N21q, Kp21, cd21, S21⟩ := hQ21
  have N21 := Fr.app N19 N21q
  have EN_21 := EN_20.keep Kp21 A20.nostat
  have K21 := K20.trans Kp21 (fun x hx => by cases List.mem_singleton.mp hx; exact Or.inr sz20_b)
  obtain ⟨_, _, ⟨T22, L22, k22, n22⟩, -, Y22, hSq22, hgq22, ⟨Lc22, hQ22, l22, y22, z22, CQ22⟩, st22⟩ := callSS X21 hx (y := own_z4) ho0 (mvT hZ0 (wd28 hw)) (mvT hZ0 (wd29 hw)) (mvT hZ0 (wd30 hw)) (mvT hZ0 (wd31 hw)) (by decide) (backOfSH (W := 0) (rmlit1 l Z a0 hw [] b20 cd21 (own_pk p2) T21.heap n0 (Nat.le_trans (Nat.le_trans (Nat.le_trans (Nat.le_trans Z0 E17.1) (Nat.le_of_eq W19.size.symm)) E20.1) Kp21.1) S21 EN_21 (own_pkb p2)) hZ0 (wd31 hw) (wd30 hw) (by decide) (by decide) hEL (CHv.ext (own_ext K21) hCH)) (g := (mkF m 166 #[.val (.int p1), .val (.int p2), .val (.int p3), .val (.int p4), .val (.int (own_n p1)), .val (.int (own_pk p2)), .val (.int (own_pk p3)), .val (.int (own_pk p4)), .val (.ref b20), .val (.ref b17), .unset, .unset, .unset] [(.ref b20)])) rfl hml.symm (argsL := [(.ref b20)]) (rest := []) (lenOf pd_lit0 rfl) rfl (by show 2 * 0 + _ ≤ _; exact Nat.le_of_eq rfl) (hb hby at_166) (fun _ _ => ⟨rfl, rfl, (by decide : 4 + 10 ≤ _), (by decide : 8 + 111 ≤ _)⟩)
  dsimp only [Pt.U, Pt.locs, Pt.cells, Pt.slots] at Y22 hSq22 hgq22 l22 y22 z22 st22 hQ22 CQ22
  subst l22 y22 z22
  obtain ⟨X22, hS22, hZ22, ho22⟩ := rebS hS0 (by first | exact K21.1 | (rw [rfl]; exact K21.1)) Y22 hSq22 hgq22 hZ0 ho0
  obtain ⟨y22, rfl, N22q, Kp22, cd22, S22⟩ := hQ22
  have N22 := Fr.app N21 N22q
  have CR22 := (CHr.ext (own_ext K21) hCH).trans CQ22
  have CH22 := CQ22.1
  have EN22 := EN_21.ext (own_ext Kp22)
  have Sy := S22
  obtain ⟨_, _, _, _, Ey, -⟩ := Sy
  have hes := own_elen (own_pk p2) (own_pk p3) (own_pk p4)
  obtain ⟨_, T23, Lc23, X23, hQ23, st23⟩ := own_cS X22 hx hZ22 (y := own_z38) ho22 (wd186 hw) (wd187 hw) (wd2 hw) (wd188 hw) (by decide) (rmw l Z a0 hw [] (own_pk p2) T22.heap n0 (Nat.le_trans (Nat.le_trans (Nat.le_trans (Nat.le_trans (Nat.le_trans Z0 E17.1) (Nat.le_of_eq W19.size.symm)) E20.1) Kp21.1) Kp22.1)) 0 (by decide) (g := (mkF m 178 #[.val (.int p1), .val (.int p2), .val (.int p3), .val (.int p4), .val (.int (own_n p1)), .val (.int (own_pk p2)), .val (.int (own_pk p3)), .val (.int (own_pk p4)), .val (.ref b20), .val (.ref y22), .unset, .unset, .unset] [(.int (own_pk p2))])) rfl hml.symm [(.int (own_pk p2))] [] (lenOf pd_w rfl) rfl rfl (hb hby at_178) rfl rfl
  obtain ⟨rfl, N23q, q23⟩ := hQ23
  have N23 := Fr.app N22 N23q
  obtain ⟨_, T24, Lc24, X24, hQ24, st24⟩ := own_cV X23 hx hZ22 (y := own_z5) (z := own_z5) ho22 (wd107 hw) (wd36 hw) (wd38 hw) rfl (wd38 hw) (wd37 hw) (wd39 hw) (wd8 hw) (by decide) (rmsl l Z a0 hw [] y22 (own_esc [(own_pk p2)]) cd22 T22.heap n0 (Nat.le_trans (Nat.le_trans (Nat.le_trans (Nat.le_trans (Nat.le_trans Z0 E17.1) (Nat.le_of_eq W19.size.symm)) E20.1) Kp21.1) Kp22.1) S22 EN22 hes.2.1) Ey 0 (by decide) (g := (mkF m 221 #[.val (.int p1), .val (.int p2), .val (.int p3), .val (.int p4), .val (.int (own_n p1)), .val (.int (own_pk p2)), .val (.int (own_pk p3)), .val (.int (own_pk p4)), .val (.ref b20), .val (.ref y22), .val (.int (((own_w2 (own_pk p2)) + (0 : Int32)) + (0 : Int32))), .unset, .unset] [(.ref y22)])) rfl hml.symm [] [] (lenOf pd_sl rfl) rfl rfl (hb hby at_221) q23 rfl
  obtain ⟨rfl, N24q, q24⟩ := hQ24
  have N24 := Fr.app N23 N24q
  have eA25 : (own_esc [(own_pk p2)]) = ([] ++ (own_e (own_pk p2) ++ (own_pk p2) :: (own_esc []))) := by simp [own_esc]
  have SA25 := S22
  rw [eA25] at SA25
  have hA25 := hes.2.1
  rw [eA25] at hA25
  obtain ⟨_, T26, Lc26, X26, hQ26, st26⟩ := own_cS X24 hx hZ22 (y := own_z40) ho22 (wd192 hw) (wd193 hw) (wd2 hw) (wd194 hw) (by decide) (rmat l Z a0 hw [] y22 [] (own_esc []) cd22 (own_pk p2) T22.heap n0 (Nat.le_trans (Nat.le_trans (Nat.le_trans (Nat.le_trans (Nat.le_trans Z0 E17.1) (Nat.le_of_eq W19.size.symm)) E20.1) Kp21.1) Kp22.1) SA25 EN22 hA25 (own_pkb p2)) 0 (by decide) (g := (mkF m 253 #[.val (.int p1), .val (.int p2), .val (.int p3), .val (.int p4), .val (.int (own_n p1)), .val (.int (own_pk p2)), .val (.int (own_pk p3)), .val (.int (own_pk p4)), .val (.ref b20), .val (.ref y22), .val (.int (((own_w2 (own_pk p2)) + (0 : Int32)) + (0 : Int32))), .val (.int (1 : Int32)), .val (.int (0 : Int32))] [(.int (own_pk p2)), (.int (0 : Int32)), (.ref y22)])) rfl hml.symm [(.ref y22), (.int (0 : Int32)), (.int (own_pk p2))] [] (lenOf pd_at rfl) rfl rfl (hb hby at_253) q24 rfl
  obtain ⟨rfl, N26q, q26⟩ := hQ26
  have N26 := Fr.app N24 N26q
  obtain ⟨_, T27, Lc27, X27, hQ27, st27⟩ := own_cS X26 hx hZ22 (y := own_z38) ho22 (wd186 hw) (wd187 hw) (wd2 hw) (wd188 hw) (by decide) (rmw l Z a0 hw [] (own_pk p2) T22.heap n0 (Nat.le_trans (Nat.le_trans (Nat.le_trans (Nat.le_trans (Nat.le_trans Z0 E17.1) (Nat.le_of_eq W19.size.symm)) E20.1) Kp21.1) Kp22.1)) 1 (by decide) (g := (mkF m 270 #[.val (.int p1), .val (.int p2), .val (.int p3), .val (.int p4), .val (.int (own_n p1)), .val (.int (own_pk p2)), .val (.int (own_pk p3)), .val (.int (own_pk p4)), .val (.ref b20), .val (.ref y22), .val (.int (((own_w2 (own_pk p2)) + (0 : Int32)) + (0 : Int32))), .val (.int (1 : Int32)), .val (.int (0 : Int32))] [(.int (own_pk p2)), (.int (0 : Int32))])) rfl hml.symm [(.int (own_pk p2))] [(.int (0 : Int32))] (lenOf pd_w rfl) rfl rfl (hb hby at_270) q26 rfl
  obtain ⟨rfl, N27q, q27⟩ := hQ27
  have N27 := Fr.app N26 N27q
  have pre28 : own_pr p e below PP T27 (mkF m 348 #[.val (.int p1), .val (.int p2), .val (.int p3), .val (.int p4), .val (.int (own_n p1)), .val (.int (own_pk p2)), .val (.int (own_pk p3)), .val (.int (own_pk p4)), .val (.ref b20), .val (.ref y22), .val (.int (((own_w2 (own_pk p2)) + (0 : Int32)) + (0 : Int32))), .val (.int (1 : Int32)), .val (.int (Int32.ofNat (own_e (own_pk p2) ++ [(own_pk p2)]).length))] [(.int (1 : Int32))]) := fun τ κ => pre9 τ (by
   show own_st p e below T8 (mkF m 42 #[.val (.int p1), .val (.int p2), .val (.int p3), .val (.int p4), .val (.int (own_n p1)), .val (.int (own_pk p2)), .val (.int (own_pk p3)), .val (.int (own_pk p4)), .unset, .unset, .unset, .unset, .unset] []) _
   refine XS.iload X8.here hx rfl (hb hby at_42) rfl ?_
   refine XS.ifYes X8.here hx rfl (pc0 := 44) (pc' := 62) rfl (hb hby at_44) rfl ((if0 _ _).trans (feq (by rw [hn]; decide)).2) (by decide) (by decide) ?_
   refine XS.iload X8.here hx rfl (hb hby at_62) rfl ?_
   refine XS.iconst X8.here hx rfl (hb hby at_64) ?_
   refine XS.icmpNo X8.here hx rfl (hb hby at_65) rfl (teq hn).2 ?_
   refine XS.iconst X8.here hx rfl (hb hby at_68) ?_
   refine st17 _ ?_
   refine XS.astore X17.here hx rfl (hb hby at_71) rfl rfl (l' := #[.val (.int p1), .val (.int p2), .val (.int p3), .val (.int p4), .val (.int (own_n p1)), .val (.int (own_pk p2)), .val (.int (own_pk p3)), .val (.int (own_pk p4)), .unset, .val (.ref b17), .unset, .unset, .unset]) rfl ?_
   refine XS.aload X17.here hx rfl (hb hby at_73) rfl rfl ?_
   refine XS.iconst X17.here hx rfl (hb hby at_75) ?_
   refine XS.iload X17.here hx rfl (hb hby at_76) rfl ?_
   refine st19 _ ?_
   refine st20 _ ?_
   refine XS.dup X20.here hx rfl (hb hby at_82) rfl rfl ?_
   refine XS.aload X20.here hx rfl (hb hby at_83) rfl rfl ?_
   refine st21 _ ?_
   refine XS.astore X21.here hx rfl (hb hby at_88) rfl rfl (l' := #[.val (.int p1), .val (.int p2), .val (.int p3), .val (.int p4), .val (.int (own_n p1)), .val (.int (own_pk p2)), .val (.int (own_pk p3)), .val (.int (own_pk p4)), .val (.ref b20), .val (.ref b17), .unset, .unset, .unset]) rfl ?_
   refine XS.goto X21.here hx rfl (pc0 := 90) (pc' := 164) rfl (hb hby at_90) (by decide) (by decide) ?_
   refine XS.aload X21.here hx rfl (hb hby at_164) rfl rfl ?_
   refine st22.trans ?_
   refine XS.astore X22.here hx rfl (hb hby at_169) rfl rfl (l' := #[.val (.int p1), .val (.int p2), .val (.int p3), .val (.int p4), .val (.int (own_n p1)), .val (.int (own_pk p2)), .val (.int (own_pk p3)), .val (.int (own_pk p4)), .val (.ref b20), .val (.ref y22), .unset, .unset, .unset]) rfl ?_
   refine XS.iload X22.here hx rfl (hb hby at_171) rfl ?_
   refine XS.ifNo X22.here hx rfl (hb hby at_173) rfl ((if0 _ _).trans (tlt (by rw [hn]; decide)).2.2.2) ?_
   refine XS.iload X22.here hx rfl (hb hby at_176) rfl ?_
   refine st23 _ ?_
   refine XS.goto X23.here hx rfl (pc0 := 181) (pc' := 185) rfl (hb hby at_181) (by decide) (by decide) ?_
   refine XS.iload X23.here hx rfl (hb hby at_185) rfl ?_
   refine XS.iconst X23.here hx rfl (hb hby at_187) ?_
   refine XS.icmpYes X23.here hx rfl (pc0 := 188) (pc' := 199) rfl (hb hby at_188) rfl (flt (by rw [hn]; decide)).2.2.2 (by decide) (by decide) ?_
   refine XS.iconst X23.here hx rfl (hb hby at_199) ?_
   refine XS.iadd X23.here hx rfl (hb hby at_200) rfl ?_
   refine XS.iload X23.here hx rfl (hb hby at_201) rfl ?_
   refine XS.iconst X23.here hx rfl (hb hby at_203) ?_
   refine XS.icmpYes X23.here hx rfl (pc0 := 204) (pc' := 215) rfl (hb hby at_204) rfl (flt (by rw [hn]; decide)).2.2.2 (by decide) (by decide) ?_
   refine XS.iconst X23.here hx rfl (hb hby at_215) ?_
   refine XS.iadd X23.here hx rfl (hb hby at_216) rfl ?_
   refine XS.istore X23.here hx rfl (hb hby at_217) rfl (l' := #[.val (.int p1), .val (.int p2), .val (.int p3), .val (.int p4), .val (.int (own_n p1)), .val (.int (own_pk p2)), .val (.int (own_pk p3)), .val (.int (own_pk p4)), .val (.ref b20), .val (.ref y22), .val (.int (((own_w2 (own_pk p2)) + (0 : Int32)) + (0 : Int32))), .unset, .unset]) rfl ?_
   refine XS.aload X23.here hx rfl (hb hby at_219) rfl rfl ?_
   refine st24 _ ?_
   refine XS.iload X24.here hx rfl (hb hby at_224) rfl ?_
   refine XS.icmpYes X24.here hx rfl (pc0 := 226) (pc' := 231) rfl (hb hby at_226) rfl (teq (own_q1 (own_pk p2))).1 (by decide) (by decide) ?_
   refine XS.iconst X24.here hx rfl (hb hby at_231) ?_
   refine XS.istore X24.here hx rfl (hb hby at_232) rfl (l' := #[.val (.int p1), .val (.int p2), .val (.int p3), .val (.int p4), .val (.int (own_n p1)), .val (.int (own_pk p2)), .val (.int (own_pk p3)), .val (.int (own_pk p4)), .val (.ref b20), .val (.ref y22), .val (.int (((own_w2 (own_pk p2)) + (0 : Int32)) + (0 : Int32))), .val (.int (1 : Int32)), .unset]) rfl ?_
   refine XS.iconst X24.here hx rfl (hb hby at_234) ?_
   refine XS.istore X24.here hx rfl (hb hby at_235) rfl (l' := #[.val (.int p1), .val (.int p2), .val (.int p3), .val (.int p4), .val (.int (own_n p1)), .val (.int (own_pk p2)), .val (.int (own_pk p3)), .val (.int (own_pk p4)), .val (.ref b20), .val (.ref y22), .val (.int (((own_w2 (own_pk p2)) + (0 : Int32)) + (0 : Int32))), .val (.int (1 : Int32)), .val (.int (0 : Int32))]) rfl ?_
   refine XS.iload X24.here hx rfl (hb hby at_237) rfl ?_
   refine XS.ifNo X24.here hx rfl (hb hby at_239) rfl ((if0 _ _).trans (tlt (by rw [hn]; decide)).2.2.2) ?_
   refine XS.iload X24.here hx rfl (hb hby at_242) rfl ?_
   refine XS.ifNo X24.here hx rfl (hb hby at_244) rfl ((if0 _ _).trans (feq (by decide : ¬ ((1 : Int32) = (0 : Int32)))).1) ?_
   refine XS.aload X24.here hx rfl (hb hby at_247) rfl rfl ?_
   refine XS.iload X24.here hx rfl (hb hby at_249) rfl ?_
   refine XS.iload X24.here hx rfl (hb hby at_251) rfl ?_
   refine st26 _ ?_
   refine XS.ifNo X26.here hx rfl (hb hby at_256) rfl ((if0 _ _).trans (feq (by decide : ¬ ((1 : Int32) = (0 : Int32)))).1) ?_
   refine XS.iconst X26.here hx rfl (hb hby at_259) ?_
   refine XS.goto X26.here hx rfl (pc0 := 260) (pc' := 264) rfl (hb hby at_260) (by decide) (by decide) ?_
   refine XS.istore X26.here hx rfl (hb hby at_264) rfl (l' := #[.val (.int p1), .val (.int p2), .val (.int p3), .val (.int p4), .val (.int (own_n p1)), .val (.int (own_pk p2)), .val (.int (own_pk p3)), .val (.int (own_pk p4)), .val (.ref b20), .val (.ref y22), .val (.int (((own_w2 (own_pk p2)) + (0 : Int32)) + (0 : Int32))), .val (.int (1 : Int32)), .val (.int (0 : Int32))]) rfl ?_
   refine XS.iload X26.here hx rfl (hb hby at_266) rfl ?_
   refine XS.iload X26.here hx rfl (hb hby at_268) rfl ?_
   refine st27 _ ?_
   refine XS.iadd X27.here hx rfl (hb hby at_273) rfl ?_
   show own_st p e below T27 (mkF m 274 #[.val (.int p1), .val (.int p2), .val (.int p3), .val (.int p4), .val (.int (own_n p1)), .val (.int (own_pk p2)), .val (.int (own_pk p3)), .val (.int (own_pk p4)), .val (.ref b20), .val (.ref y22), .val (.int (((own_w2 (own_pk p2)) + (0 : Int32)) + (0 : Int32))), .val (.int (1 : Int32)), .val (.int (0 : Int32))] [(.int ((0 : Int32) + (own_w2 (own_pk p2))))]) _
   rw [own_p1]
   refine XS.istore X27.here hx rfl (hb hby at_274) rfl (l' := #[.val (.int p1), .val (.int p2), .val (.int p3), .val (.int p4), .val (.int (own_n p1)), .val (.int (own_pk p2)), .val (.int (own_pk p3)), .val (.int (own_pk p4)), .val (.ref b20), .val (.ref y22), .val (.int (((own_w2 (own_pk p2)) + (0 : Int32)) + (0 : Int32))), .val (.int (1 : Int32)), .val (.int (Int32.ofNat (own_e (own_pk p2) ++ [(own_pk p2)]).length))]) rfl ?_
   refine XS.iload X27.here hx rfl (hb hby at_276) rfl ?_
   refine XS.iconst X27.here hx rfl (hb hby at_278) ?_
   refine XS.icmpYes X27.here hx rfl (pc0 := 279) (pc' := 316) rfl (hb hby at_279) rfl (flt (by rw [hn]; decide)).2.2.2 (by decide) (by decide) ?_
   refine XS.iload X27.here hx rfl (hb hby at_316) rfl ?_
   refine XS.iconst X27.here hx rfl (hb hby at_318) ?_
   refine XS.icmpYes X27.here hx rfl (pc0 := 319) (pc' := 346) rfl (hb hby at_319) rfl (flt (by rw [hn]; decide)).2.2.2 (by decide) (by decide) ?_
   refine XS.iload X27.here hx rfl (hb hby at_346) rfl ?_
   exact κ)
  obtain ⟨fs29, hr29, hrun29, hended29, hE29⟩ := X27.leaveW hS22 (by first | exact (Nat.le_refl _) | (rw [q27]; exact (Nat.le_refl _))) (v := some (.int (1 : Int32))) (fun h => by rw [Bd.returns] at h; cases h)
  refine ⟨_, _, hPs _ (pre28 _ ?_), hrun29, hended29, _, _, rfl, ?_, ?_, hE29.1, hE29.2.1, hE29.2.2.1, hE29.2.2.2.mono (by decide) (by decide)⟩
  ·show own_st p e below T27 (mkF m 348 #[.val (.int p1), .val (.int p2), .val (.int p3), .val (.int p4), .val (.int (own_n p1)), .val (.int (own_pk p2)), .val (.int (own_pk p3)), .val (.int (own_pk p4)), .val (.ref b20), .val (.ref y22), .val (.int (((own_w2 (own_pk p2)) + (0 : Int32)) + (0 : Int32))), .val (.int (1 : Int32)), .val (.int (Int32.ofNat (own_e (own_pk p2) ++ [(own_pk p2)]).length))] [(.int (1 : Int32))]) _
   exact retN X27 hx (t := .boolean) Bd.returns (by simp) (hb hby at_348) hr29
  ·show Q0 Z p1 p2 p3 p4 h0 n0 _ T27.heap _
   rw [q27]
   exact ⟨rfl, N27⟩
  ·show CHr Z own_EL s.vm s.heap T27.vm T27.heap
   rw [q27]
   rw [hh]
   exact CR22.trans (CHv.at X27 hZ22 hEL CH22)
 ·obtain ⟨T30, h30, k30, X30, e30, E30, A30, st30⟩ := newP (aty := .char) X8 hx hZ0 (wd9 hw) q8 (g := (mkF m 100 #[.val (.int p1), .val (.int p2), .val (.int p3), .val (.int p4), .val (.int (own_n p1)), .val (.int (own_pk p2)), .val (.int (own_pk p3)), .val (.int (own_pk p4)), .unset, .unset, .unset, .unset, .unset] [(.int (2 : Int32))])) rfl (hb hby at_100) rfl (by decide) (cap := 2) (by decide) (by decide) (by decide) (by decide)
  obtain ⟨b30, gb30⟩ : ∃ z, z = h0.size := ⟨_, rfl⟩
  rw [← gb30] at A30 st30
  have gn30 : n0 ≤ b30 := Nat.le_trans Z0 (Nat.le_of_eq gb30.symm)
  have sz30_b : h0.size ≤ b30 := Nat.le_trans (Keep.refl h0 []).1 (Nat.le_of_eq gb30.symm)
  have EN_30 := EN.ext E30
  have K30 := (Keep.refl h0 []).ext E30
  have V30 : Arv Z h30 b30 k30 .char (2 : Int32) [(.int (0 : Int32)), (.int (0 : Int32))] (.int (0 : Int32)) := (Arv.new A30 (by decide)).pad (pad_rep [] (.int (0 : Int32)) 2)
  have Vc31 := V30
  obtain ⟨cl31, Ar31, qq31, sz31, nn31, Ha31, Gf31⟩ := Vc31
  have hin31 : ¬ ((0 : Int32) < 0 ∨ cl31.slots.size ≤ ((0 : Int32)).toNatClampNeg) := inb_of sz31 ⟨by decide, by decide⟩
  obtain ⟨T32, h32, X32, e32, W32, st32⟩ := stC X30 hx hZ0 e30 Ar31 (j := (0 : Int32)) hin31 (g := (mkF m 109 #[.val (.int p1), .val (.int p2), .val (.int p3), .val (.int p4), .val (.int (own_n p1)), .val (.int (own_pk p2)), .val (.int (own_pk p3)), .val (.int (own_pk p4)), .unset, .val (.ref b30), .unset, .unset, .unset] [(.int (own_pk p2)), (.int (0 : Int32)), (.ref b30)])) rfl rfl (hb hby at_109)
  have N32 := Fr.snoc X32 N8 gn30
  have EN_32 := EN_30.wr W32 trivial
  have V30_32 := Arv.set Ar31 qq31 sz31 nn31 Ha31 Gf31 (fits_nar_char _) W32 0 rfl (Nat.le_of_ble_eq_true rfl)
  have K32 := K30.wr W32 (Or.inr sz30_b)
  have Vc33 := V30_32
  obtain ⟨cl33, Ar33, qq33, sz33, nn33, Ha33, Gf33⟩ := Vc33
  have hin33 : ¬ ((1 : Int32) < 0 ∨ cl33.slots.size ≤ ((1 : Int32)).toNatClampNeg) := inb_of sz33 ⟨by decide, by decide⟩
  obtain ⟨T34, h34, X34, e34, W34, st34⟩ := stC X32 hx hZ0 e32 Ar33 (j := (1 : Int32)) hin33 (g := (mkF m 115 #[.val (.int p1), .val (.int p2), .val (.int p3), .val (.int p4), .val (.int (own_n p1)), .val (.int (own_pk p2)), .val (.int (own_pk p3)), .val (.int (own_pk p4)), .unset, .val (.ref b30), .unset, .unset, .unset] [(.int (own_pk p3)), (.int (1 : Int32)), (.ref b30)])) rfl rfl (hb hby at_115)
  have N34 := Fr.snoc X34 N32 gn30
  have EN_34 := EN_32.wr W34 trivial
  have V30_34 := Arv.set Ar33 qq33 sz33 nn33 Ha33 Gf33 (fits_nar_char _) W34 1 rfl (Nat.le_of_ble_eq_true rfl)
  have K34 := K32.wr W34 (Or.inr sz30_b)
  obtain ⟨T35, h35, X35, e35, E35, A35, D35, -, st35⟩ := newO X34 hx hZ0 ho0 (wd6 hw) (wd7 hw) (wd8 hw) e34 (g := (mkF m 116 #[.val (.int p1), .val (.int p2), .val (.int p3), .val (.int p4), .val (.int (own_n p1)), .val (.int (own_pk p2)), .val (.int (own_pk p3)), .val (.int (own_pk p4)), .unset, .val (.ref b30), .unset, .unset, .unset] [])) rfl (hb hby at_116) (by decide) (by decide)
  obtain ⟨b35, gb35⟩ : ∃ z, z = h34.size := ⟨_, rfl⟩
  rw [← gb35] at A35 D35 st35
  have gn35 : n0 ≤ b35 := Nat.le_trans (Nat.le_trans (Nat.le_trans (Nat.le_trans Z0 E30.1) (Nat.le_of_eq W32.size.symm)) (Nat.le_of_eq W34.size.symm)) (Nat.le_of_eq gb35.symm)
  have sz35_b : h0.size ≤ b35 := Nat.le_trans K34.1 (Nat.le_of_eq gb35.symm)
  have ne_b30_b35 : b30 ≠ b35 := Nat.ne_of_lt (Nat.lt_of_lt_of_le V30_34.lt (Nat.le_of_eq gb35.symm))
  have EN_35 := EN_34.ext E35
  have V30_35 := V30_34.ext E35
  have K35 := K34.ext E35
  have F_value_b35 : Fld Z h35 b35 "java/lang/String" "value" "[B" .null := D35 (Or.inr (wd22 hw)) (ty := (.array .byte)) (by decide)
  have F_coder_b35 : Fld Z h35 b35 "java/lang/String" "coder" "B" (.int (0 : Int32)) := D35 (Or.inr (wd23 hw)) (ty := .byte) (by decide)
  have Kc : Arv Z h35 b30 k30 .char (2 : Int32) ([nar .char (own_pk p2), nar .char (own_pk p3)].map Value.int) (.int 0) := V30_35
  rw [own_nar (own_pkb p2), own_nar (own_pkb p3)] at Kc
  obtain ⟨_, T36, Lc36, X36, hQ36, st36⟩ := own_cI X35 hx hZ0 (y := own_z1) rfl ho0 (wd10 hw) (wd11 hw) (wd12 hw) (wd8 hw) (by decide) (rmw12 l Z a0 hw [] b35 b30 k30 (own_pk p2) (own_pk p3) h35 n0 (Nat.le_trans (Nat.le_trans (Nat.le_trans (Nat.le_trans Z0 E30.1) (Nat.le_of_eq W32.size.symm)) (Nat.le_of_eq W34.size.symm)) E35.1) F_value_b35 F_coder_b35 A35 gn35 Kc EN_35 (own_pkb p2) (own_pkb p3)) 1 (by decide) (g := (mkF m 122 #[.val (.int p1), .val (.int p2), .val (.int p3), .val (.int p4), .val (.int (own_n p1)), .val (.int (own_pk p2)), .val (.int (own_pk p3)), .val (.int (own_pk p4)), .unset, .val (.ref b30), .unset, .unset, .unset] [(.ref b30), (.ref b35), (.ref b35)])) rfl hml.symm b35 [(.ref b30)] [(.ref b35)] (lenOf pd_w11 rfl) rfl rfl (hb hby at_122) e35 rfl
  obtain ⟨rfl, N36q, Kp36, cd36, S36⟩ := hQ36
  have N36 := Fr.app N34 N36q
  have EN_36 := EN_35.keep Kp36 A35.nostat
  have K36 := K35.trans Kp36 (fun x hx => by cases List.mem_singleton.mp hx; exact Or.inr sz35_b)
  obtain ⟨_, _, ⟨T37, L37, k37, n37⟩, -, Y37, hSq37, hgq37, ⟨Lc37, hQ37, l37, y37, z37, CQ37⟩, st37⟩ := callSS X36 hx (y := own_z4) ho0 (mvT hZ0 (wd28 hw)) (mvT hZ0 (wd29 hw)) (mvT hZ0 (wd30 hw)) (mvT hZ0 (wd31 hw)) (by decide) (backOfSH (W := 0) (rmlit2 l Z a0 hw [] b35 cd36 (own_pk p2) (own_pk p3) T36.heap n0 (Nat.le_trans (Nat.le_trans (Nat.le_trans (Nat.le_trans (Nat.le_trans Z0 E30.1) (Nat.le_of_eq W32.size.symm)) (Nat.le_of_eq W34.size.symm)) E35.1) Kp36.1) S36 EN_36 (own_pkb p2) (own_pkb p3)) hZ0 (wd31 hw) (wd30 hw) (by decide) (by decide) hEL (CHv.ext (own_ext K36) hCH)) (g := (mkF m 166 #[.val (.int p1), .val (.int p2), .val (.int p3), .val (.int p4), .val (.int (own_n p1)), .val (.int (own_pk p2)), .val (.int (own_pk p3)), .val (.int (own_pk p4)), .val (.ref b35), .val (.ref b30), .unset, .unset, .unset] [(.ref b35)])) rfl hml.symm (argsL := [(.ref b35)]) (rest := []) (lenOf pd_lit0 rfl) rfl (by show 2 * 0 + _ ≤ _; exact Nat.le_of_eq rfl) (hb hby at_166) (fun _ _ => ⟨rfl, rfl, (by decide : 4 + 16 ≤ _), (by decide : 12 + 195 ≤ _)⟩)
  dsimp only [Pt.U, Pt.locs, Pt.cells, Pt.slots] at Y37 hSq37 hgq37 l37 y37 z37 st37 hQ37 CQ37
  subst l37 y37 z37
  obtain ⟨X37, hS37, hZ37, ho37⟩ := rebS hS0 (by first | exact K36.1 | (rw [rfl]; exact K36.1)) Y37 hSq37 hgq37 hZ0 ho0
  obtain ⟨y37, rfl, N37q, Kp37, cd37, S37⟩ := hQ37
  have N37 := Fr.app N36 N37q
  have CR37 := (CHr.ext (own_ext K36) hCH).trans CQ37
  have CH37 := CQ37.1
  have EN37 := EN_36.ext (own_ext Kp37)
  have Sy := S37
  obtain ⟨_, _, _, _, Ey, -⟩ := Sy
  have hes := own_elen (own_pk p2) (own_pk p3) (own_pk p4)
  obtain ⟨_, T38, Lc38, X38, hQ38, st38⟩ := own_cS X37 hx hZ37 (y := own_z38) ho37 (wd186 hw) (wd187 hw) (wd2 hw) (wd188 hw) (by decide) (rmw l Z a0 hw [] (own_pk p2) T37.heap n0 (Nat.le_trans (Nat.le_trans (Nat.le_trans (Nat.le_trans (Nat.le_trans (Nat.le_trans Z0 E30.1) (Nat.le_of_eq W32.size.symm)) (Nat.le_of_eq W34.size.symm)) E35.1) Kp36.1) Kp37.1)) 0 (by decide) (g := (mkF m 178 #[.val (.int p1), .val (.int p2), .val (.int p3), .val (.int p4), .val (.int (own_n p1)), .val (.int (own_pk p2)), .val (.int (own_pk p3)), .val (.int (own_pk p4)), .val (.ref b35), .val (.ref y37), .unset, .unset, .unset] [(.int (own_pk p2))])) rfl hml.symm [(.int (own_pk p2))] [] (lenOf pd_w rfl) rfl rfl (hb hby at_178) rfl rfl
  obtain ⟨rfl, N38q, q38⟩ := hQ38
  have N38 := Fr.app N37 N38q
  obtain ⟨_, T39, Lc39, X39, hQ39, st39⟩ := own_cS X38 hx hZ37 (y := own_z38) ho37 (wd186 hw) (wd187 hw) (wd2 hw) (wd188 hw) (by decide) (rmw l Z a0 hw [] (own_pk p3) T37.heap n0 (Nat.le_trans (Nat.le_trans (Nat.le_trans (Nat.le_trans (Nat.le_trans (Nat.le_trans Z0 E30.1) (Nat.le_of_eq W32.size.symm)) (Nat.le_of_eq W34.size.symm)) E35.1) Kp36.1) Kp37.1)) 1 (by decide) (g := (mkF m 193 #[.val (.int p1), .val (.int p2), .val (.int p3), .val (.int p4), .val (.int (own_n p1)), .val (.int (own_pk p2)), .val (.int (own_pk p3)), .val (.int (own_pk p4)), .val (.ref b35), .val (.ref y37), .unset, .unset, .unset] [(.int (own_pk p3)), (.int (own_w2 (own_pk p2)))])) rfl hml.symm [(.int (own_pk p3))] [(.int (own_w2 (own_pk p2)))] (lenOf pd_w rfl) rfl rfl (hb hby at_193) q38 rfl
  obtain ⟨rfl, N39q, q39⟩ := hQ39
  have N39 := Fr.app N38 N39q
  obtain ⟨_, T40, Lc40, X40, hQ40, st40⟩ := own_cV X39 hx hZ37 (y := own_z5) (z := own_z5) ho37 (wd107 hw) (wd36 hw) (wd38 hw) rfl (wd38 hw) (wd37 hw) (wd39 hw) (wd8 hw) (by decide) (rmsl l Z a0 hw [] y37 (own_esc [(own_pk p2), (own_pk p3)]) cd37 T37.heap n0 (Nat.le_trans (Nat.le_trans (Nat.le_trans (Nat.le_trans (Nat.le_trans (Nat.le_trans Z0 E30.1) (Nat.le_of_eq W32.size.symm)) (Nat.le_of_eq W34.size.symm)) E35.1) Kp36.1) Kp37.1) S37 EN37 hes.2.2.1) Ey 0 (by decide) (g := (mkF m 221 #[.val (.int p1), .val (.int p2), .val (.int p3), .val (.int p4), .val (.int (own_n p1)), .val (.int (own_pk p2)), .val (.int (own_pk p3)), .val (.int (own_pk p4)), .val (.ref b35), .val (.ref y37), .val (.int (((own_w2 (own_pk p2)) + (own_w2 (own_pk p3))) + (0 : Int32))), .unset, .unset] [(.ref y37)])) rfl hml.symm [] [] (lenOf pd_sl rfl) rfl rfl (hb hby at_221) q39 rfl
  obtain ⟨rfl, N40q, q40⟩ := hQ40
  have N40 := Fr.app N39 N40q
  have eA41 : (own_esc [(own_pk p2), (own_pk p3)]) = ([] ++ (own_e (own_pk p2) ++ (own_pk p2) :: (own_esc [(own_pk p3)]))) := by simp [own_esc]
  have SA41 := S37
  rw [eA41] at SA41
  have hA41 := hes.2.2.1
  rw [eA41] at hA41
  obtain ⟨_, T42, Lc42, X42, hQ42, st42⟩ := own_cS X40 hx hZ37 (y := own_z40) ho37 (wd192 hw) (wd193 hw) (wd2 hw) (wd194 hw) (by decide) (rmat l Z a0 hw [] y37 [] (own_esc [(own_pk p3)]) cd37 (own_pk p2) T37.heap n0 (Nat.le_trans (Nat.le_trans (Nat.le_trans (Nat.le_trans (Nat.le_trans (Nat.le_trans Z0 E30.1) (Nat.le_of_eq W32.size.symm)) (Nat.le_of_eq W34.size.symm)) E35.1) Kp36.1) Kp37.1) SA41 EN37 hA41 (own_pkb p2)) 0 (by decide) (g := (mkF m 253 #[.val (.int p1), .val (.int p2), .val (.int p3), .val (.int p4), .val (.int (own_n p1)), .val (.int (own_pk p2)), .val (.int (own_pk p3)), .val (.int (own_pk p4)), .val (.ref b35), .val (.ref y37), .val (.int (((own_w2 (own_pk p2)) + (own_w2 (own_pk p3))) + (0 : Int32))), .val (.int (1 : Int32)), .val (.int (0 : Int32))] [(.int (own_pk p2)), (.int (0 : Int32)), (.ref y37)])) rfl hml.symm [(.ref y37), (.int (0 : Int32)), (.int (own_pk p2))] [] (lenOf pd_at rfl) rfl rfl (hb hby at_253) q40 rfl
  obtain ⟨rfl, N42q, q42⟩ := hQ42
  have N42 := Fr.app N40 N42q
  obtain ⟨_, T43, Lc43, X43, hQ43, st43⟩ := own_cS X42 hx hZ37 (y := own_z38) ho37 (wd186 hw) (wd187 hw) (wd2 hw) (wd188 hw) (by decide) (rmw l Z a0 hw [] (own_pk p2) T37.heap n0 (Nat.le_trans (Nat.le_trans (Nat.le_trans (Nat.le_trans (Nat.le_trans (Nat.le_trans Z0 E30.1) (Nat.le_of_eq W32.size.symm)) (Nat.le_of_eq W34.size.symm)) E35.1) Kp36.1) Kp37.1)) 1 (by decide) (g := (mkF m 270 #[.val (.int p1), .val (.int p2), .val (.int p3), .val (.int p4), .val (.int (own_n p1)), .val (.int (own_pk p2)), .val (.int (own_pk p3)), .val (.int (own_pk p4)), .val (.ref b35), .val (.ref y37), .val (.int (((own_w2 (own_pk p2)) + (own_w2 (own_pk p3))) + (0 : Int32))), .val (.int (1 : Int32)), .val (.int (0 : Int32))] [(.int (own_pk p2)), (.int (0 : Int32))])) rfl hml.symm [(.int (own_pk p2))] [(.int (0 : Int32))] (lenOf pd_w rfl) rfl rfl (hb hby at_270) q42 rfl
  obtain ⟨rfl, N43q, q43⟩ := hQ43
  have N43 := Fr.app N42 N43q
  have eA44 : (own_esc [(own_pk p2), (own_pk p3)]) = ((own_e (own_pk p2) ++ [(own_pk p2)]) ++ (own_e (own_pk p3) ++ (own_pk p3) :: (own_esc []))) := by simp [own_esc]
  have SA44 := S37
  rw [eA44] at SA44
  have hA44 := hes.2.2.1
  rw [eA44] at hA44
  obtain ⟨_, T45, Lc45, X45, hQ45, st45⟩ := own_cS X43 hx hZ37 (y := own_z40) ho37 (wd192 hw) (wd193 hw) (wd2 hw) (wd194 hw) (by decide) (rmat l Z a0 hw [] y37 (own_e (own_pk p2) ++ [(own_pk p2)]) (own_esc []) cd37 (own_pk p3) T37.heap n0 (Nat.le_trans (Nat.le_trans (Nat.le_trans (Nat.le_trans (Nat.le_trans (Nat.le_trans Z0 E30.1) (Nat.le_of_eq W32.size.symm)) (Nat.le_of_eq W34.size.symm)) E35.1) Kp36.1) Kp37.1) SA44 EN37 hA44 (own_pkb p3)) 0 (by decide) (g := (mkF m 293 #[.val (.int p1), .val (.int p2), .val (.int p3), .val (.int p4), .val (.int (own_n p1)), .val (.int (own_pk p2)), .val (.int (own_pk p3)), .val (.int (own_pk p4)), .val (.ref b35), .val (.ref y37), .val (.int (((own_w2 (own_pk p2)) + (own_w2 (own_pk p3))) + (0 : Int32))), .val (.int (1 : Int32)), .val (.int (Int32.ofNat (own_e (own_pk p2) ++ [(own_pk p2)]).length))] [(.int (own_pk p3)), (.int (Int32.ofNat (own_e (own_pk p2) ++ [(own_pk p2)]).length)), (.ref y37)])) rfl hml.symm [(.ref y37), (.int (Int32.ofNat (own_e (own_pk p2) ++ [(own_pk p2)]).length)), (.int (own_pk p3))] [] (lenOf pd_at rfl) rfl rfl (hb hby at_293) q43 rfl
  obtain ⟨rfl, N45q, q45⟩ := hQ45
  have N45 := Fr.app N43 N45q
  obtain ⟨_, T46, Lc46, X46, hQ46, st46⟩ := own_cS X45 hx hZ37 (y := own_z38) ho37 (wd186 hw) (wd187 hw) (wd2 hw) (wd188 hw) (by decide) (rmw l Z a0 hw [] (own_pk p3) T37.heap n0 (Nat.le_trans (Nat.le_trans (Nat.le_trans (Nat.le_trans (Nat.le_trans (Nat.le_trans Z0 E30.1) (Nat.le_of_eq W32.size.symm)) (Nat.le_of_eq W34.size.symm)) E35.1) Kp36.1) Kp37.1)) 1 (by decide) (g := (mkF m 310 #[.val (.int p1), .val (.int p2), .val (.int p3), .val (.int p4), .val (.int (own_n p1)), .val (.int (own_pk p2)), .val (.int (own_pk p3)), .val (.int (own_pk p4)), .val (.ref b35), .val (.ref y37), .val (.int (((own_w2 (own_pk p2)) + (own_w2 (own_pk p3))) + (0 : Int32))), .val (.int (1 : Int32)), .val (.int (Int32.ofNat (own_e (own_pk p2) ++ [(own_pk p2)]).length))] [(.int (own_pk p3)), (.int (Int32.ofNat (own_e (own_pk p2) ++ [(own_pk p2)]).length))])) rfl hml.symm [(.int (own_pk p3))] [(.int (Int32.ofNat (own_e (own_pk p2) ++ [(own_pk p2)]).length))] (lenOf pd_w rfl) rfl rfl (hb hby at_310) q45 rfl
  obtain ⟨rfl, N46q, q46⟩ := hQ46
  have N46 := Fr.app N45 N46q
  have pre47 : own_pr p e below PP T46 (mkF m 348 #[.val (.int p1), .val (.int p2), .val (.int p3), .val (.int p4), .val (.int (own_n p1)), .val (.int (own_pk p2)), .val (.int (own_pk p3)), .val (.int (own_pk p4)), .val (.ref b35), .val (.ref y37), .val (.int (((own_w2 (own_pk p2)) + (own_w2 (own_pk p3))) + (0 : Int32))), .val (.int (1 : Int32)), .val (.int (Int32.ofNat ((own_e (own_pk p2) ++ [(own_pk p2)]) ++ (own_e (own_pk p3) ++ [(own_pk p3)])).length))] [(.int (1 : Int32))]) := fun τ κ => pre9 τ (by
   show own_st p e below T8 (mkF m 42 #[.val (.int p1), .val (.int p2), .val (.int p3), .val (.int p4), .val (.int (own_n p1)), .val (.int (own_pk p2)), .val (.int (own_pk p3)), .val (.int (own_pk p4)), .unset, .unset, .unset, .unset, .unset] []) _
   refine XS.iload X8.here hx rfl (hb hby at_42) rfl ?_
   refine XS.ifYes X8.here hx rfl (pc0 := 44) (pc' := 62) rfl (hb hby at_44) rfl ((if0 _ _).trans (feq (by rw [hn]; decide)).2) (by decide) (by decide) ?_
   refine XS.iload X8.here hx rfl (hb hby at_62) rfl ?_
   refine XS.iconst X8.here hx rfl (hb hby at_64) ?_
   refine XS.icmpYes X8.here hx rfl (pc0 := 65) (pc' := 93) rfl (hb hby at_65) rfl (feq (by rw [hn]; decide)).2 (by decide) (by decide) ?_
   refine XS.iload X8.here hx rfl (hb hby at_93) rfl ?_
   refine XS.iconst X8.here hx rfl (hb hby at_95) ?_
   refine XS.icmpNo X8.here hx rfl (hb hby at_96) rfl (teq hn).2 ?_
   refine XS.iconst X8.here hx rfl (hb hby at_99) ?_
   refine st30 _ ?_
   refine XS.astore X30.here hx rfl (hb hby at_102) rfl rfl (l' := #[.val (.int p1), .val (.int p2), .val (.int p3), .val (.int p4), .val (.int (own_n p1)), .val (.int (own_pk p2)), .val (.int (own_pk p3)), .val (.int (own_pk p4)), .unset, .val (.ref b30), .unset, .unset, .unset]) rfl ?_
   refine XS.aload X30.here hx rfl (hb hby at_104) rfl rfl ?_
   refine XS.iconst X30.here hx rfl (hb hby at_106) ?_
   refine XS.iload X30.here hx rfl (hb hby at_107) rfl ?_
   refine st32 _ ?_
   refine XS.aload X32.here hx rfl (hb hby at_110) rfl rfl ?_
   refine XS.iconst X32.here hx rfl (hb hby at_112) ?_
   refine XS.iload X32.here hx rfl (hb hby at_113) rfl ?_
   refine st34 _ ?_
   refine st35 _ ?_
   refine XS.dup X35.here hx rfl (hb hby at_119) rfl rfl ?_
   refine XS.aload X35.here hx rfl (hb hby at_120) rfl rfl ?_
   refine st36 _ ?_
   refine XS.astore X36.here hx rfl (hb hby at_125) rfl rfl (l' := #[.val (.int p1), .val (.int p2), .val (.int p3), .val (.int p4), .val (.int (own_n p1)), .val (.int (own_pk p2)), .val (.int (own_pk p3)), .val (.int (own_pk p4)), .val (.ref b35), .val (.ref b30), .unset, .unset, .unset]) rfl ?_
   refine XS.goto X36.here hx rfl (pc0 := 127) (pc' := 164) rfl (hb hby at_127) (by decide) (by decide) ?_
   refine XS.aload X36.here hx rfl (hb hby at_164) rfl rfl ?_
   refine st37.trans ?_
   refine XS.astore X37.here hx rfl (hb hby at_169) rfl rfl (l' := #[.val (.int p1), .val (.int p2), .val (.int p3), .val (.int p4), .val (.int (own_n p1)), .val (.int (own_pk p2)), .val (.int (own_pk p3)), .val (.int (own_pk p4)), .val (.ref b35), .val (.ref y37), .unset, .unset, .unset]) rfl ?_
   refine XS.iload X37.here hx rfl (hb hby at_171) rfl ?_
   refine XS.ifNo X37.here hx rfl (hb hby at_173) rfl ((if0 _ _).trans (tlt (by rw [hn]; decide)).2.2.2) ?_
   refine XS.iload X37.here hx rfl (hb hby at_176) rfl ?_
   refine st38 _ ?_
   refine XS.goto X38.here hx rfl (pc0 := 181) (pc' := 185) rfl (hb hby at_181) (by decide) (by decide) ?_
   refine XS.iload X38.here hx rfl (hb hby at_185) rfl ?_
   refine XS.iconst X38.here hx rfl (hb hby at_187) ?_
   refine XS.icmpNo X38.here hx rfl (hb hby at_188) rfl (tlt (by rw [hn]; decide)).2.2.2 ?_
   refine XS.iload X38.here hx rfl (hb hby at_191) rfl ?_
   refine st39 _ ?_
   refine XS.goto X39.here hx rfl (pc0 := 196) (pc' := 200) rfl (hb hby at_196) (by decide) (by decide) ?_
   refine XS.iadd X39.here hx rfl (hb hby at_200) rfl ?_
   refine XS.iload X39.here hx rfl (hb hby at_201) rfl ?_
   refine XS.iconst X39.here hx rfl (hb hby at_203) ?_
   refine XS.icmpYes X39.here hx rfl (pc0 := 204) (pc' := 215) rfl (hb hby at_204) rfl (flt (by rw [hn]; decide)).2.2.2 (by decide) (by decide) ?_
   refine XS.iconst X39.here hx rfl (hb hby at_215) ?_
   refine XS.iadd X39.here hx rfl (hb hby at_216) rfl ?_
   refine XS.istore X39.here hx rfl (hb hby at_217) rfl (l' := #[.val (.int p1), .val (.int p2), .val (.int p3), .val (.int p4), .val (.int (own_n p1)), .val (.int (own_pk p2)), .val (.int (own_pk p3)), .val (.int (own_pk p4)), .val (.ref b35), .val (.ref y37), .val (.int (((own_w2 (own_pk p2)) + (own_w2 (own_pk p3))) + (0 : Int32))), .unset, .unset]) rfl ?_
   refine XS.aload X39.here hx rfl (hb hby at_219) rfl rfl ?_
   refine st40 _ ?_
   refine XS.iload X40.here hx rfl (hb hby at_224) rfl ?_
   refine XS.icmpYes X40.here hx rfl (pc0 := 226) (pc' := 231) rfl (hb hby at_226) rfl (teq (own_q2 (own_pk p2) (own_pk p3))).1 (by decide) (by decide) ?_
   refine XS.iconst X40.here hx rfl (hb hby at_231) ?_
   refine XS.istore X40.here hx rfl (hb hby at_232) rfl (l' := #[.val (.int p1), .val (.int p2), .val (.int p3), .val (.int p4), .val (.int (own_n p1)), .val (.int (own_pk p2)), .val (.int (own_pk p3)), .val (.int (own_pk p4)), .val (.ref b35), .val (.ref y37), .val (.int (((own_w2 (own_pk p2)) + (own_w2 (own_pk p3))) + (0 : Int32))), .val (.int (1 : Int32)), .unset]) rfl ?_
   refine XS.iconst X40.here hx rfl (hb hby at_234) ?_
   refine XS.istore X40.here hx rfl (hb hby at_235) rfl (l' := #[.val (.int p1), .val (.int p2), .val (.int p3), .val (.int p4), .val (.int (own_n p1)), .val (.int (own_pk p2)), .val (.int (own_pk p3)), .val (.int (own_pk p4)), .val (.ref b35), .val (.ref y37), .val (.int (((own_w2 (own_pk p2)) + (own_w2 (own_pk p3))) + (0 : Int32))), .val (.int (1 : Int32)), .val (.int (0 : Int32))]) rfl ?_
   refine XS.iload X40.here hx rfl (hb hby at_237) rfl ?_
   refine XS.ifNo X40.here hx rfl (hb hby at_239) rfl ((if0 _ _).trans (tlt (by rw [hn]; decide)).2.2.2) ?_
   refine XS.iload X40.here hx rfl (hb hby at_242) rfl ?_
   refine XS.ifNo X40.here hx rfl (hb hby at_244) rfl ((if0 _ _).trans (feq (by decide : ¬ ((1 : Int32) = (0 : Int32)))).1) ?_
   refine XS.aload X40.here hx rfl (hb hby at_247) rfl rfl ?_
   refine XS.iload X40.here hx rfl (hb hby at_249) rfl ?_
   refine XS.iload X40.here hx rfl (hb hby at_251) rfl ?_
   refine st42 _ ?_
   refine XS.ifNo X42.here hx rfl (hb hby at_256) rfl ((if0 _ _).trans (feq (by decide : ¬ ((1 : Int32) = (0 : Int32)))).1) ?_
   refine XS.iconst X42.here hx rfl (hb hby at_259) ?_
   refine XS.goto X42.here hx rfl (pc0 := 260) (pc' := 264) rfl (hb hby at_260) (by decide) (by decide) ?_
   refine XS.istore X42.here hx rfl (hb hby at_264) rfl (l' := #[.val (.int p1), .val (.int p2), .val (.int p3), .val (.int p4), .val (.int (own_n p1)), .val (.int (own_pk p2)), .val (.int (own_pk p3)), .val (.int (own_pk p4)), .val (.ref b35), .val (.ref y37), .val (.int (((own_w2 (own_pk p2)) + (own_w2 (own_pk p3))) + (0 : Int32))), .val (.int (1 : Int32)), .val (.int (0 : Int32))]) rfl ?_
   refine XS.iload X42.here hx rfl (hb hby at_266) rfl ?_
   refine XS.iload X42.here hx rfl (hb hby at_268) rfl ?_
   refine st43 _ ?_
   refine XS.iadd X43.here hx rfl (hb hby at_273) rfl ?_
   show own_st p e below T43 (mkF m 274 #[.val (.int p1), .val (.int p2), .val (.int p3), .val (.int p4), .val (.int (own_n p1)), .val (.int (own_pk p2)), .val (.int (own_pk p3)), .val (.int (own_pk p4)), .val (.ref b35), .val (.ref y37), .val (.int (((own_w2 (own_pk p2)) + (own_w2 (own_pk p3))) + (0 : Int32))), .val (.int (1 : Int32)), .val (.int (0 : Int32))] [(.int ((0 : Int32) + (own_w2 (own_pk p2))))]) _
   rw [own_p1]
   refine XS.istore X43.here hx rfl (hb hby at_274) rfl (l' := #[.val (.int p1), .val (.int p2), .val (.int p3), .val (.int p4), .val (.int (own_n p1)), .val (.int (own_pk p2)), .val (.int (own_pk p3)), .val (.int (own_pk p4)), .val (.ref b35), .val (.ref y37), .val (.int (((own_w2 (own_pk p2)) + (own_w2 (own_pk p3))) + (0 : Int32))), .val (.int (1 : Int32)), .val (.int (Int32.ofNat (own_e (own_pk p2) ++ [(own_pk p2)]).length))]) rfl ?_
   refine XS.iload X43.here hx rfl (hb hby at_276) rfl ?_
   refine XS.iconst X43.here hx rfl (hb hby at_278) ?_
   refine XS.icmpNo X43.here hx rfl (hb hby at_279) rfl (tlt (by rw [hn]; decide)).2.2.2 ?_
   refine XS.iload X43.here hx rfl (hb hby at_282) rfl ?_
   refine XS.ifNo X43.here hx rfl (hb hby at_284) rfl ((if0 _ _).trans (feq (by decide : ¬ ((1 : Int32) = (0 : Int32)))).1) ?_
   refine XS.aload X43.here hx rfl (hb hby at_287) rfl rfl ?_
   refine XS.iload X43.here hx rfl (hb hby at_289) rfl ?_
   refine XS.iload X43.here hx rfl (hb hby at_291) rfl ?_
   refine st45 _ ?_
   refine XS.ifNo X45.here hx rfl (hb hby at_296) rfl ((if0 _ _).trans (feq (by decide : ¬ ((1 : Int32) = (0 : Int32)))).1) ?_
   refine XS.iconst X45.here hx rfl (hb hby at_299) ?_
   refine XS.goto X45.here hx rfl (pc0 := 300) (pc' := 304) rfl (hb hby at_300) (by decide) (by decide) ?_
   refine XS.istore X45.here hx rfl (hb hby at_304) rfl (l' := #[.val (.int p1), .val (.int p2), .val (.int p3), .val (.int p4), .val (.int (own_n p1)), .val (.int (own_pk p2)), .val (.int (own_pk p3)), .val (.int (own_pk p4)), .val (.ref b35), .val (.ref y37), .val (.int (((own_w2 (own_pk p2)) + (own_w2 (own_pk p3))) + (0 : Int32))), .val (.int (1 : Int32)), .val (.int (Int32.ofNat (own_e (own_pk p2) ++ [(own_pk p2)]).length))]) rfl ?_
   refine XS.iload X45.here hx rfl (hb hby at_306) rfl ?_
   refine XS.iload X45.here hx rfl (hb hby at_308) rfl ?_
   refine st46 _ ?_
   refine XS.iadd X46.here hx rfl (hb hby at_313) rfl ?_
   show own_st p e below T46 (mkF m 314 #[.val (.int p1), .val (.int p2), .val (.int p3), .val (.int p4), .val (.int (own_n p1)), .val (.int (own_pk p2)), .val (.int (own_pk p3)), .val (.int (own_pk p4)), .val (.ref b35), .val (.ref y37), .val (.int (((own_w2 (own_pk p2)) + (own_w2 (own_pk p3))) + (0 : Int32))), .val (.int (1 : Int32)), .val (.int (Int32.ofNat (own_e (own_pk p2) ++ [(own_pk p2)]).length))] [(.int ((Int32.ofNat (own_e (own_pk p2) ++ [(own_pk p2)]).length) + (own_w2 (own_pk p3))))]) _
   rw [own_p2]
   refine XS.istore X46.here hx rfl (hb hby at_314) rfl (l' := #[.val (.int p1), .val (.int p2), .val (.int p3), .val (.int p4), .val (.int (own_n p1)), .val (.int (own_pk p2)), .val (.int (own_pk p3)), .val (.int (own_pk p4)), .val (.ref b35), .val (.ref y37), .val (.int (((own_w2 (own_pk p2)) + (own_w2 (own_pk p3))) + (0 : Int32))), .val (.int (1 : Int32)), .val (.int (Int32.ofNat ((own_e (own_pk p2) ++ [(own_pk p2)]) ++ (own_e (own_pk p3) ++ [(own_pk p3)])).length))]) rfl ?_
   refine XS.iload X46.here hx rfl (hb hby at_316) rfl ?_
   refine XS.iconst X46.here hx rfl (hb hby at_318) ?_
   refine XS.icmpYes X46.here hx rfl (pc0 := 319) (pc' := 346) rfl (hb hby at_319) rfl (flt (by rw [hn]; decide)).2.2.2 (by decide) (by decide) ?_
   refine XS.iload X46.here hx rfl (hb hby at_346) rfl ?_
   exact κ)
  obtain ⟨fs48, hr48, hrun48, hended48, hE48⟩ := X46.leaveW hS37 (by first | exact (Nat.le_refl _) | (rw [q46]; exact (Nat.le_refl _))) (v := some (.int (1 : Int32))) (fun h => by rw [Bd.returns] at h; cases h)
  refine ⟨_, _, hPs _ (pre47 _ ?_), hrun48, hended48, _, _, rfl, ?_, ?_, hE48.1, hE48.2.1, hE48.2.2.1, hE48.2.2.2.mono (by decide) (by decide)⟩
  ·show own_st p e below T46 (mkF m 348 #[.val (.int p1), .val (.int p2), .val (.int p3), .val (.int p4), .val (.int (own_n p1)), .val (.int (own_pk p2)), .val (.int (own_pk p3)), .val (.int (own_pk p4)), .val (.ref b35), .val (.ref y37), .val (.int (((own_w2 (own_pk p2)) + (own_w2 (own_pk p3))) + (0 : Int32))), .val (.int (1 : Int32)), .val (.int (Int32.ofNat ((own_e (own_pk p2) ++ [(own_pk p2)]) ++ (own_e (own_pk p3) ++ [(own_pk p3)])).length))] [(.int (1 : Int32))]) _
   exact retN X46 hx (t := .boolean) Bd.returns (by simp) (hb hby at_348) hr48
  ·show Q0 Z p1 p2 p3 p4 h0 n0 _ T46.heap _
   rw [q46]
   exact ⟨rfl, N46⟩
  ·show CHr Z own_EL s.vm s.heap T46.vm T46.heap
   rw [q46]
   rw [hh]
   exact CR37.trans (CHv.at X46 hZ37 hEL CH37)
 ·obtain ⟨T49, h49, k49, X49, e49, E49, A49, st49⟩ := newP (aty := .char) X8 hx hZ0 (wd9 hw) q8 (g := (mkF m 131 #[.val (.int p1), .val (.int p2), .val (.int p3), .val (.int p4), .val (.int (own_n p1)), .val (.int (own_pk p2)), .val (.int (own_pk p3)), .val (.int (own_pk p4)), .unset, .unset, .unset, .unset, .unset] [(.int (3 : Int32))])) rfl (hb hby at_131) rfl (by decide) (cap := 3) (by decide) (by decide) (by decide) (by decide)
  obtain ⟨b49, gb49⟩ : ∃ z, z = h0.size := ⟨_, rfl⟩
  rw [← gb49] at A49 st49
  have gn49 : n0 ≤ b49 := Nat.le_trans Z0 (Nat.le_of_eq gb49.symm)
  have sz49_b : h0.size ≤ b49 := Nat.le_trans (Keep.refl h0 []).1 (Nat.le_of_eq gb49.symm)
  have EN_49 := EN.ext E49
  have K49 := (Keep.refl h0 []).ext E49
  have V49 : Arv Z h49 b49 k49 .char (3 : Int32) [(.int (0 : Int32)), (.int (0 : Int32)), (.int (0 : Int32))] (.int (0 : Int32)) := (Arv.new A49 (by decide)).pad (pad_rep [] (.int (0 : Int32)) 3)
  have Vc50 := V49
  obtain ⟨cl50, Ar50, qq50, sz50, nn50, Ha50, Gf50⟩ := Vc50
  have hin50 : ¬ ((0 : Int32) < 0 ∨ cl50.slots.size ≤ ((0 : Int32)).toNatClampNeg) := inb_of sz50 ⟨by decide, by decide⟩
  obtain ⟨T51, h51, X51, e51, W51, st51⟩ := stC X49 hx hZ0 e49 Ar50 (j := (0 : Int32)) hin50 (g := (mkF m 140 #[.val (.int p1), .val (.int p2), .val (.int p3), .val (.int p4), .val (.int (own_n p1)), .val (.int (own_pk p2)), .val (.int (own_pk p3)), .val (.int (own_pk p4)), .unset, .val (.ref b49), .unset, .unset, .unset] [(.int (own_pk p2)), (.int (0 : Int32)), (.ref b49)])) rfl rfl (hb hby at_140)
  have N51 := Fr.snoc X51 N8 gn49
  have EN_51 := EN_49.wr W51 trivial
  have V49_51 := Arv.set Ar50 qq50 sz50 nn50 Ha50 Gf50 (fits_nar_char _) W51 0 rfl (Nat.le_of_ble_eq_true rfl)
  have K51 := K49.wr W51 (Or.inr sz49_b)
  have Vc52 := V49_51
  obtain ⟨cl52, Ar52, qq52, sz52, nn52, Ha52, Gf52⟩ := Vc52
  have hin52 : ¬ ((1 : Int32) < 0 ∨ cl52.slots.size ≤ ((1 : Int32)).toNatClampNeg) := inb_of sz52 ⟨by decide, by decide⟩
  obtain ⟨T53, h53, X53, e53, W53, st53⟩ := stC X51 hx hZ0 e51 Ar52 (j := (1 : Int32)) hin52 (g := (mkF m 146 #[.val (.int p1), .val (.int p2), .val (.int p3), .val (.int p4), .val (.int (own_n p1)), .val (.int (own_pk p2)), .val (.int (own_pk p3)), .val (.int (own_pk p4)), .unset, .val (.ref b49), .unset, .unset, .unset] [(.int (own_pk p3)), (.int (1 : Int32)), (.ref b49)])) rfl rfl (hb hby at_146)
  have N53 := Fr.snoc X53 N51 gn49
  have EN_53 := EN_51.wr W53 trivial
  have V49_53 := Arv.set Ar52 qq52 sz52 nn52 Ha52 Gf52 (fits_nar_char _) W53 1 rfl (Nat.le_of_ble_eq_true rfl)
  have K53 := K51.wr W53 (Or.inr sz49_b)
  have Vc54 := V49_53
  obtain ⟨cl54, Ar54, qq54, sz54, nn54, Ha54, Gf54⟩ := Vc54
  have hin54 : ¬ ((2 : Int32) < 0 ∨ cl54.slots.size ≤ ((2 : Int32)).toNatClampNeg) := inb_of sz54 ⟨by decide, by decide⟩
  obtain ⟨T55, h55, X55, e55, W55, st55⟩ := stC X53 hx hZ0 e53 Ar54 (j := (2 : Int32)) hin54 (g := (mkF m 152 #[.val (.int p1), .val (.int p2), .val (.int p3), .val (.int p4), .val (.int (own_n p1)), .val (.int (own_pk p2)), .val (.int (own_pk p3)), .val (.int (own_pk p4)), .unset, .val (.ref b49), .unset, .unset, .unset] [(.int (own_pk p4)), (.int (2 : Int32)), (.ref b49)])) rfl rfl (hb hby at_152)
  have N55 := Fr.snoc X55 N53 gn49
  have EN_55 := EN_53.wr W55 trivial
  have V49_55 := Arv.set Ar54 qq54 sz54 nn54 Ha54 Gf54 (fits_nar_char _) W55 2 rfl (Nat.le_of_ble_eq_true rfl)
  have K55 := K53.wr W55 (Or.inr sz49_b)
  obtain ⟨T56, h56, X56, e56, E56, A56, D56, -, st56⟩ := newO X55 hx hZ0 ho0 (wd6 hw) (wd7 hw) (wd8 hw) e55 (g := (mkF m 153 #[.val (.int p1), .val (.int p2), .val (.int p3), .val (.int p4), .val (.int (own_n p1)), .val (.int (own_pk p2)), .val (.int (own_pk p3)), .val (.int (own_pk p4)), .unset, .val (.ref b49), .unset, .unset, .unset] [])) rfl (hb hby at_153) (by decide) (by decide)
  obtain ⟨b56, gb56⟩ : ∃ z, z = h55.size := ⟨_, rfl⟩
  rw [← gb56] at A56 D56 st56
  have gn56 : n0 ≤ b56 := Nat.le_trans (Nat.le_trans (Nat.le_trans (Nat.le_trans (Nat.le_trans Z0 E49.1) (Nat.le_of_eq W51.size.symm)) (Nat.le_of_eq W53.size.symm)) (Nat.le_of_eq W55.size.symm)) (Nat.le_of_eq gb56.symm)
  have sz56_b : h0.size ≤ b56 := Nat.le_trans K55.1 (Nat.le_of_eq gb56.symm)
  have ne_b49_b56 : b49 ≠ b56 := Nat.ne_of_lt (Nat.lt_of_lt_of_le V49_55.lt (Nat.le_of_eq gb56.symm))
  have EN_56 := EN_55.ext E56
  have V49_56 := V49_55.ext E56
  have K56 := K55.ext E56
  have F_value_b56 : Fld Z h56 b56 "java/lang/String" "value" "[B" .null := D56 (Or.inr (wd22 hw)) (ty := (.array .byte)) (by decide)
  have F_coder_b56 : Fld Z h56 b56 "java/lang/String" "coder" "B" (.int (0 : Int32)) := D56 (Or.inr (wd23 hw)) (ty := .byte) (by decide)
  have Kc : Arv Z h56 b49 k49 .char (3 : Int32) ([nar .char (own_pk p2), nar .char (own_pk p3), nar .char (own_pk p4)].map Value.int) (.int 0) := V49_56
  rw [own_nar (own_pkb p2), own_nar (own_pkb p3), own_nar (own_pkb p4)] at Kc
  obtain ⟨_, T57, Lc57, X57, hQ57, st57⟩ := own_cI X56 hx hZ0 (y := own_z1) rfl ho0 (wd10 hw) (wd11 hw) (wd12 hw) (wd8 hw) (by decide) (rmw13 l Z a0 hw [] b56 b49 k49 (own_pk p2) (own_pk p3) (own_pk p4) h56 n0 (Nat.le_trans (Nat.le_trans (Nat.le_trans (Nat.le_trans (Nat.le_trans Z0 E49.1) (Nat.le_of_eq W51.size.symm)) (Nat.le_of_eq W53.size.symm)) (Nat.le_of_eq W55.size.symm)) E56.1) F_value_b56 F_coder_b56 A56 gn56 Kc EN_56 (own_pkb p2) (own_pkb p3) (own_pkb p4)) 1 (by decide) (g := (mkF m 159 #[.val (.int p1), .val (.int p2), .val (.int p3), .val (.int p4), .val (.int (own_n p1)), .val (.int (own_pk p2)), .val (.int (own_pk p3)), .val (.int (own_pk p4)), .unset, .val (.ref b49), .unset, .unset, .unset] [(.ref b49), (.ref b56), (.ref b56)])) rfl hml.symm b56 [(.ref b49)] [(.ref b56)] (lenOf pd_w11 rfl) rfl rfl (hb hby at_159) e56 rfl
  obtain ⟨rfl, N57q, Kp57, cd57, S57⟩ := hQ57
  have N57 := Fr.app N55 N57q
  have EN_57 := EN_56.keep Kp57 A56.nostat
  have K57 := K56.trans Kp57 (fun x hx => by cases List.mem_singleton.mp hx; exact Or.inr sz56_b)
  obtain ⟨_, _, ⟨T58, L58, k58, n58⟩, -, Y58, hSq58, hgq58, ⟨Lc58, hQ58, l58, y58, z58, CQ58⟩, st58⟩ := callSS X57 hx (y := own_z4) ho0 (mvT hZ0 (wd28 hw)) (mvT hZ0 (wd29 hw)) (mvT hZ0 (wd30 hw)) (mvT hZ0 (wd31 hw)) (by decide) (backOfSH (W := 0) (rmlit3 l Z a0 hw [] b56 cd57 (own_pk p2) (own_pk p3) (own_pk p4) T57.heap n0 (Nat.le_trans (Nat.le_trans (Nat.le_trans (Nat.le_trans (Nat.le_trans (Nat.le_trans Z0 E49.1) (Nat.le_of_eq W51.size.symm)) (Nat.le_of_eq W53.size.symm)) (Nat.le_of_eq W55.size.symm)) E56.1) Kp57.1) S57 EN_57 (own_pkb p2) (own_pkb p3) (own_pkb p4)) hZ0 (wd31 hw) (wd30 hw) (by decide) (by decide) hEL (CHv.ext (own_ext K57) hCH)) (g := (mkF m 166 #[.val (.int p1), .val (.int p2), .val (.int p3), .val (.int p4), .val (.int (own_n p1)), .val (.int (own_pk p2)), .val (.int (own_pk p3)), .val (.int (own_pk p4)), .val (.ref b56), .val (.ref b49), .unset, .unset, .unset] [(.ref b56)])) rfl hml.symm (argsL := [(.ref b56)]) (rest := []) (lenOf pd_lit0 rfl) rfl (by show 2 * 0 + _ ≤ _; exact Nat.le_of_eq rfl) (hb hby at_166) (fun _ _ => ⟨rfl, rfl, (by decide : 4 + 22 ≤ _), (by decide : 16 + 279 ≤ _)⟩)
  dsimp only [Pt.U, Pt.locs, Pt.cells, Pt.slots] at Y58 hSq58 hgq58 l58 y58 z58 st58 hQ58 CQ58
  subst l58 y58 z58
  obtain ⟨X58, hS58, hZ58, ho58⟩ := rebS hS0 (by first | exact K57.1 | (rw [rfl]; exact K57.1)) Y58 hSq58 hgq58 hZ0 ho0
  obtain ⟨y58, rfl, N58q, Kp58, cd58, S58⟩ := hQ58
  have N58 := Fr.app N57 N58q
  have CR58 := (CHr.ext (own_ext K57) hCH).trans CQ58
  have CH58 := CQ58.1
  have EN58 := EN_57.ext (own_ext Kp58)
  have Sy := S58
  obtain ⟨_, _, _, _, Ey, -⟩ := Sy
  have hes := own_elen (own_pk p2) (own_pk p3) (own_pk p4)
  obtain ⟨_, T59, Lc59, X59, hQ59, st59⟩ := own_cS X58 hx hZ58 (y := own_z38) ho58 (wd186 hw) (wd187 hw) (wd2 hw) (wd188 hw) (by decide) (rmw l Z a0 hw [] (own_pk p2) T58.heap n0 (Nat.le_trans (Nat.le_trans (Nat.le_trans (Nat.le_trans (Nat.le_trans (Nat.le_trans (Nat.le_trans Z0 E49.1) (Nat.le_of_eq W51.size.symm)) (Nat.le_of_eq W53.size.symm)) (Nat.le_of_eq W55.size.symm)) E56.1) Kp57.1) Kp58.1)) 0 (by decide) (g := (mkF m 178 #[.val (.int p1), .val (.int p2), .val (.int p3), .val (.int p4), .val (.int (own_n p1)), .val (.int (own_pk p2)), .val (.int (own_pk p3)), .val (.int (own_pk p4)), .val (.ref b56), .val (.ref y58), .unset, .unset, .unset] [(.int (own_pk p2))])) rfl hml.symm [(.int (own_pk p2))] [] (lenOf pd_w rfl) rfl rfl (hb hby at_178) rfl rfl
  obtain ⟨rfl, N59q, q59⟩ := hQ59
  have N59 := Fr.app N58 N59q
  obtain ⟨_, T60, Lc60, X60, hQ60, st60⟩ := own_cS X59 hx hZ58 (y := own_z38) ho58 (wd186 hw) (wd187 hw) (wd2 hw) (wd188 hw) (by decide) (rmw l Z a0 hw [] (own_pk p3) T58.heap n0 (Nat.le_trans (Nat.le_trans (Nat.le_trans (Nat.le_trans (Nat.le_trans (Nat.le_trans (Nat.le_trans Z0 E49.1) (Nat.le_of_eq W51.size.symm)) (Nat.le_of_eq W53.size.symm)) (Nat.le_of_eq W55.size.symm)) E56.1) Kp57.1) Kp58.1)) 1 (by decide) (g := (mkF m 193 #[.val (.int p1), .val (.int p2), .val (.int p3), .val (.int p4), .val (.int (own_n p1)), .val (.int (own_pk p2)), .val (.int (own_pk p3)), .val (.int (own_pk p4)), .val (.ref b56), .val (.ref y58), .unset, .unset, .unset] [(.int (own_pk p3)), (.int (own_w2 (own_pk p2)))])) rfl hml.symm [(.int (own_pk p3))] [(.int (own_w2 (own_pk p2)))] (lenOf pd_w rfl) rfl rfl (hb hby at_193) q59 rfl
  obtain ⟨rfl, N60q, q60⟩ := hQ60
  have N60 := Fr.app N59 N60q
  obtain ⟨_, T61, Lc61, X61, hQ61, st61⟩ := own_cS X60 hx hZ58 (y := own_z38) ho58 (wd186 hw) (wd187 hw) (wd2 hw) (wd188 hw) (by decide) (rmw l Z a0 hw [] (own_pk p4) T58.heap n0 (Nat.le_trans (Nat.le_trans (Nat.le_trans (Nat.le_trans (Nat.le_trans (Nat.le_trans (Nat.le_trans Z0 E49.1) (Nat.le_of_eq W51.size.symm)) (Nat.le_of_eq W53.size.symm)) (Nat.le_of_eq W55.size.symm)) E56.1) Kp57.1) Kp58.1)) 1 (by decide) (g := (mkF m 209 #[.val (.int p1), .val (.int p2), .val (.int p3), .val (.int p4), .val (.int (own_n p1)), .val (.int (own_pk p2)), .val (.int (own_pk p3)), .val (.int (own_pk p4)), .val (.ref b56), .val (.ref y58), .unset, .unset, .unset] [(.int (own_pk p4)), (.int ((own_w2 (own_pk p2)) + (own_w2 (own_pk p3))))])) rfl hml.symm [(.int (own_pk p4))] [(.int ((own_w2 (own_pk p2)) + (own_w2 (own_pk p3))))] (lenOf pd_w rfl) rfl rfl (hb hby at_209) q60 rfl
  obtain ⟨rfl, N61q, q61⟩ := hQ61
  have N61 := Fr.app N60 N61q
  obtain ⟨_, T62, Lc62, X62, hQ62, st62⟩ := own_cV X61 hx hZ58 (y := own_z5) (z := own_z5) ho58 (wd107 hw) (wd36 hw) (wd38 hw) rfl (wd38 hw) (wd37 hw) (wd39 hw) (wd8 hw) (by decide) (rmsl l Z a0 hw [] y58 (own_esc [(own_pk p2), (own_pk p3), (own_pk p4)]) cd58 T58.heap n0 (Nat.le_trans (Nat.le_trans (Nat.le_trans (Nat.le_trans (Nat.le_trans (Nat.le_trans (Nat.le_trans Z0 E49.1) (Nat.le_of_eq W51.size.symm)) (Nat.le_of_eq W53.size.symm)) (Nat.le_of_eq W55.size.symm)) E56.1) Kp57.1) Kp58.1) S58 EN58 hes.2.2.2) Ey 0 (by decide) (g := (mkF m 221 #[.val (.int p1), .val (.int p2), .val (.int p3), .val (.int p4), .val (.int (own_n p1)), .val (.int (own_pk p2)), .val (.int (own_pk p3)), .val (.int (own_pk p4)), .val (.ref b56), .val (.ref y58), .val (.int (((own_w2 (own_pk p2)) + (own_w2 (own_pk p3))) + (own_w2 (own_pk p4)))), .unset, .unset] [(.ref y58)])) rfl hml.symm [] [] (lenOf pd_sl rfl) rfl rfl (hb hby at_221) q61 rfl
  obtain ⟨rfl, N62q, q62⟩ := hQ62
  have N62 := Fr.app N61 N62q
  have eA63 : (own_esc [(own_pk p2), (own_pk p3), (own_pk p4)]) = ([] ++ (own_e (own_pk p2) ++ (own_pk p2) :: (own_esc [(own_pk p3), (own_pk p4)]))) := by simp [own_esc]
  have SA63 := S58
  rw [eA63] at SA63
  have hA63 := hes.2.2.2
  rw [eA63] at hA63
  obtain ⟨_, T64, Lc64, X64, hQ64, st64⟩ := own_cS X62 hx hZ58 (y := own_z40) ho58 (wd192 hw) (wd193 hw) (wd2 hw) (wd194 hw) (by decide) (rmat l Z a0 hw [] y58 [] (own_esc [(own_pk p3), (own_pk p4)]) cd58 (own_pk p2) T58.heap n0 (Nat.le_trans (Nat.le_trans (Nat.le_trans (Nat.le_trans (Nat.le_trans (Nat.le_trans (Nat.le_trans Z0 E49.1) (Nat.le_of_eq W51.size.symm)) (Nat.le_of_eq W53.size.symm)) (Nat.le_of_eq W55.size.symm)) E56.1) Kp57.1) Kp58.1) SA63 EN58 hA63 (own_pkb p2)) 0 (by decide) (g := (mkF m 253 #[.val (.int p1), .val (.int p2), .val (.int p3), .val (.int p4), .val (.int (own_n p1)), .val (.int (own_pk p2)), .val (.int (own_pk p3)), .val (.int (own_pk p4)), .val (.ref b56), .val (.ref y58), .val (.int (((own_w2 (own_pk p2)) + (own_w2 (own_pk p3))) + (own_w2 (own_pk p4)))), .val (.int (1 : Int32)), .val (.int (0 : Int32))] [(.int (own_pk p2)), (.int (0 : Int32)), (.ref y58)])) rfl hml.symm [(.ref y58), (.int (0 : Int32)), (.int (own_pk p2))] [] (lenOf pd_at rfl) rfl rfl (hb hby at_253) q62 rfl
  obtain ⟨rfl, N64q, q64⟩ := hQ64
  have N64 := Fr.app N62 N64q
  obtain ⟨_, T65, Lc65, X65, hQ65, st65⟩ := own_cS X64 hx hZ58 (y := own_z38) ho58 (wd186 hw) (wd187 hw) (wd2 hw) (wd188 hw) (by decide) (rmw l Z a0 hw [] (own_pk p2) T58.heap n0 (Nat.le_trans (Nat.le_trans (Nat.le_trans (Nat.le_trans (Nat.le_trans (Nat.le_trans (Nat.le_trans Z0 E49.1) (Nat.le_of_eq W51.size.symm)) (Nat.le_of_eq W53.size.symm)) (Nat.le_of_eq W55.size.symm)) E56.1) Kp57.1) Kp58.1)) 1 (by decide) (g := (mkF m 270 #[.val (.int p1), .val (.int p2), .val (.int p3), .val (.int p4), .val (.int (own_n p1)), .val (.int (own_pk p2)), .val (.int (own_pk p3)), .val (.int (own_pk p4)), .val (.ref b56), .val (.ref y58), .val (.int (((own_w2 (own_pk p2)) + (own_w2 (own_pk p3))) + (own_w2 (own_pk p4)))), .val (.int (1 : Int32)), .val (.int (0 : Int32))] [(.int (own_pk p2)), (.int (0 : Int32))])) rfl hml.symm [(.int (own_pk p2))] [(.int (0 : Int32))] (lenOf pd_w rfl) rfl rfl (hb hby at_270) q64 rfl
  obtain ⟨rfl, N65q, q65⟩ := hQ65
  have N65 := Fr.app N64 N65q
  have eA66 : (own_esc [(own_pk p2), (own_pk p3), (own_pk p4)]) = ((own_e (own_pk p2) ++ [(own_pk p2)]) ++ (own_e (own_pk p3) ++ (own_pk p3) :: (own_esc [(own_pk p4)]))) := by simp [own_esc]
  have SA66 := S58
  rw [eA66] at SA66
  have hA66 := hes.2.2.2
  rw [eA66] at hA66
  obtain ⟨_, T67, Lc67, X67, hQ67, st67⟩ := own_cS X65 hx hZ58 (y := own_z40) ho58 (wd192 hw) (wd193 hw) (wd2 hw) (wd194 hw) (by decide) (rmat l Z a0 hw [] y58 (own_e (own_pk p2) ++ [(own_pk p2)]) (own_esc [(own_pk p4)]) cd58 (own_pk p3) T58.heap n0 (Nat.le_trans (Nat.le_trans (Nat.le_trans (Nat.le_trans (Nat.le_trans (Nat.le_trans (Nat.le_trans Z0 E49.1) (Nat.le_of_eq W51.size.symm)) (Nat.le_of_eq W53.size.symm)) (Nat.le_of_eq W55.size.symm)) E56.1) Kp57.1) Kp58.1) SA66 EN58 hA66 (own_pkb p3)) 0 (by decide) (g := (mkF m 293 #[.val (.int p1), .val (.int p2), .val (.int p3), .val (.int p4), .val (.int (own_n p1)), .val (.int (own_pk p2)), .val (.int (own_pk p3)), .val (.int (own_pk p4)), .val (.ref b56), .val (.ref y58), .val (.int (((own_w2 (own_pk p2)) + (own_w2 (own_pk p3))) + (own_w2 (own_pk p4)))), .val (.int (1 : Int32)), .val (.int (Int32.ofNat (own_e (own_pk p2) ++ [(own_pk p2)]).length))] [(.int (own_pk p3)), (.int (Int32.ofNat (own_e (own_pk p2) ++ [(own_pk p2)]).length)), (.ref y58)])) rfl hml.symm [(.ref y58), (.int (Int32.ofNat (own_e (own_pk p2) ++ [(own_pk p2)]).length)), (.int (own_pk p3))] [] (lenOf pd_at rfl) rfl rfl (hb hby at_293) q65 rfl
  obtain ⟨rfl, N67q, q67⟩ := hQ67
  have N67 := Fr.app N65 N67q
  obtain ⟨_, T68, Lc68, X68, hQ68, st68⟩ := own_cS X67 hx hZ58 (y := own_z38) ho58 (wd186 hw) (wd187 hw) (wd2 hw) (wd188 hw) (by decide) (rmw l Z a0 hw [] (own_pk p3) T58.heap n0 (Nat.le_trans (Nat.le_trans (Nat.le_trans (Nat.le_trans (Nat.le_trans (Nat.le_trans (Nat.le_trans Z0 E49.1) (Nat.le_of_eq W51.size.symm)) (Nat.le_of_eq W53.size.symm)) (Nat.le_of_eq W55.size.symm)) E56.1) Kp57.1) Kp58.1)) 1 (by decide) (g := (mkF m 310 #[.val (.int p1), .val (.int p2), .val (.int p3), .val (.int p4), .val (.int (own_n p1)), .val (.int (own_pk p2)), .val (.int (own_pk p3)), .val (.int (own_pk p4)), .val (.ref b56), .val (.ref y58), .val (.int (((own_w2 (own_pk p2)) + (own_w2 (own_pk p3))) + (own_w2 (own_pk p4)))), .val (.int (1 : Int32)), .val (.int (Int32.ofNat (own_e (own_pk p2) ++ [(own_pk p2)]).length))] [(.int (own_pk p3)), (.int (Int32.ofNat (own_e (own_pk p2) ++ [(own_pk p2)]).length))])) rfl hml.symm [(.int (own_pk p3))] [(.int (Int32.ofNat (own_e (own_pk p2) ++ [(own_pk p2)]).length))] (lenOf pd_w rfl) rfl rfl (hb hby at_310) q67 rfl
  obtain ⟨rfl, N68q, q68⟩ := hQ68
  have N68 := Fr.app N67 N68q
  have eA69 : (own_esc [(own_pk p2), (own_pk p3), (own_pk p4)]) = (((own_e (own_pk p2) ++ [(own_pk p2)]) ++ (own_e (own_pk p3) ++ [(own_pk p3)])) ++ (own_e (own_pk p4) ++ (own_pk p4) :: (own_esc []))) := by simp [own_esc]
  have SA69 := S58
  rw [eA69] at SA69
  have hA69 := hes.2.2.2
  rw [eA69] at hA69
  obtain ⟨_, T70, Lc70, X70, hQ70, st70⟩ := own_cS X68 hx hZ58 (y := own_z40) ho58 (wd192 hw) (wd193 hw) (wd2 hw) (wd194 hw) (by decide) (rmat l Z a0 hw [] y58 ((own_e (own_pk p2) ++ [(own_pk p2)]) ++ (own_e (own_pk p3) ++ [(own_pk p3)])) (own_esc []) cd58 (own_pk p4) T58.heap n0 (Nat.le_trans (Nat.le_trans (Nat.le_trans (Nat.le_trans (Nat.le_trans (Nat.le_trans (Nat.le_trans Z0 E49.1) (Nat.le_of_eq W51.size.symm)) (Nat.le_of_eq W53.size.symm)) (Nat.le_of_eq W55.size.symm)) E56.1) Kp57.1) Kp58.1) SA69 EN58 hA69 (own_pkb p4)) 0 (by decide) (g := (mkF m 333 #[.val (.int p1), .val (.int p2), .val (.int p3), .val (.int p4), .val (.int (own_n p1)), .val (.int (own_pk p2)), .val (.int (own_pk p3)), .val (.int (own_pk p4)), .val (.ref b56), .val (.ref y58), .val (.int (((own_w2 (own_pk p2)) + (own_w2 (own_pk p3))) + (own_w2 (own_pk p4)))), .val (.int (1 : Int32)), .val (.int (Int32.ofNat ((own_e (own_pk p2) ++ [(own_pk p2)]) ++ (own_e (own_pk p3) ++ [(own_pk p3)])).length))] [(.int (own_pk p4)), (.int (Int32.ofNat ((own_e (own_pk p2) ++ [(own_pk p2)]) ++ (own_e (own_pk p3) ++ [(own_pk p3)])).length)), (.ref y58)])) rfl hml.symm [(.ref y58), (.int (Int32.ofNat ((own_e (own_pk p2) ++ [(own_pk p2)]) ++ (own_e (own_pk p3) ++ [(own_pk p3)])).length)), (.int (own_pk p4))] [] (lenOf pd_at rfl) rfl rfl (hb hby at_333) q68 rfl
  obtain ⟨rfl, N70q, q70⟩ := hQ70
  have N70 := Fr.app N68 N70q
  have pre71 : own_pr p e below PP T70 (mkF m 348 #[.val (.int p1), .val (.int p2), .val (.int p3), .val (.int p4), .val (.int (own_n p1)), .val (.int (own_pk p2)), .val (.int (own_pk p3)), .val (.int (own_pk p4)), .val (.ref b56), .val (.ref y58), .val (.int (((own_w2 (own_pk p2)) + (own_w2 (own_pk p3))) + (own_w2 (own_pk p4)))), .val (.int (1 : Int32)), .val (.int (Int32.ofNat ((own_e (own_pk p2) ++ [(own_pk p2)]) ++ (own_e (own_pk p3) ++ [(own_pk p3)])).length))] [(.int (1 : Int32))]) := fun τ κ => pre9 τ (by
   show own_st p e below T8 (mkF m 42 #[.val (.int p1), .val (.int p2), .val (.int p3), .val (.int p4), .val (.int (own_n p1)), .val (.int (own_pk p2)), .val (.int (own_pk p3)), .val (.int (own_pk p4)), .unset, .unset, .unset, .unset, .unset] []) _
   refine XS.iload X8.here hx rfl (hb hby at_42) rfl ?_
   refine XS.ifYes X8.here hx rfl (pc0 := 44) (pc' := 62) rfl (hb hby at_44) rfl ((if0 _ _).trans (feq (by rw [hn]; decide)).2) (by decide) (by decide) ?_
   refine XS.iload X8.here hx rfl (hb hby at_62) rfl ?_
   refine XS.iconst X8.here hx rfl (hb hby at_64) ?_
   refine XS.icmpYes X8.here hx rfl (pc0 := 65) (pc' := 93) rfl (hb hby at_65) rfl (feq (by rw [hn]; decide)).2 (by decide) (by decide) ?_
   refine XS.iload X8.here hx rfl (hb hby at_93) rfl ?_
   refine XS.iconst X8.here hx rfl (hb hby at_95) ?_
   refine XS.icmpYes X8.here hx rfl (pc0 := 96) (pc' := 130) rfl (hb hby at_96) rfl (feq (by rw [hn]; decide)).2 (by decide) (by decide) ?_
   refine XS.iconst X8.here hx rfl (hb hby at_130) ?_
   refine st49 _ ?_
   refine XS.astore X49.here hx rfl (hb hby at_133) rfl rfl (l' := #[.val (.int p1), .val (.int p2), .val (.int p3), .val (.int p4), .val (.int (own_n p1)), .val (.int (own_pk p2)), .val (.int (own_pk p3)), .val (.int (own_pk p4)), .unset, .val (.ref b49), .unset, .unset, .unset]) rfl ?_
   refine XS.aload X49.here hx rfl (hb hby at_135) rfl rfl ?_
   refine XS.iconst X49.here hx rfl (hb hby at_137) ?_
   refine XS.iload X49.here hx rfl (hb hby at_138) rfl ?_
   refine st51 _ ?_
   refine XS.aload X51.here hx rfl (hb hby at_141) rfl rfl ?_
   refine XS.iconst X51.here hx rfl (hb hby at_143) ?_
   refine XS.iload X51.here hx rfl (hb hby at_144) rfl ?_
   refine st53 _ ?_
   refine XS.aload X53.here hx rfl (hb hby at_147) rfl rfl ?_
   refine XS.iconst X53.here hx rfl (hb hby at_149) ?_
   refine XS.iload X53.here hx rfl (hb hby at_150) rfl ?_
   refine st55 _ ?_
   refine st56 _ ?_
   refine XS.dup X56.here hx rfl (hb hby at_156) rfl rfl ?_
   refine XS.aload X56.here hx rfl (hb hby at_157) rfl rfl ?_
   refine st57 _ ?_
   refine XS.astore X57.here hx rfl (hb hby at_162) rfl rfl (l' := #[.val (.int p1), .val (.int p2), .val (.int p3), .val (.int p4), .val (.int (own_n p1)), .val (.int (own_pk p2)), .val (.int (own_pk p3)), .val (.int (own_pk p4)), .val (.ref b56), .val (.ref b49), .unset, .unset, .unset]) rfl ?_
   refine XS.aload X57.here hx rfl (hb hby at_164) rfl rfl ?_
   refine st58.trans ?_
   refine XS.astore X58.here hx rfl (hb hby at_169) rfl rfl (l' := #[.val (.int p1), .val (.int p2), .val (.int p3), .val (.int p4), .val (.int (own_n p1)), .val (.int (own_pk p2)), .val (.int (own_pk p3)), .val (.int (own_pk p4)), .val (.ref b56), .val (.ref y58), .unset, .unset, .unset]) rfl ?_
   refine XS.iload X58.here hx rfl (hb hby at_171) rfl ?_
   refine XS.ifNo X58.here hx rfl (hb hby at_173) rfl ((if0 _ _).trans (tlt (by rw [hn]; decide)).2.2.2) ?_
   refine XS.iload X58.here hx rfl (hb hby at_176) rfl ?_
   refine st59 _ ?_
   refine XS.goto X59.here hx rfl (pc0 := 181) (pc' := 185) rfl (hb hby at_181) (by decide) (by decide) ?_
   refine XS.iload X59.here hx rfl (hb hby at_185) rfl ?_
   refine XS.iconst X59.here hx rfl (hb hby at_187) ?_
   refine XS.icmpNo X59.here hx rfl (hb hby at_188) rfl (tlt (by rw [hn]; decide)).2.2.2 ?_
   refine XS.iload X59.here hx rfl (hb hby at_191) rfl ?_
   refine st60 _ ?_
   refine XS.goto X60.here hx rfl (pc0 := 196) (pc' := 200) rfl (hb hby at_196) (by decide) (by decide) ?_
   refine XS.iadd X60.here hx rfl (hb hby at_200) rfl ?_
   refine XS.iload X60.here hx rfl (hb hby at_201) rfl ?_
   refine XS.iconst X60.here hx rfl (hb hby at_203) ?_
   refine XS.icmpNo X60.here hx rfl (hb hby at_204) rfl (tlt (by rw [hn]; decide)).2.2.2 ?_
   refine XS.iload X60.here hx rfl (hb hby at_207) rfl ?_
   refine st61 _ ?_
   refine XS.goto X61.here hx rfl (pc0 := 212) (pc' := 216) rfl (hb hby at_212) (by decide) (by decide) ?_
   refine XS.iadd X61.here hx rfl (hb hby at_216) rfl ?_
   refine XS.istore X61.here hx rfl (hb hby at_217) rfl (l' := #[.val (.int p1), .val (.int p2), .val (.int p3), .val (.int p4), .val (.int (own_n p1)), .val (.int (own_pk p2)), .val (.int (own_pk p3)), .val (.int (own_pk p4)), .val (.ref b56), .val (.ref y58), .val (.int (((own_w2 (own_pk p2)) + (own_w2 (own_pk p3))) + (own_w2 (own_pk p4)))), .unset, .unset]) rfl ?_
   refine XS.aload X61.here hx rfl (hb hby at_219) rfl rfl ?_
   refine st62 _ ?_
   refine XS.iload X62.here hx rfl (hb hby at_224) rfl ?_
   refine XS.icmpYes X62.here hx rfl (pc0 := 226) (pc' := 231) rfl (hb hby at_226) rfl (teq (own_q3 (own_pk p2) (own_pk p3) (own_pk p4))).1 (by decide) (by decide) ?_
   refine XS.iconst X62.here hx rfl (hb hby at_231) ?_
   refine XS.istore X62.here hx rfl (hb hby at_232) rfl (l' := #[.val (.int p1), .val (.int p2), .val (.int p3), .val (.int p4), .val (.int (own_n p1)), .val (.int (own_pk p2)), .val (.int (own_pk p3)), .val (.int (own_pk p4)), .val (.ref b56), .val (.ref y58), .val (.int (((own_w2 (own_pk p2)) + (own_w2 (own_pk p3))) + (own_w2 (own_pk p4)))), .val (.int (1 : Int32)), .unset]) rfl ?_
   refine XS.iconst X62.here hx rfl (hb hby at_234) ?_
   refine XS.istore X62.here hx rfl (hb hby at_235) rfl (l' := #[.val (.int p1), .val (.int p2), .val (.int p3), .val (.int p4), .val (.int (own_n p1)), .val (.int (own_pk p2)), .val (.int (own_pk p3)), .val (.int (own_pk p4)), .val (.ref b56), .val (.ref y58), .val (.int (((own_w2 (own_pk p2)) + (own_w2 (own_pk p3))) + (own_w2 (own_pk p4)))), .val (.int (1 : Int32)), .val (.int (0 : Int32))]) rfl ?_
   refine XS.iload X62.here hx rfl (hb hby at_237) rfl ?_
   refine XS.ifNo X62.here hx rfl (hb hby at_239) rfl ((if0 _ _).trans (tlt (by rw [hn]; decide)).2.2.2) ?_
   refine XS.iload X62.here hx rfl (hb hby at_242) rfl ?_
   refine XS.ifNo X62.here hx rfl (hb hby at_244) rfl ((if0 _ _).trans (feq (by decide : ¬ ((1 : Int32) = (0 : Int32)))).1) ?_
   refine XS.aload X62.here hx rfl (hb hby at_247) rfl rfl ?_
   refine XS.iload X62.here hx rfl (hb hby at_249) rfl ?_
   refine XS.iload X62.here hx rfl (hb hby at_251) rfl ?_
   refine st64 _ ?_
   refine XS.ifNo X64.here hx rfl (hb hby at_256) rfl ((if0 _ _).trans (feq (by decide : ¬ ((1 : Int32) = (0 : Int32)))).1) ?_
   refine XS.iconst X64.here hx rfl (hb hby at_259) ?_
   refine XS.goto X64.here hx rfl (pc0 := 260) (pc' := 264) rfl (hb hby at_260) (by decide) (by decide) ?_
   refine XS.istore X64.here hx rfl (hb hby at_264) rfl (l' := #[.val (.int p1), .val (.int p2), .val (.int p3), .val (.int p4), .val (.int (own_n p1)), .val (.int (own_pk p2)), .val (.int (own_pk p3)), .val (.int (own_pk p4)), .val (.ref b56), .val (.ref y58), .val (.int (((own_w2 (own_pk p2)) + (own_w2 (own_pk p3))) + (own_w2 (own_pk p4)))), .val (.int (1 : Int32)), .val (.int (0 : Int32))]) rfl ?_
   refine XS.iload X64.here hx rfl (hb hby at_266) rfl ?_
   refine XS.iload X64.here hx rfl (hb hby at_268) rfl ?_
   refine st65 _ ?_
   refine XS.iadd X65.here hx rfl (hb hby at_273) rfl ?_
   show own_st p e below T65 (mkF m 274 #[.val (.int p1), .val (.int p2), .val (.int p3), .val (.int p4), .val (.int (own_n p1)), .val (.int (own_pk p2)), .val (.int (own_pk p3)), .val (.int (own_pk p4)), .val (.ref b56), .val (.ref y58), .val (.int (((own_w2 (own_pk p2)) + (own_w2 (own_pk p3))) + (own_w2 (own_pk p4)))), .val (.int (1 : Int32)), .val (.int (0 : Int32))] [(.int ((0 : Int32) + (own_w2 (own_pk p2))))]) _
   rw [own_p1]
   refine XS.istore X65.here hx rfl (hb hby at_274) rfl (l' := #[.val (.int p1), .val (.int p2), .val (.int p3), .val (.int p4), .val (.int (own_n p1)), .val (.int (own_pk p2)), .val (.int (own_pk p3)), .val (.int (own_pk p4)), .val (.ref b56), .val (.ref y58), .val (.int (((own_w2 (own_pk p2)) + (own_w2 (own_pk p3))) + (own_w2 (own_pk p4)))), .val (.int (1 : Int32)), .val (.int (Int32.ofNat (own_e (own_pk p2) ++ [(own_pk p2)]).length))]) rfl ?_
   refine XS.iload X65.here hx rfl (hb hby at_276) rfl ?_
   refine XS.iconst X65.here hx rfl (hb hby at_278) ?_
   refine XS.icmpNo X65.here hx rfl (hb hby at_279) rfl (tlt (by rw [hn]; decide)).2.2.2 ?_
   refine XS.iload X65.here hx rfl (hb hby at_282) rfl ?_
   refine XS.ifNo X65.here hx rfl (hb hby at_284) rfl ((if0 _ _).trans (feq (by decide : ¬ ((1 : Int32) = (0 : Int32)))).1) ?_
   refine XS.aload X65.here hx rfl (hb hby at_287) rfl rfl ?_
   refine XS.iload X65.here hx rfl (hb hby at_289) rfl ?_
   refine XS.iload X65.here hx rfl (hb hby at_291) rfl ?_
   refine st67 _ ?_
   refine XS.ifNo X67.here hx rfl (hb hby at_296) rfl ((if0 _ _).trans (feq (by decide : ¬ ((1 : Int32) = (0 : Int32)))).1) ?_
   refine XS.iconst X67.here hx rfl (hb hby at_299) ?_
   refine XS.goto X67.here hx rfl (pc0 := 300) (pc' := 304) rfl (hb hby at_300) (by decide) (by decide) ?_
   refine XS.istore X67.here hx rfl (hb hby at_304) rfl (l' := #[.val (.int p1), .val (.int p2), .val (.int p3), .val (.int p4), .val (.int (own_n p1)), .val (.int (own_pk p2)), .val (.int (own_pk p3)), .val (.int (own_pk p4)), .val (.ref b56), .val (.ref y58), .val (.int (((own_w2 (own_pk p2)) + (own_w2 (own_pk p3))) + (own_w2 (own_pk p4)))), .val (.int (1 : Int32)), .val (.int (Int32.ofNat (own_e (own_pk p2) ++ [(own_pk p2)]).length))]) rfl ?_
   refine XS.iload X67.here hx rfl (hb hby at_306) rfl ?_
   refine XS.iload X67.here hx rfl (hb hby at_308) rfl ?_
   refine st68 _ ?_
   refine XS.iadd X68.here hx rfl (hb hby at_313) rfl ?_
   show own_st p e below T68 (mkF m 314 #[.val (.int p1), .val (.int p2), .val (.int p3), .val (.int p4), .val (.int (own_n p1)), .val (.int (own_pk p2)), .val (.int (own_pk p3)), .val (.int (own_pk p4)), .val (.ref b56), .val (.ref y58), .val (.int (((own_w2 (own_pk p2)) + (own_w2 (own_pk p3))) + (own_w2 (own_pk p4)))), .val (.int (1 : Int32)), .val (.int (Int32.ofNat (own_e (own_pk p2) ++ [(own_pk p2)]).length))] [(.int ((Int32.ofNat (own_e (own_pk p2) ++ [(own_pk p2)]).length) + (own_w2 (own_pk p3))))]) _
   rw [own_p2]
   refine XS.istore X68.here hx rfl (hb hby at_314) rfl (l' := #[.val (.int p1), .val (.int p2), .val (.int p3), .val (.int p4), .val (.int (own_n p1)), .val (.int (own_pk p2)), .val (.int (own_pk p3)), .val (.int (own_pk p4)), .val (.ref b56), .val (.ref y58), .val (.int (((own_w2 (own_pk p2)) + (own_w2 (own_pk p3))) + (own_w2 (own_pk p4)))), .val (.int (1 : Int32)), .val (.int (Int32.ofNat ((own_e (own_pk p2) ++ [(own_pk p2)]) ++ (own_e (own_pk p3) ++ [(own_pk p3)])).length))]) rfl ?_
   refine XS.iload X68.here hx rfl (hb hby at_316) rfl ?_
   refine XS.iconst X68.here hx rfl (hb hby at_318) ?_
   refine XS.icmpNo X68.here hx rfl (hb hby at_319) rfl (tlt (by rw [hn]; decide)).2.2.2 ?_
   refine XS.iload X68.here hx rfl (hb hby at_322) rfl ?_
   refine XS.ifNo X68.here hx rfl (hb hby at_324) rfl ((if0 _ _).trans (feq (by decide : ¬ ((1 : Int32) = (0 : Int32)))).1) ?_
   refine XS.aload X68.here hx rfl (hb hby at_327) rfl rfl ?_
   refine XS.iload X68.here hx rfl (hb hby at_329) rfl ?_
   refine XS.iload X68.here hx rfl (hb hby at_331) rfl ?_
   refine st70 _ ?_
   refine XS.ifNo X70.here hx rfl (hb hby at_336) rfl ((if0 _ _).trans (feq (by decide : ¬ ((1 : Int32) = (0 : Int32)))).1) ?_
   refine XS.iconst X70.here hx rfl (hb hby at_339) ?_
   refine XS.goto X70.here hx rfl (pc0 := 340) (pc' := 344) rfl (hb hby at_340) (by decide) (by decide) ?_
   refine XS.istore X70.here hx rfl (hb hby at_344) rfl (l' := #[.val (.int p1), .val (.int p2), .val (.int p3), .val (.int p4), .val (.int (own_n p1)), .val (.int (own_pk p2)), .val (.int (own_pk p3)), .val (.int (own_pk p4)), .val (.ref b56), .val (.ref y58), .val (.int (((own_w2 (own_pk p2)) + (own_w2 (own_pk p3))) + (own_w2 (own_pk p4)))), .val (.int (1 : Int32)), .val (.int (Int32.ofNat ((own_e (own_pk p2) ++ [(own_pk p2)]) ++ (own_e (own_pk p3) ++ [(own_pk p3)])).length))]) rfl ?_
   refine XS.iload X70.here hx rfl (hb hby at_346) rfl ?_
   exact κ)
  obtain ⟨fs72, hr72, hrun72, hended72, hE72⟩ := X70.leaveW hS58 (by first | exact (Nat.le_refl _) | (rw [q70]; exact (Nat.le_refl _))) (v := some (.int (1 : Int32))) (fun h => by rw [Bd.returns] at h; cases h)
  refine ⟨_, _, hPs _ (pre71 _ ?_), hrun72, hended72, _, _, rfl, ?_, ?_, hE72.1, hE72.2.1, hE72.2.2.1, hE72.2.2.2.mono (by decide) (by decide)⟩
  ·show own_st p e below T70 (mkF m 348 #[.val (.int p1), .val (.int p2), .val (.int p3), .val (.int p4), .val (.int (own_n p1)), .val (.int (own_pk p2)), .val (.int (own_pk p3)), .val (.int (own_pk p4)), .val (.ref b56), .val (.ref y58), .val (.int (((own_w2 (own_pk p2)) + (own_w2 (own_pk p3))) + (own_w2 (own_pk p4)))), .val (.int (1 : Int32)), .val (.int (Int32.ofNat ((own_e (own_pk p2) ++ [(own_pk p2)]) ++ (own_e (own_pk p3) ++ [(own_pk p3)])).length))] [(.int (1 : Int32))]) _
   exact retN X70 hx (t := .boolean) Bd.returns (by simp) (hb hby at_348) hr72
  ·show Q0 Z p1 p2 p3 p4 h0 n0 _ T70.heap _
   rw [q70]
   exact ⟨rfl, N70⟩
  ·show CHr Z own_EL s.vm s.heap T70.vm T70.heap
   rw [q70]
   rw [hh]
   exact CR58.trans (CHv.at X70 hZ58 hEL CH58)

theorem own_sint {args : Array Value} {s : State} {t : Term} {k : Int32} (h : (Jvm.Cond.eq t (Jvm.Term.int k)).value args s none s [] = some true) : t.eval args s none [] s = some (.int k) := by
 obtain ⟨x, y, e1, e2, -, k1⟩ := cmp_v (Or.inl h)
 have e3 : Value.int k = y := Option.some.inj ((Term.int_eval k).symm.trans e2)
 subst e3
 obtain ⟨z, rfl⟩ : ∃ z, x = .int z := k1
 have q := gotT (Cond.eq_ints e1 (Term.int_eval k)) h
 subst q
 exact e1
theorem own_seq {Z : State} {a0 : Array Value} {C n d : String} {z : Int32} (w : (Jvm.Cond.eq (Jvm.Term.static C n d) (Jvm.Term.int z)).before a0 Z = true) (i : (Jvm.Cond.initializedFor C n d).before a0 Z = true) : Sta Z Z.heap C n d (.int z) := Sta.start (own_sint (Cond.before_iff.mp w)) (Or.inl i)

theorem comes_1 {Post : Tables → Env → Array Value → State → Outcome → State → Prop} (hpost : ∀ tb e args s v u, (limb_1_1.after args s (.returned v) u = true ∧ limb_1_2.after args s (.returned v) u = true ∧ True) → FramedW s (.returned v) u (Jvm.fieldLocs frame_1_writes args s ++ Jvm.arrayLocs frame_1_arrays args s ++ Jvm.staticLocs frame_1_statics s) 32 2304 → Post tb e args s (.returned v) u) :
  ArmFor flags0 classFile x code maxLocals ret World_1 tables_1 room_1 Calls_1 rest_1 Pre_1 Post := by
 intro l hfl _ _ p e ha hc hk s m args below hf hA hF happ hP
 obtain ⟨hcalls, hrest, hpre⟩ := hP
 obtain ⟨-, -, -, hnamed, -, -, -, hat⟩ := (Spec.applies_iff hf).mp happ
 obtain ⟨hg, hn⟩ := and_e (Cond.before_iff.mp (show (Jvm.Cond.and given_1 narrow_1).before args s = true from hpre))
 obtain ⟨gg0, gr0⟩ := and_e hg
 obtain ⟨gg1, gr1⟩ := and_e gr0
 obtain ⟨gg2, gr2⟩ := and_e gr1
 obtain ⟨gg3, gr3⟩ := and_e gr2
 obtain ⟨w0, w1, w2, w3, rfl⟩ : ∃ w0 w1 w2 w3 : Value, args = #[w0, w1, w2, w3] := by
  have hs : args.size = 4 := by simpa [Cond.value, given_1] using gg0
  obtain ⟨L⟩ := args
  match L, hs with
  | [w0, w1, w2, w3], _ => exact ⟨w0, w1, w2, w3, rfl⟩
 have hw := fun d (hd : d ∈ tables_1) => atoms_spec (ws := Jvm.Cond.code x code maxLocals ret :: tables_1) hat d (List.mem_cons_of_mem _ hd)
 have hfit : Fit s := fun {y c} hc i hi => by
  obtain ⟨ha, rfl⟩ := Array.getElem?_eq_some_iff.mp hc
  have q := List.all_eq_true.mp ((Array.all_eq_true_iff_forall_mem.mp hF) _ (Array.getElem_mem ha)) i (List.mem_range.mpr hi)
  simpa [Array.getElem?_eq_getElem hi] using q
 obtain ⟨hsets, hown0⟩ := atoms_of _ (rest_1_c_eq ▸ (show rest_1_c.before _ s = true from hrest))
 have hr0 := Cond.before_iff.mp hown0
 obtain ⟨i0, ei0⟩ := is_v gg1
 obtain rfl : w0 = (.int i0) := Option.some.inj ei0
 obtain ⟨i1, ei1⟩ := is_v gg2
 obtain rfl : w1 = (.int i1) := Option.some.inj ei1
 obtain ⟨i2, ei2⟩ := is_v gg3
 obtain rfl : w2 = (.int i2) := Option.some.inj ei2
 obtain ⟨i3, ei3⟩ := is_v gr3
 obtain rfl : w3 = (.int i3) := Option.some.inj ei3
 obtain ⟨z, evz⟩ := is_v (Cond.before_iff.mp (hsets _ (List.mem_of_getElem? (i := 1) rfl)))
 have Sz := Sta.start evz (Or.inl (hsets _ (List.mem_of_getElem? (i := 0) rfl)))
 have hz : ¬ z = 0 := gotF (Cond.eq_ints evz (Term.int_eval 0)) (not_v (Cond.before_iff.mp (hsets _ (List.mem_of_getElem? (i := 2) rfl))))
 obtain ⟨fm, evf, hfm⟩ := isR_v (Cond.before_iff.mp (hsets _ (List.mem_of_getElem? (i := 8) rfl)))
 have Sf := Sta.start evf (Or.inl (hsets _ (List.mem_of_getElem? (i := 7) rfl)))
 have EN : own_env s s.heap := ⟨z, fm, Sz, hz, Sf, hfm, own_seq (hsets _ (List.mem_of_getElem? (i := 12) rfl)) (hsets _ (List.mem_of_getElem? (i := 11) rfl)), own_seq (hsets _ (List.mem_of_getElem? (i := 15) rfl)) (hsets _ (List.mem_of_getElem? (i := 14) rfl)), own_seq (hsets _ (List.mem_of_getElem? (i := 18) rfl)) (hsets _ (List.mem_of_getElem? (i := 17) rfl))⟩
 have hCH : CHv s own_EL s.vm s.heap := CHv.start (own_EW hw) (fun p hp => by
  rcases List.mem_cons.mp hp with rfl | hp
  ·exact hcalls.1 _ (List.mem_of_getElem? (i := 1) rfl)
  cases List.mem_singleton.mp hp
  exact hcalls.1 _ (List.mem_of_getElem? (i := 0) rfl)) (hsets _ (List.mem_of_getElem? (i := 2) rfl)) (hw _ (List.mem_of_getElem? (i := 21) rfl)) (hw _ (List.mem_of_getElem? (i := 7) rfl))
 obtain ⟨n, o, h1, h2, h3, _, L, rfl, ⟨rfl, N⟩, hcr, hq⟩ := rm0 l s _ hw tables_1 i0 i1 i2 i3 s.heap s.heap.size (Nat.le_refl _) EN p e ha hc hk s m _ below hf ((Spec.applies_iff_loose hf).mp happ).1 ⟨rfl, State.Warmed39.refl s, rfl, hCH⟩ trivial
 refine ⟨n, _, h1, h2, h3, hpost _ _ _ _ _ _ ⟨Cond.after_iff.mpr rfl, Cond.after_iff.mpr (eq_i res_at (Term.int_eval (1)) rfl), trivial⟩ ⟨hq.1, hq.2.1, hq.2.2.1, (hq.2.2.2.sift fun y hy => Or.inr (N y hy)).mono (by decide) (by decide)⟩⟩
theorem main_1_1 : Claimed_1_1 := comes_1 fun _ _ _ _ _ _ h hF => ⟨h.1, hF⟩
theorem main_1_2 : Claimed_1_2 := comes_1 fun _ _ _ _ _ _ h hF => ⟨h.2.1, hF⟩
end Jvm.Pilot.@@N@@
namespace Jvm.Pilot.@@N@@
open Jvm Jvm.ClassFile Sem Op Lib Jvm.Free Jvm.Stand Jvm.Pilot.@@N@@.Jvm.D
/-! MADE BY PROGRAM (witnessworld.py) out of the Statement's table words and the real class files: 26 classes; the members and pool entries that the words name. The judged class is class 1, her method 5. -/
namespace start1
open Jvm.ClassFile
def u (s : String) : CpInfo := .utf8 (stringToUtf16 s)
/-- a pool by its gaps: so many unusable entries, then the entry; so many at the end -/
def gap : Nat → List CpInfo → List CpInfo
  | 0, r => r
  | n + 1, r => .unusable :: gap n r
def poolList (es : List (Nat × CpInfo)) (last : Nat) : List CpInfo := es.foldr (fun e r => gap e.1 (e.2 :: r)) (gap last [])
def pool (es : List (Nat × CpInfo)) (last : Nat) : Array CpInfo := ⟨poolList es last⟩
def fileOf (pool : Array CpInfo) (this : Nat) (attrs : Array Attribute := #[]) (ms : Array MethodInfo := #[]) (fl : Nat := 33) (sup : Nat := 0) (ifs : Array Nat := #[]) (fds : Array FieldInfo := #[]) : ClassFile where
  minorVersion := 0
  majorVersion := 65
  constantPool := pool
  accessFlags := fl
  thisClass := this
  superClass := sup
  interfaces := ifs
  fields := fds
  methods := ms
  attributes := attrs
def plain (name : String) (sup : Option ClassId) : Class where
  name := name
  kind := .ordinary
  loader := none
  accessFlags := 33
  super := sup
  interfaces := #[]
  cf := none
  fields := #[]
  methods := #[]
  instanceTypes := #[]
  staticTypes := #[]
  resolved := #[]
  callSites := []
  init := .initialized
  statics := none
  mirror := none

def pool0 : Array CpInfo := pool [(5, u "<init>"), (0, u "()V"), (1, .class_ 10), (1, u "java/lang/Object"), (85, u "clone"), (0, u "()Ljava/lang/Object;")] 26

def k0c0 : Code := { maxStack := 0, maxLocals := 1, code := object_method_1_code, exceptionTable := #[], attributes := #[] }
def k0m0 : Method := { name := "<init>", desc := "()V", sig := { parameters := [], returnType := none }, accessFlags := 1, code := some k0c0 }
def k0m1 : Method := { name := "clone", desc := "()Ljava/lang/Object;", sig := { parameters := [], returnType := some (.object "java/lang/Object") }, accessFlags := 260, code := none }
/-- java/lang/Object -/
def k0 : Class := { plain "java/lang/Object" none with
  accessFlags := 33
  interfaces := #[]
  cf := some (fileOf pool0 8 #[] #[{ accessFlags := 1, nameIndex := 5, descriptorIndex := 6, attributes := #[] }, { accessFlags := 260, nameIndex := 96, descriptorIndex := 97, attributes := #[] }] 33 0 #[] #[])
  fields := #[]
  methods := #[k0m0, k0m1]
  instanceTypes := #[]
  staticTypes := #[]
  resolved := Array.replicate 124 none
  statics := none }

def pool1 : Array CpInfo := pool [(2, .class_ 4), (1, u "java/lang/Object"), (0, u "<init>"), (0, u "()V"), (0, .integer 65536), (0, .integer 65535), (0, .methodref 10 11), (0, .class_ 12), (0, .nameAndType 13 14), (0, u "com/example/oxpecker/oxpecker/MessageTemplateLiteralPinLaw"), (0, u "special"), (0, u "(C)Z"), (0, .methodref 16 17), (0, .class_ 18), (0, .nameAndType 19 20), (0, u "java/lang/String"), (0, u "charAt"), (0, u "(I)C"), (0, .methodref 10 22), (0, .nameAndType 23 20), (0, u "pick"), (0, .methodref 16 25), (0, .nameAndType 5 26), (0, u "([C)V"), (0, .methodref 28 29), (0, .class_ 30), (0, .nameAndType 31 32), (0, u "com/example/oxpecker/oxpecker/MessageTemplate"), (0, u "literal"), (0, u "(Ljava/lang/String;)Ljava/lang/String;"), (0, .methodref 10 34), (0, .nameAndType 35 36), (0, u "w"), (0, u "(C)I"), (0, .methodref 16 38), (0, .nameAndType 39 40), (0, u "length"), (0, u "()I"), (0, .methodref 10 42), (0, .nameAndType 43 44), (0, u "at"), (0, u "(Ljava/lang/String;IC)Z"), (3, u "law"), (0, u "(IIII)Z")] 2

def k1m0 : Method := { name := "<init>", desc := "()V", sig := { parameters := [], returnType := none }, accessFlags := 2, code := none }
def k1c1 : Code := { maxStack := 2, maxLocals := 2, code := method_2_code, exceptionTable := #[], attributes := #[] }
def k1m1 : Method := { name := "pick", desc := "(I)C", sig := { parameters := [.int], returnType := some .char }, accessFlags := 10, code := some k1c1 }
def k1c2 : Code := { maxStack := 2, maxLocals := 1, code := method_3_code, exceptionTable := #[], attributes := #[] }
def k1m2 : Method := { name := "special", desc := "(C)Z", sig := { parameters := [.char], returnType := some .boolean }, accessFlags := 10, code := some k1c2 }
def k1c3 : Code := { maxStack := 1, maxLocals := 1, code := method_4_code, exceptionTable := #[], attributes := #[] }
def k1m3 : Method := { name := "w", desc := "(C)I", sig := { parameters := [.char], returnType := some .int }, accessFlags := 10, code := some k1c3 }
def k1c4 : Code := { maxStack := 3, maxLocals := 3, code := method_5_code, exceptionTable := #[], attributes := #[] }
def k1m4 : Method := { name := "at", desc := "(Ljava/lang/String;IC)Z", sig := { parameters := [(.object "java/lang/String"), .int, .char], returnType := some .boolean }, accessFlags := 10, code := some k1c4 }
def k1c5 : Code := { maxStack := 3, maxLocals := 13, code := code, exceptionTable := #[], attributes := #[] }
def k1m5 : Method := { name := "law", desc := "(IIII)Z", sig := { parameters := [.int, .int, .int, .int], returnType := some .boolean }, accessFlags := 9, code := some k1c5 }
/-- com/example/oxpecker/oxpecker/MessageTemplateLiteralPinLaw -/
def k1 : Class := { plain "com/example/oxpecker/oxpecker/MessageTemplateLiteralPinLaw" (some 0) with
  accessFlags := 49
  interfaces := #[]
  cf := some (fileOf pool1 10 #[] #[{ accessFlags := 2, nameIndex := 5, descriptorIndex := 6, attributes := #[] }, { accessFlags := 10, nameIndex := 23, descriptorIndex := 20, attributes := #[] }, { accessFlags := 10, nameIndex := 13, descriptorIndex := 14, attributes := #[] }, { accessFlags := 10, nameIndex := 35, descriptorIndex := 36, attributes := #[] }, { accessFlags := 10, nameIndex := 43, descriptorIndex := 44, attributes := #[] }, { accessFlags := 9, nameIndex := 48, descriptorIndex := 49, attributes := #[] }] 49 2 #[] #[])
  fields := #[]
  methods := #[k1m0, k1m1, k1m2, k1m3, k1m4, k1m5]
  instanceTypes := #[]
  staticTypes := #[]
  resolved := Array.replicate 52 none
  statics := none }

def pool2 : Array CpInfo := pool [(1, .class_ 2), (0, u "java/io/Serializable"), (0, .class_ 4), (0, u "java/lang/Object")] 2

/-- java/io/Serializable -/
def k2 : Class := { plain "java/io/Serializable" (some 0) with
  accessFlags := 1537
  interfaces := #[]
  cf := some (fileOf pool2 1 #[] #[] 1537 3 #[] #[])
  fields := #[]
  methods := #[]
  instanceTypes := #[]
  staticTypes := #[]
  resolved := Array.replicate 7 none
  statics := none }

def pool3 : Array CpInfo := pool [(1, .class_ 2), (0, u "java/lang/Comparable"), (0, .class_ 4), (0, u "java/lang/Object")] 7

/-- java/lang/Comparable -/
def k3 : Class := { plain "java/lang/Comparable" (some 0) with
  accessFlags := 1537
  interfaces := #[]
  cf := some (fileOf pool3 1 #[] #[] 1537 3 #[] #[])
  fields := #[]
  methods := #[]
  instanceTypes := #[]
  staticTypes := #[]
  resolved := Array.replicate 12 none
  statics := none }

def pool4 : Array CpInfo := pool [(2, .class_ 4), (1, u "java/lang/CharSequence"), (42, .class_ 48), (0, u "java/lang/CharSequence$1CodePointIterator"), (10, .class_ 60), (0, u "java/lang/CharSequence$1CharIterator"), (5, .class_ 67), (0, u "java/lang/Object")] 63

/-- java/lang/CharSequence -/
def k4 : Class := { plain "java/lang/CharSequence" (some 0) with
  accessFlags := 1537
  interfaces := #[]
  cf := some (fileOf pool4 2 #[.nestMembers #[47, 59]] #[] 1537 66 #[] #[])
  fields := #[]
  methods := #[]
  instanceTypes := #[]
  staticTypes := #[]
  resolved := Array.replicate 131 none
  statics := none }

def pool5 : Array CpInfo := pool [(1, .class_ 2), (0, u "java/lang/constant/Constable"), (0, .class_ 4), (0, u "java/lang/Object")] 6

/-- java/lang/constant/Constable -/
def k5 : Class := { plain "java/lang/constant/Constable" (some 0) with
  accessFlags := 1537
  interfaces := #[]
  cf := some (fileOf pool5 1 #[] #[] 1537 3 #[] #[])
  fields := #[]
  methods := #[]
  instanceTypes := #[]
  staticTypes := #[]
  resolved := Array.replicate 11 none
  statics := none }

def pool6 : Array CpInfo := pool [(1, .class_ 2), (0, u "java/lang/constant/ConstantDesc"), (0, .class_ 4), (0, u "java/lang/Object")] 32

/-- java/lang/constant/ConstantDesc -/
def k6 : Class := { plain "java/lang/constant/ConstantDesc" (some 0) with
  accessFlags := 1537
  interfaces := #[]
  cf := some (fileOf pool6 1 #[] #[] 1537 3 #[] #[])
  fields := #[]
  methods := #[]
  instanceTypes := #[]
  staticTypes := #[]
  resolved := Array.replicate 37 none
  statics := none }

def pool7 : Array CpInfo := pool [(1, .methodref 2 3), (0, .class_ 4), (0, .nameAndType 5 6), (0, u "java/lang/Object"), (0, u "<init>"), (0, u "()V"), (0, .string 8), (0, u ""), (0, .fieldref 10 11), (0, .class_ 12), (0, .nameAndType 13 14), (0, u "java/lang/String"), (0, u "value"), (0, u "[B"), (0, .fieldref 10 16), (0, .nameAndType 17 18), (0, u "coder"), (0, u "B"), (2, u "hash"), (0, u "I"), (2, u "hashIsZero"), (0, u "Z"), (0, .methodref 10 28), (0, .nameAndType 5 29), (0, u "([CIILjava/lang/Void;)V"), (6, u "checkBoundsOffCount"), (0, u "(III)I"), (0, .fieldref 10 39), (0, .nameAndType 40 26), (0, u "COMPACT_STRINGS"), (1, .class_ 44), (1, u "java/lang/StringUTF16"), (0, u "compress"), (1, .methodref 42 48), (0, .nameAndType 49 50), (0, u "coderFromArrayLen"), (0, u "([BI)B"), (3, .methodref 55 56), (0, .class_ 57), (0, .nameAndType 58 59), (0, u "java/util/Arrays"), (0, u "copyOfRange"), (0, u "([BII)[B"), (47, .class_ 109), (1, u "java/lang/StringLatin1"), (32, u "()Z"), (34, .methodref 42 178), (0, .nameAndType 45 179), (0, u "([CII)[B"), (154, u "()I"), (0, .methodref 10 336), (0, .nameAndType 17 337), (0, u "()B"), (2, u "()[B"), (22, u "([BI)C"), (27, u "(II)V"), (35, u "(I)C"), (61, .methodref 10 490), (0, .nameAndType 5 491), (0, u "(Ljava/lang/AbstractStringBuilder;Ljava/lang/Void;)V"), (0, .methodref 10 493), (0, .nameAndType 494 142), (0, u "isLatin1"), (0, .methodref 107 496), (0, .nameAndType 497 363), (0, u "charAt"), (0, .methodref 42 496), (2, u "checkIndex"), (3, .methodref 10 506), (0, .nameAndType 507 334), (0, u "length"), (41, .methodref 550 506), (0, .class_ 551), (0, u "java/lang/AbstractStringBuilder"), (0, .methodref 550 553), (0, .nameAndType 554 340), (0, u "getValue"), (20, .class_ 576), (0, u "java/lang/CharSequence"), (22, u "CASE_INSENSITIVE_ORDER"), (0, u "Ljava/util/Comparator;"), (32, .methodref 10 634), (0, .nameAndType 635 636), (0, u "indexOf"), (0, u "(II)I"), (0, .methodref 107 638), (0, .nameAndType 635 639), (0, u "([BIII)I"), (125, u "(I)I"), (244, u "([C)V"), (36, .methodref 550 493), (0, .fieldref 550 1049), (0, .nameAndType 1050 26), (0, u "maybeLatin1"), (2, .fieldref 1054 1055), (0, .class_ 1056), (0, .nameAndType 1057 1058), (0, u "jdk/internal/util/Preconditions"), (0, u "SIOOBE_FORMATTER"), (0, u "Ljava/util/function/BiFunction;"), (0, .methodref 1054 1060), (0, .nameAndType 501 1061), (0, u "(IILjava/util/function/BiFunction;)I"), (2, u "(IIILjava/util/function/BiFunction;)I"), (0, .methodref 1054 1066), (0, .nameAndType 1067 1064), (0, u "checkFromIndexSize"), (33, u "serialPersistentFields"), (0, u "[Ljava/io/ObjectStreamField;"), (0, .class_ 1104), (0, u "java/lang/String$CaseInsensitiveComparator"), (1, .class_ 1107), (0, u "java/io/Serializable"), (0, .class_ 1109), (0, u "java/lang/Comparable"), (0, .class_ 1111), (0, u "java/lang/constant/Constable"), (0, .class_ 1113), (0, u "java/lang/constant/ConstantDesc"), (2, u "serialVersionUID"), (0, u "J"), (3, u "REPL"), (0, u "C"), (2, u "LATIN1"), (1, u "UTF16"), (105, u "(Ljava/lang/StringBuilder;)V")] 217

def k7m0 : Method := { name := "<init>", desc := "()V", sig := { parameters := [], returnType := none }, accessFlags := 1, code := none }
def k7c1 : Code := { maxStack := 5, maxLocals := 2, code := jdk_42_method_3_code, exceptionTable := #[], attributes := #[] }
def k7m1 : Method := { name := "<init>", desc := "([C)V", sig := { parameters := [(.array .char)], returnType := none }, accessFlags := 1, code := some k7c1 }
def k7c2 : Code := { maxStack := 3, maxLocals := 2, code := jdk_42_method_53_code, exceptionTable := #[], attributes := #[] }
def k7m2 : Method := { name := "<init>", desc := "(Ljava/lang/StringBuilder;)V", sig := { parameters := [(.object "java/lang/StringBuilder")], returnType := none }, accessFlags := 1, code := some k7c2 }
def k7c3 : Code := { maxStack := 2, maxLocals := 1, code := jdk_42_method_54_code, exceptionTable := #[], attributes := #[] }
def k7m3 : Method := { name := "length", desc := "()I", sig := { parameters := [], returnType := some .int }, accessFlags := 1, code := some k7c3 }
def k7c4 : Code := { maxStack := 2, maxLocals := 2, code := jdk_42_method_56_code, exceptionTable := #[], attributes := #[] }
def k7m4 : Method := { name := "charAt", desc := "(I)C", sig := { parameters := [.int], returnType := some .char }, accessFlags := 1, code := some k7c4 }
def k7c5 : Code := { maxStack := 3, maxLocals := 2, code := jdk_42_method_79_code, exceptionTable := #[], attributes := #[] }
def k7m5 : Method := { name := "indexOf", desc := "(I)I", sig := { parameters := [.int], returnType := some .int }, accessFlags := 1, code := some k7c5 }
def k7c6 : Code := { maxStack := 4, maxLocals := 3, code := jdk_42_method_80_code, exceptionTable := #[], attributes := #[] }
def k7m6 : Method := { name := "indexOf", desc := "(II)I", sig := { parameters := [.int, .int], returnType := some .int }, accessFlags := 1, code := some k7c6 }
def k7c7 : Code := { maxStack := 4, maxLocals := 6, code := jdk_42_method_149_code, exceptionTable := #[], attributes := #[] }
def k7m7 : Method := { name := "<init>", desc := "([CIILjava/lang/Void;)V", sig := { parameters := [(.array .char), .int, .int, (.object "java/lang/Void")], returnType := none }, accessFlags := 2, code := some k7c7 }
def k7c8 : Code := { maxStack := 5, maxLocals := 5, code := jdk_42_method_150_code, exceptionTable := #[], attributes := #[] }
def k7m8 : Method := { name := "<init>", desc := "(Ljava/lang/AbstractStringBuilder;Ljava/lang/Void;)V", sig := { parameters := [(.object "java/lang/AbstractStringBuilder"), (.object "java/lang/Void")], returnType := none }, accessFlags := 0, code := some k7c8 }
def k7c9 : Code := { maxStack := 1, maxLocals := 1, code := jdk_42_method_152_code, exceptionTable := #[], attributes := #[] }
def k7m9 : Method := { name := "coder", desc := "()B", sig := { parameters := [], returnType := some .byte }, accessFlags := 0, code := some k7c9 }
def k7c10 : Code := { maxStack := 1, maxLocals := 1, code := jdk_42_method_154_code, exceptionTable := #[], attributes := #[] }
def k7m10 : Method := { name := "isLatin1", desc := "()Z", sig := { parameters := [], returnType := some .boolean }, accessFlags := 0, code := some k7c10 }
def k7c11 : Code := { maxStack := 3, maxLocals := 2, code := jdk_42_method_155_code, exceptionTable := #[], attributes := #[] }
def k7m11 : Method := { name := "checkIndex", desc := "(II)V", sig := { parameters := [.int, .int], returnType := none }, accessFlags := 8, code := some k7c11 }
def k7c12 : Code := { maxStack := 4, maxLocals := 3, code := jdk_42_method_157_code, exceptionTable := #[], attributes := #[] }
def k7m12 : Method := { name := "checkBoundsOffCount", desc := "(III)I", sig := { parameters := [.int, .int, .int], returnType := some .int }, accessFlags := 8, code := some k7c12 }
/-- java/lang/String -/
def k7 : Class := { plain "java/lang/String" (some 0) with
  accessFlags := 49
  interfaces := #[2, 3, 4, 5, 6]
  cf := some (fileOf pool7 10 #[.nestMembers #[1103]] #[{ accessFlags := 1, nameIndex := 5, descriptorIndex := 6, attributes := #[] }, { accessFlags := 1, nameIndex := 5, descriptorIndex := 1010, attributes := #[] }, { accessFlags := 1, nameIndex := 5, descriptorIndex := 1233, attributes := #[] }, { accessFlags := 1, nameIndex := 507, descriptorIndex := 334, attributes := #[] }, { accessFlags := 1, nameIndex := 497, descriptorIndex := 427, attributes := #[] }, { accessFlags := 1, nameIndex := 635, descriptorIndex := 765, attributes := #[] }, { accessFlags := 1, nameIndex := 635, descriptorIndex := 636, attributes := #[] }, { accessFlags := 2, nameIndex := 5, descriptorIndex := 29, attributes := #[] }, { accessFlags := 0, nameIndex := 5, descriptorIndex := 491, attributes := #[] }, { accessFlags := 0, nameIndex := 17, descriptorIndex := 337, attributes := #[] }, { accessFlags := 0, nameIndex := 494, descriptorIndex := 142, attributes := #[] }, { accessFlags := 8, nameIndex := 501, descriptorIndex := 391, attributes := #[] }, { accessFlags := 8, nameIndex := 36, descriptorIndex := 37, attributes := #[] }] 49 2 #[1106, 1108, 575, 1110, 1112] #[{ accessFlags := 18, nameIndex := 13, descriptorIndex := 14, attributes := #[] }, { accessFlags := 18, nameIndex := 17, descriptorIndex := 18, attributes := #[] }, { accessFlags := 2, nameIndex := 21, descriptorIndex := 22, attributes := #[] }, { accessFlags := 2, nameIndex := 25, descriptorIndex := 26, attributes := #[] }, { accessFlags := 26, nameIndex := 1116, descriptorIndex := 1117, attributes := #[] }, { accessFlags := 24, nameIndex := 40, descriptorIndex := 26, attributes := #[] }, { accessFlags := 26, nameIndex := 1101, descriptorIndex := 1102, attributes := #[] }, { accessFlags := 26, nameIndex := 1121, descriptorIndex := 1122, attributes := #[] }, { accessFlags := 25, nameIndex := 599, descriptorIndex := 600, attributes := #[] }, { accessFlags := 24, nameIndex := 1125, descriptorIndex := 18, attributes := #[] }, { accessFlags := 24, nameIndex := 1127, descriptorIndex := 18, attributes := #[] }])
  fields := #[{ name := "value", type := (.array .byte), accessFlags := 18, slot := 0, constantValue := 0 }, { name := "coder", type := .byte, accessFlags := 18, slot := 1, constantValue := 0 }, { name := "hash", type := .int, accessFlags := 2, slot := 2, constantValue := 0 }, { name := "hashIsZero", type := .boolean, accessFlags := 2, slot := 3, constantValue := 0 }, { name := "serialVersionUID", type := .long, accessFlags := 26, slot := 0, constantValue := 0 }, { name := "COMPACT_STRINGS", type := .boolean, accessFlags := 24, slot := 1, constantValue := 0 }, { name := "serialPersistentFields", type := (.array (.object "java/io/ObjectStreamField")), accessFlags := 26, slot := 2, constantValue := 0 }, { name := "REPL", type := .char, accessFlags := 26, slot := 3, constantValue := 0 }, { name := "CASE_INSENSITIVE_ORDER", type := (.object "java/util/Comparator"), accessFlags := 25, slot := 4, constantValue := 0 }, { name := "LATIN1", type := .byte, accessFlags := 24, slot := 5, constantValue := 0 }, { name := "UTF16", type := .byte, accessFlags := 24, slot := 6, constantValue := 0 }]
  methods := #[k7m0, k7m1, k7m2, k7m3, k7m4, k7m5, k7m6, k7m7, k7m8, k7m9, k7m10, k7m11, k7m12]
  instanceTypes := #[(.array .byte), .byte, .int, .boolean]
  staticTypes := #[.long, .boolean, (.array (.object "java/io/ObjectStreamField")), .char, (.object "java/util/Comparator"), .byte, .byte]
  resolved := Array.replicate 1451 none
  statics := some 0 }

def pool8 : Array CpInfo := pool [(2, .class_ 4), (1, u "java/lang/Object"), (0, u "<init>"), (0, u "()V"), (0, .methodref 8 9), (0, .class_ 10), (0, .nameAndType 11 12), (0, u "java/lang/String"), (0, u "indexOf"), (0, u "(I)I"), (1, .class_ 16), (1, u "com/example/oxpecker/oxpecker/MessageTemplate"), (2, .methodref 8 20), (0, .nameAndType 21 22), (0, u "length"), (0, u "()I"), (18, .class_ 42), (0, u "java/lang/StringBuilder"), (0, .methodref 41 44), (0, .nameAndType 5 45), (0, u "(I)V"), (2, u "append"), (4, .methodref 41 54), (0, .nameAndType 55 56), (0, u "toString"), (0, u "()Ljava/lang/String;"), (4, .methodref 8 62), (0, .nameAndType 63 64), (0, u "charAt"), (0, u "(I)C"), (0, .string 66), (0, u "{}$\\"), (0, .methodref 41 68), (0, .nameAndType 48 69), (0, u "(C)Ljava/lang/StringBuilder;"), (14, u "(Ljava/lang/String;)Ljava/lang/String;"), (15, u "ESCAPED"), (0, u "Ljava/lang/String;"), (8, u "literal")] 5

def k8m0 : Method := { name := "<init>", desc := "()V", sig := { parameters := [], returnType := none }, accessFlags := 2, code := none }
def k8c1 : Code := { maxStack := 3, maxLocals := 4, code := prog_5_method_5_code, exceptionTable := #[], attributes := #[] }
def k8m1 : Method := { name := "literal", desc := "(Ljava/lang/String;)Ljava/lang/String;", sig := { parameters := [(.object "java/lang/String")], returnType := some (.object "java/lang/String") }, accessFlags := 8, code := some k8c1 }
/-- com/example/oxpecker/oxpecker/MessageTemplate -/
def k8 : Class := { plain "com/example/oxpecker/oxpecker/MessageTemplate" (some 0) with
  accessFlags := 48
  interfaces := #[]
  cf := some (fileOf pool8 14 #[] #[{ accessFlags := 2, nameIndex := 5, descriptorIndex := 6, attributes := #[] }, { accessFlags := 8, nameIndex := 110, descriptorIndex := 84, attributes := #[] }] 48 2 #[] #[{ accessFlags := 26, nameIndex := 100, descriptorIndex := 101, attributes := #[] }])
  fields := #[{ name := "ESCAPED", type := (.object "java/lang/String"), accessFlags := 26, slot := 0, constantValue := 0 }]
  methods := #[k8m0, k8m1]
  instanceTypes := #[]
  staticTypes := #[(.object "java/lang/String")]
  resolved := Array.replicate 116 none
  statics := none }

def pool9 : Array CpInfo := pool [(1, .class_ 2), (0, u "java/lang/Appendable"), (0, .class_ 4), (0, u "java/lang/Object")] 9

/-- java/lang/Appendable -/
def k9 : Class := { plain "java/lang/Appendable" (some 0) with
  accessFlags := 1537
  interfaces := #[]
  cf := some (fileOf pool9 1 #[] #[] 1537 3 #[] #[])
  fields := #[]
  methods := #[]
  instanceTypes := #[]
  staticTypes := #[]
  resolved := Array.replicate 14 none
  statics := none }

def pool10 : Array CpInfo := pool [(1, .class_ 2), (0, u "java/lang/String"), (0, .methodref 4 5), (0, .class_ 6), (0, .nameAndType 7 8), (0, u "java/lang/Object"), (0, u "<init>"), (0, u "()V"), (1, .class_ 12), (1, u "java/lang/AbstractStringBuilder"), (0, u "EMPTYVALUE"), (0, u "[B"), (0, .fieldref 10 16), (0, .nameAndType 17 14), (0, u "value"), (0, .fieldref 1 19), (0, .nameAndType 20 21), (0, u "COMPACT_STRINGS"), (0, u "Z"), (0, .fieldref 10 23), (0, .nameAndType 24 25), (0, u "coder"), (0, u "B"), (0, .methodref 27 28), (0, .class_ 29), (0, .nameAndType 30 31), (0, u "java/lang/StringUTF16"), (0, u "newBytesFor"), (0, u "(I)[B"), (2, u "length"), (0, u "()I"), (3, .integer 2147483647), (5, u "append"), (2, .class_ 49), (0, u "java/lang/CharSequence"), (25, u "maybeLatin1"), (3, .fieldref 10 80), (0, .nameAndType 81 82), (0, u "count"), (0, u "I"), (0, .methodref 10 84), (0, .nameAndType 85 86), (0, u "isLatin1"), (0, u "()Z"), (1, .class_ 90), (1, u "java/lang/StringLatin1"), (9, .methodref 10 101), (0, .nameAndType 102 103), (0, u "ensureCapacityInternal"), (0, u "(I)V"), (0, .methodref 10 105), (0, .nameAndType 106 107), (0, u "newCapacity"), (0, u "(I)I"), (0, .methodref 109 110), (0, .class_ 111), (0, .nameAndType 112 113), (0, u "java/util/Arrays"), (0, u "copyOf"), (0, u "([BI)[B"), (0, .methodref 115 116), (0, .class_ 117), (0, .nameAndType 118 119), (0, u "jdk/internal/util/ArraysSupport"), (0, u "newLength"), (0, u "(III)I"), (5, .methodref 88 126), (0, .nameAndType 127 128), (0, u "inflate"), (0, u "([BI[BII)V"), (7, u "([BII)V"), (54, .methodref 88 192), (0, .nameAndType 193 194), (0, u "canEncode"), (0, u "(C)Z"), (0, .methodref 10 196), (0, .nameAndType 127 8), (0, .methodref 27 198), (0, .nameAndType 199 136), (0, u "putCharSB"), (92, u "(C)Ljava/lang/AbstractStringBuilder;"), (110, u "()[B"), (40, .class_ 445), (0, u "java/lang/Appendable"), (106, u "getValue")] 56

def k10m0 : Method := { name := "<init>", desc := "()V", sig := { parameters := [], returnType := none }, accessFlags := 0, code := none }
def k10c1 : Code := { maxStack := 2, maxLocals := 2, code := jdk_68_method_2_code, exceptionTable := #[], attributes := #[] }
def k10m1 : Method := { name := "<init>", desc := "(I)V", sig := { parameters := [.int], returnType := none }, accessFlags := 0, code := some k10c1 }
def k10c2 : Code := { maxStack := 1, maxLocals := 1, code := jdk_68_method_6_code, exceptionTable := #[], attributes := #[] }
def k10m2 : Method := { name := "length", desc := "()I", sig := { parameters := [], returnType := some .int }, accessFlags := 1, code := some k10c2 }
def k10c3 : Code := { maxStack := 4, maxLocals := 3, code := jdk_68_method_9_code, exceptionTable := #[], attributes := #[] }
def k10m3 : Method := { name := "ensureCapacityInternal", desc := "(I)V", sig := { parameters := [.int], returnType := none }, accessFlags := 2, code := some k10c3 }
def k10c4 : Code := { maxStack := 5, maxLocals := 6, code := jdk_68_method_10_code, exceptionTable := #[], attributes := #[] }
def k10m4 : Method := { name := "newCapacity", desc := "(I)I", sig := { parameters := [.int], returnType := some .int }, accessFlags := 2, code := some k10c4 }
def k10c5 : Code := { maxStack := 5, maxLocals := 2, code := jdk_68_method_11_code, exceptionTable := #[], attributes := #[] }
def k10m5 : Method := { name := "inflate", desc := "()V", sig := { parameters := [], returnType := none }, accessFlags := 2, code := some k10c5 }
def k10c6 : Code := { maxStack := 5, maxLocals := 2, code := jdk_68_method_31_code, exceptionTable := #[], attributes := #[] }
def k10m6 : Method := { name := "append", desc := "(C)Ljava/lang/AbstractStringBuilder;", sig := { parameters := [.char], returnType := some (.object "java/lang/AbstractStringBuilder") }, accessFlags := 1, code := some k10c6 }
def k10c7 : Code := { maxStack := 1, maxLocals := 1, code := jdk_68_method_64_code, exceptionTable := #[], attributes := #[] }
def k10m7 : Method := { name := "getValue", desc := "()[B", sig := { parameters := [], returnType := some (.array .byte) }, accessFlags := 16, code := some k10c7 }
def k10c8 : Code := { maxStack := 1, maxLocals := 1, code := jdk_68_method_68_code, exceptionTable := #[], attributes := #[] }
def k10m8 : Method := { name := "isLatin1", desc := "()Z", sig := { parameters := [], returnType := some .boolean }, accessFlags := 16, code := some k10c8 }
/-- java/lang/AbstractStringBuilder -/
def k10 : Class := { plain "java/lang/AbstractStringBuilder" (some 0) with
  accessFlags := 1056
  interfaces := #[9, 4]
  cf := some (fileOf pool10 10 #[] #[{ accessFlags := 0, nameIndex := 7, descriptorIndex := 8, attributes := #[] }, { accessFlags := 0, nameIndex := 7, descriptorIndex := 103, attributes := #[] }, { accessFlags := 1, nameIndex := 34, descriptorIndex := 35, attributes := #[] }, { accessFlags := 2, nameIndex := 102, descriptorIndex := 103, attributes := #[] }, { accessFlags := 2, nameIndex := 106, descriptorIndex := 107, attributes := #[] }, { accessFlags := 2, nameIndex := 127, descriptorIndex := 8, attributes := #[] }, { accessFlags := 1, nameIndex := 45, descriptorIndex := 292, attributes := #[] }, { accessFlags := 16, nameIndex := 552, descriptorIndex := 403, attributes := #[] }, { accessFlags := 16, nameIndex := 85, descriptorIndex := 86, attributes := #[] }] 1056 4 #[444, 48] #[{ accessFlags := 0, nameIndex := 17, descriptorIndex := 14, attributes := #[] }, { accessFlags := 0, nameIndex := 24, descriptorIndex := 25, attributes := #[] }, { accessFlags := 0, nameIndex := 75, descriptorIndex := 21, attributes := #[] }, { accessFlags := 0, nameIndex := 81, descriptorIndex := 82, attributes := #[] }, { accessFlags := 26, nameIndex := 13, descriptorIndex := 14, attributes := #[] }])
  fields := #[{ name := "value", type := (.array .byte), accessFlags := 0, slot := 0, constantValue := 0 }, { name := "coder", type := .byte, accessFlags := 0, slot := 1, constantValue := 0 }, { name := "maybeLatin1", type := .boolean, accessFlags := 0, slot := 2, constantValue := 0 }, { name := "count", type := .int, accessFlags := 0, slot := 3, constantValue := 0 }, { name := "EMPTYVALUE", type := (.array .byte), accessFlags := 26, slot := 0, constantValue := 0 }]
  methods := #[k10m0, k10m1, k10m2, k10m3, k10m4, k10m5, k10m6, k10m7, k10m8]
  instanceTypes := #[(.array .byte), .byte, .boolean, .int]
  staticTypes := #[(.array .byte)]
  resolved := Array.replicate 609 none
  statics := none }

def pool11 : Array CpInfo := pool [(1, .methodref 2 3), (0, .class_ 4), (0, .nameAndType 5 6), (0, u "java/lang/AbstractStringBuilder"), (0, u "<init>"), (0, u "(I)V"), (11, .class_ 20), (1, u "java/lang/String"), (3, .class_ 26), (1, u "java/lang/StringBuilder"), (0, u "append"), (22, .methodref 2 51), (0, .nameAndType 27 52), (0, u "(C)Ljava/lang/AbstractStringBuilder;"), (84, .methodref 18 138), (0, .nameAndType 5 139), (0, u "(Ljava/lang/StringBuilder;)V"), (5, u "()V"), (10, u "()I"), (129, u "(C)Ljava/lang/StringBuilder;"), (56, .methodref 2 344), (0, .nameAndType 345 156), (0, u "length"), (3, .class_ 350), (0, u "java/lang/Appendable"), (0, .class_ 352), (0, u "java/io/Serializable"), (0, .class_ 354), (0, u "java/lang/Comparable"), (0, .class_ 356), (0, u "java/lang/CharSequence"), (0, u "serialVersionUID"), (0, u "J"), (40, u "toString"), (0, u "()Ljava/lang/String;")] 21

def k11m0 : Method := { name := "<init>", desc := "()V", sig := { parameters := [], returnType := none }, accessFlags := 1, code := none }
def k11c1 : Code := { maxStack := 2, maxLocals := 2, code := jdk_67_method_2_code, exceptionTable := #[], attributes := #[] }
def k11m1 : Method := { name := "<init>", desc := "(I)V", sig := { parameters := [.int], returnType := none }, accessFlags := 1, code := some k11c1 }
def k11c2 : Code := { maxStack := 2, maxLocals := 2, code := jdk_67_method_14_code, exceptionTable := #[], attributes := #[] }
def k11m2 : Method := { name := "append", desc := "(C)Ljava/lang/StringBuilder;", sig := { parameters := [.char], returnType := some (.object "java/lang/StringBuilder") }, accessFlags := 1, code := some k11c2 }
def k11c3 : Code := { maxStack := 3, maxLocals := 1, code := jdk_67_method_42_code, exceptionTable := #[], attributes := #[] }
def k11m3 : Method := { name := "toString", desc := "()Ljava/lang/String;", sig := { parameters := [], returnType := some (.object "java/lang/String") }, accessFlags := 1, code := some k11c3 }
def k11c4 : Code := { maxStack := 1, maxLocals := 1, code := jdk_67_method_93_code, exceptionTable := #[], attributes := #[] }
def k11m4 : Method := { name := "length", desc := "()I", sig := { parameters := [], returnType := some .int }, accessFlags := 4161, code := some k11c4 }
/-- java/lang/StringBuilder -/
def k11 : Class := { plain "java/lang/StringBuilder" (some 10) with
  accessFlags := 49
  interfaces := #[9, 2, 3, 4]
  cf := some (fileOf pool11 24 #[] #[{ accessFlags := 1, nameIndex := 5, descriptorIndex := 145, attributes := #[] }, { accessFlags := 1, nameIndex := 5, descriptorIndex := 6, attributes := #[] }, { accessFlags := 1, nameIndex := 27, descriptorIndex := 286, attributes := #[] }, { accessFlags := 1, nameIndex := 399, descriptorIndex := 400, attributes := #[] }, { accessFlags := 4161, nameIndex := 345, descriptorIndex := 156, attributes := #[] }] 49 2 #[349, 351, 353, 355] #[{ accessFlags := 24, nameIndex := 357, descriptorIndex := 358, attributes := #[] }])
  fields := #[{ name := "serialVersionUID", type := .long, accessFlags := 24, slot := 0, constantValue := 0 }]
  methods := #[k11m0, k11m1, k11m2, k11m3, k11m4]
  instanceTypes := #[(.array .byte), .byte, .boolean, .int]
  staticTypes := #[.long]
  resolved := Array.replicate 422 none
  statics := none }

def pool12 : Array CpInfo := pool [(2, .class_ 4), (1, u "java/lang/Object"), (0, u "<init>"), (0, u "()V"), (7, .class_ 16), (1, u "java/util/Arrays"), (57, .class_ 76), (1, u "java/util/Arrays$NaturalOrder"), (32, u "()Ljava/lang/Object;"), (3, .class_ 115), (1, u "java/util/Arrays$LegacyMergeSort"), (1, u "Z"), (10, .nameAndType 129 109), (0, u "clone"), (9, u "copyOfRange"), (10, .methodref 151 152), (0, .class_ 153), (0, .nameAndType 154 155), (0, u "java/lang/System"), (0, u "arraycopy"), (0, u "(Ljava/lang/Object;ILjava/lang/Object;II)V"), (146, u "copyOf"), (1, .methodref 305 306), (0, .class_ 307), (0, .nameAndType 308 309), (0, u "java/lang/Math"), (0, u "min"), (0, u "(II)I"), (0, .methodref 311 128), (0, .class_ 312), (0, u "[B"), (26, .methodref 14 340), (0, .nameAndType 341 342), (0, u "copyOfRangeByte"), (0, u "([BII)[B"), (0, .methodref 14 344), (0, .nameAndType 345 346), (0, u "checkLength"), (0, u "(II)V"), (28, .class_ 376), (0, u "java/util/Arrays$ArrayList"), (68, u "$assertionsDisabled"), (269, u "MIN_ARRAY_SORT_GRAN"), (0, u "I"), (2, u "INSERTIONSORT_THRESHOLD"), (149, u "([BI)[B"), (105, .class_ 976), (0, u "java/util/Arrays$ArrayItr")] 52

def k12m0 : Method := { name := "<init>", desc := "()V", sig := { parameters := [], returnType := none }, accessFlags := 2, code := none }
def k12c1 : Code := { maxStack := 6, maxLocals := 3, code := jdk_65_method_121_code, exceptionTable := #[], attributes := #[] }
def k12m1 : Method := { name := "copyOf", desc := "([BI)[B", sig := { parameters := [(.array .byte), .int], returnType := some (.array .byte) }, accessFlags := 9, code := some k12c1 }
def k12c2 : Code := { maxStack := 4, maxLocals := 2, code := jdk_65_method_131_code, exceptionTable := #[], attributes := #[] }
def k12m2 : Method := { name := "checkLength", desc := "(II)V", sig := { parameters := [.int, .int], returnType := none }, accessFlags := 10, code := some k12c2 }
def k12c3 : Code := { maxStack := 3, maxLocals := 3, code := jdk_65_method_132_code, exceptionTable := #[], attributes := #[] }
def k12m3 : Method := { name := "copyOfRange", desc := "([BII)[B", sig := { parameters := [(.array .byte), .int, .int], returnType := some (.array .byte) }, accessFlags := 9, code := some k12c3 }
def k12c4 : Code := { maxStack := 6, maxLocals := 5, code := jdk_65_method_133_code, exceptionTable := #[], attributes := #[] }
def k12m4 : Method := { name := "copyOfRangeByte", desc := "([BII)[B", sig := { parameters := [(.array .byte), .int, .int], returnType := some (.array .byte) }, accessFlags := 10, code := some k12c4 }
/-- java/util/Arrays -/
def k12 : Class := { plain "java/util/Arrays" (some 0) with
  accessFlags := 49
  interfaces := #[]
  cf := some (fileOf pool12 14 #[.nestMembers #[975, 375, 113, 74]] #[{ accessFlags := 2, nameIndex := 5, descriptorIndex := 6, attributes := #[] }, { accessFlags := 9, nameIndex := 302, descriptorIndex := 869, attributes := #[] }, { accessFlags := 10, nameIndex := 345, descriptorIndex := 346, attributes := #[] }, { accessFlags := 9, nameIndex := 139, descriptorIndex := 342, attributes := #[] }, { accessFlags := 10, nameIndex := 341, descriptorIndex := 342, attributes := #[] }] 49 2 #[] #[{ accessFlags := 26, nameIndex := 715, descriptorIndex := 716, attributes := #[] }, { accessFlags := 26, nameIndex := 719, descriptorIndex := 716, attributes := #[] }, { accessFlags := 4120, nameIndex := 445, descriptorIndex := 117, attributes := #[] }])
  fields := #[{ name := "MIN_ARRAY_SORT_GRAN", type := .int, accessFlags := 26, slot := 0, constantValue := 0 }, { name := "INSERTIONSORT_THRESHOLD", type := .int, accessFlags := 26, slot := 1, constantValue := 0 }, { name := "$assertionsDisabled", type := .boolean, accessFlags := 4120, slot := 2, constantValue := 0 }]
  methods := #[k12m0, k12m1, k12m2, k12m3, k12m4]
  instanceTypes := #[]
  staticTypes := #[.int, .int, .boolean]
  resolved := Array.replicate 1029 none
  statics := none }

def pool13 : Array CpInfo := pool [(1, .class_ 2), (0, u "java/lang/Cloneable"), (0, .class_ 4), (0, u "java/lang/Object")] 2

/-- java/lang/Cloneable -/
def k13 : Class := { plain "java/lang/Cloneable" (some 0) with
  accessFlags := 1537
  interfaces := #[]
  cf := some (fileOf pool13 1 #[] #[] 1537 3 #[] #[])
  fields := #[]
  methods := #[]
  instanceTypes := #[]
  staticTypes := #[]
  resolved := Array.replicate 7 none
  statics := none }

def pool14 : Array CpInfo := pool [(3, .class_ 4), (0, u "java/lang/String"), (1, .class_ 8), (1, u "java/lang/Object"), (0, u "<init>"), (0, u "()V"), (0, .methodref 12 13), (0, .class_ 14), (0, .nameAndType 15 16), (0, u "java/lang/StringUTF16"), (0, u "newBytesLength"), (0, u "(I)I"), (3, .integer 1073741823), (23, .fieldref 12 45), (0, .nameAndType 46 47), (0, u "$assertionsDisabled"), (0, u "Z"), (0, .methodref 12 49), (0, .nameAndType 50 51), (0, u "length"), (0, u "([B)I"), (7, .fieldref 12 60), (0, .nameAndType 61 62), (0, u "HI_BYTE_SHIFT"), (0, u "I"), (0, .fieldref 12 64), (0, .nameAndType 65 62), (0, u "LO_BYTE_SHIFT"), (1, .methodref 12 68), (0, .nameAndType 69 70), (0, u "checkIndex"), (0, u "(I[B)V"), (0, .methodref 12 72), (0, .nameAndType 73 74), (0, u "getChar"), (0, u "([BI)C"), (24, u "(II[B)V"), (7, .methodref 12 108), (0, .nameAndType 109 110), (0, u "newBytesFor"), (0, u "(I)[B"), (0, .methodref 12 112), (0, .nameAndType 113 114), (0, u "putChar"), (0, u "([BII)V"), (0, .methodref 12 116), (0, .nameAndType 117 118), (0, u "compress"), (0, u "([CI[BII)I"), (0, .methodref 12 120), (0, .nameAndType 121 122), (0, u "toBytes"), (0, u "([CII)[B"), (17, u "inflate"), (0, u "([BI[BII)V"), (31, .methodref 12 174), (0, .nameAndType 175 99), (0, u "checkBoundsOffCount"), (85, u "coderFromArrayLen"), (0, u "([BI)B"), (18, u "(III)I"), (87, .class_ 371), (1, u "java/lang/StringUTF16$LinesSpliterator"), (20, u "charAt"), (21, .methodref 3 415), (0, .nameAndType 69 416), (0, u "(II)V"), (2, .methodref 3 420), (0, .nameAndType 175 281), (9, u "MAX_LENGTH"), (155, u "putCharSB"), (40, .class_ 628), (0, u "java/lang/StringUTF16$CodePointsSpliterator"), (0, .class_ 630), (0, u "java/lang/StringUTF16$CharsSpliterator")] 4

def k14m0 : Method := { name := "<init>", desc := "()V", sig := { parameters := [], returnType := none }, accessFlags := 0, code := none }
def k14c1 : Code := { maxStack := 1, maxLocals := 1, code := jdk_52_method_2_code, exceptionTable := #[], attributes := #[] }
def k14m1 : Method := { name := "newBytesFor", desc := "(I)[B", sig := { parameters := [.int], returnType := some (.array .byte) }, accessFlags := 9, code := some k14c1 }
def k14c2 : Code := { maxStack := 4, maxLocals := 1, code := jdk_52_method_3_code, exceptionTable := #[], attributes := #[] }
def k14m2 : Method := { name := "newBytesLength", desc := "(I)I", sig := { parameters := [.int], returnType := some .int }, accessFlags := 9, code := some k14c2 }
def k14c3 : Code := { maxStack := 4, maxLocals := 3, code := jdk_52_method_4_code, exceptionTable := #[], attributes := #[] }
def k14m3 : Method := { name := "putChar", desc := "([BII)V", sig := { parameters := [(.array .byte), .int, .int], returnType := none }, accessFlags := 8, code := some k14c3 }
def k14c4 : Code := { maxStack := 3, maxLocals := 2, code := jdk_52_method_5_code, exceptionTable := #[], attributes := #[] }
def k14m4 : Method := { name := "getChar", desc := "([BI)C", sig := { parameters := [(.array .byte), .int], returnType := some .char }, accessFlags := 8, code := some k14c4 }
def k14c5 : Code := { maxStack := 2, maxLocals := 1, code := jdk_52_method_6_code, exceptionTable := #[], attributes := #[] }
def k14m5 : Method := { name := "length", desc := "([B)I", sig := { parameters := [(.array .byte)], returnType := some .int }, accessFlags := 9, code := some k14c5 }
def k14c6 : Code := { maxStack := 4, maxLocals := 5, code := jdk_52_method_14_code, exceptionTable := #[], attributes := #[] }
def k14m6 : Method := { name := "toBytes", desc := "([CII)[B", sig := { parameters := [(.array .char), .int, .int], returnType := some (.array .byte) }, accessFlags := 9, code := some k14c6 }
def k14c7 : Code := { maxStack := 2, maxLocals := 2, code := jdk_52_method_15_code, exceptionTable := #[], attributes := #[] }
def k14m7 : Method := { name := "coderFromArrayLen", desc := "([BI)B", sig := { parameters := [(.array .byte), .int], returnType := some .byte }, accessFlags := 8, code := some k14c7 }
def k14c8 : Code := { maxStack := 5, maxLocals := 6, code := jdk_52_method_16_code, exceptionTable := #[], attributes := #[] }
def k14m8 : Method := { name := "compress", desc := "([CII)[B", sig := { parameters := [(.array .char), .int, .int], returnType := some (.array .byte) }, accessFlags := 9, code := some k14c8 }
def k14c9 : Code := { maxStack := 3, maxLocals := 7, code := jdk_52_method_21_code, exceptionTable := #[], attributes := #[] }
def k14m9 : Method := { name := "compress", desc := "([CI[BII)I", sig := { parameters := [(.array .char), .int, (.array .byte), .int, .int], returnType := some .int }, accessFlags := 9, code := some k14c9 }
def k14c10 : Code := { maxStack := 3, maxLocals := 3, code := jdk_52_method_71_code, exceptionTable := #[], attributes := #[] }
def k14m10 : Method := { name := "putCharSB", desc := "([BII)V", sig := { parameters := [(.array .byte), .int, .int], returnType := none }, accessFlags := 9, code := some k14c10 }
def k14c11 : Code := { maxStack := 2, maxLocals := 2, code := jdk_52_method_83_code, exceptionTable := #[], attributes := #[] }
def k14m11 : Method := { name := "charAt", desc := "([BI)C", sig := { parameters := [(.array .byte), .int], returnType := some .char }, accessFlags := 9, code := some k14c11 }
def k14c12 : Code := { maxStack := 4, maxLocals := 6, code := jdk_52_method_86_code, exceptionTable := #[], attributes := #[] }
def k14m12 : Method := { name := "inflate", desc := "([BI[BII)V", sig := { parameters := [(.array .byte), .int, (.array .byte), .int, .int], returnType := none }, accessFlags := 9, code := some k14c12 }
def k14c13 : Code := { maxStack := 2, maxLocals := 2, code := jdk_52_method_91_code, exceptionTable := #[], attributes := #[] }
def k14m13 : Method := { name := "checkIndex", desc := "(I[B)V", sig := { parameters := [.int, (.array .byte)], returnType := none }, accessFlags := 9, code := some k14c13 }
def k14c14 : Code := { maxStack := 3, maxLocals := 3, code := jdk_52_method_94_code, exceptionTable := #[], attributes := #[] }
def k14m14 : Method := { name := "checkBoundsOffCount", desc := "(II[B)V", sig := { parameters := [.int, .int, (.array .byte)], returnType := none }, accessFlags := 9, code := some k14c14 }
/-- java/lang/StringUTF16 -/
def k14 : Class := { plain "java/lang/StringUTF16" (some 0) with
  accessFlags := 48
  interfaces := #[]
  cf := some (fileOf pool14 12 #[.nestMembers #[627, 629, 369]] #[{ accessFlags := 0, nameIndex := 9, descriptorIndex := 10, attributes := #[] }, { accessFlags := 9, nameIndex := 109, descriptorIndex := 110, attributes := #[] }, { accessFlags := 9, nameIndex := 15, descriptorIndex := 16, attributes := #[] }, { accessFlags := 8, nameIndex := 113, descriptorIndex := 114, attributes := #[] }, { accessFlags := 8, nameIndex := 73, descriptorIndex := 74, attributes := #[] }, { accessFlags := 9, nameIndex := 50, descriptorIndex := 51, attributes := #[] }, { accessFlags := 9, nameIndex := 121, descriptorIndex := 122, attributes := #[] }, { accessFlags := 8, nameIndex := 261, descriptorIndex := 262, attributes := #[] }, { accessFlags := 9, nameIndex := 117, descriptorIndex := 122, attributes := #[] }, { accessFlags := 9, nameIndex := 117, descriptorIndex := 118, attributes := #[] }, { accessFlags := 9, nameIndex := 586, descriptorIndex := 114, attributes := #[] }, { accessFlags := 9, nameIndex := 392, descriptorIndex := 74, attributes := #[] }, { accessFlags := 9, nameIndex := 140, descriptorIndex := 141, attributes := #[] }, { accessFlags := 9, nameIndex := 69, descriptorIndex := 70, attributes := #[] }, { accessFlags := 9, nameIndex := 175, descriptorIndex := 99, attributes := #[] }] 48 6 #[] #[{ accessFlags := 26, nameIndex := 61, descriptorIndex := 62, attributes := #[] }, { accessFlags := 26, nameIndex := 65, descriptorIndex := 62, attributes := #[] }, { accessFlags := 24, nameIndex := 430, descriptorIndex := 62, attributes := #[] }, { accessFlags := 4120, nameIndex := 46, descriptorIndex := 47, attributes := #[] }])
  fields := #[{ name := "HI_BYTE_SHIFT", type := .int, accessFlags := 26, slot := 0, constantValue := 0 }, { name := "LO_BYTE_SHIFT", type := .int, accessFlags := 26, slot := 1, constantValue := 0 }, { name := "MAX_LENGTH", type := .int, accessFlags := 24, slot := 2, constantValue := 0 }, { name := "$assertionsDisabled", type := .boolean, accessFlags := 4120, slot := 3, constantValue := 0 }]
  methods := #[k14m0, k14m1, k14m2, k14m3, k14m4, k14m5, k14m6, k14m7, k14m8, k14m9, k14m10, k14m11, k14m12, k14m13, k14m14]
  instanceTypes := #[]
  staticTypes := #[.int, .int, .int, .boolean]
  resolved := Array.replicate 635 none
  statics := some 1 }

def pool15 : Array CpInfo := pool [(1, .class_ 2), (0, u "java/lang/String"), (1, .class_ 6), (1, u "java/lang/Object"), (0, u "<init>"), (0, u "()V"), (0, .methodref 1 10), (0, .nameAndType 11 12), (0, u "checkIndex"), (0, u "(II)V"), (1, .class_ 16), (1, u "java/lang/StringLatin1"), (0, u "inflate"), (2, .class_ 22), (1, u "java/lang/StringUTF16"), (3, .nameAndType 17 27), (0, u "([BI[BII)V"), (10, .methodref 39 40), (0, .class_ 41), (0, .nameAndType 42 43), (0, u "java/lang/Math"), (0, u "min"), (0, u "(II)I"), (9, u "([BI)C"), (34, .methodref 14 89), (0, .nameAndType 90 91), (0, u "canEncode"), (0, u "(I)Z"), (0, .methodref 39 93), (0, .nameAndType 94 43), (0, u "max"), (0, .methodref 14 96), (0, .nameAndType 97 98), (0, u "indexOfChar"), (0, u "([BIII)I"), (2, u "indexOf"), (3, u "(C)Z"), (15, u "$assertionsDisabled"), (0, u "Z"), (98, .class_ 223), (1, u "java/lang/StringLatin1$LinesSpliterator"), (16, .methodref 20 26), (11, u "charAt"), (137, .class_ 391), (0, u "java/lang/StringLatin1$CharsSpliterator")] 3

def k15m0 : Method := { name := "<init>", desc := "()V", sig := { parameters := [], returnType := none }, accessFlags := 0, code := none }
def k15c1 : Code := { maxStack := 2, maxLocals := 2, code := jdk_43_method_2_code, exceptionTable := #[], attributes := #[] }
def k15m1 : Method := { name := "charAt", desc := "([BI)C", sig := { parameters := [(.array .byte), .int], returnType := some .char }, accessFlags := 9, code := some k15c1 }
def k15c2 : Code := { maxStack := 2, maxLocals := 1, code := jdk_43_method_3_code, exceptionTable := #[], attributes := #[] }
def k15m2 : Method := { name := "canEncode", desc := "(C)Z", sig := { parameters := [.char], returnType := some .boolean }, accessFlags := 9, code := some k15c2 }
def k15c3 : Code := { maxStack := 2, maxLocals := 1, code := jdk_43_method_4_code, exceptionTable := #[], attributes := #[] }
def k15m3 : Method := { name := "canEncode", desc := "(I)Z", sig := { parameters := [.int], returnType := some .boolean }, accessFlags := 9, code := some k15c3 }
def k15c4 : Code := { maxStack := 4, maxLocals := 4, code := jdk_43_method_22_code, exceptionTable := #[], attributes := #[] }
def k15m4 : Method := { name := "indexOf", desc := "([BIII)I", sig := { parameters := [(.array .byte), .int, .int, .int], returnType := some .int }, accessFlags := 9, code := some k15c4 }
def k15c5 : Code := { maxStack := 2, maxLocals := 6, code := jdk_43_method_23_code, exceptionTable := #[], attributes := #[] }
def k15m5 : Method := { name := "indexOfChar", desc := "([BIII)I", sig := { parameters := [(.array .byte), .int, .int, .int], returnType := some .int }, accessFlags := 10, code := some k15c5 }
def k15c6 : Code := { maxStack := 5, maxLocals := 5, code := jdk_43_method_50_code, exceptionTable := #[], attributes := #[] }
def k15m6 : Method := { name := "inflate", desc := "([BI[BII)V", sig := { parameters := [(.array .byte), .int, (.array .byte), .int, .int], returnType := none }, accessFlags := 9, code := some k15c6 }
/-- java/lang/StringLatin1 -/
def k15 : Class := { plain "java/lang/StringLatin1" (some 0) with
  accessFlags := 48
  interfaces := #[]
  cf := some (fileOf pool15 14 #[.nestMembers #[390, 221]] #[{ accessFlags := 0, nameIndex := 7, descriptorIndex := 8, attributes := #[] }, { accessFlags := 9, nameIndex := 252, descriptorIndex := 53, attributes := #[] }, { accessFlags := 9, nameIndex := 90, descriptorIndex := 105, attributes := #[] }, { accessFlags := 9, nameIndex := 90, descriptorIndex := 91, attributes := #[] }, { accessFlags := 9, nameIndex := 101, descriptorIndex := 98, attributes := #[] }, { accessFlags := 10, nameIndex := 97, descriptorIndex := 98, attributes := #[] }, { accessFlags := 9, nameIndex := 17, descriptorIndex := 27, attributes := #[] }] 48 4 #[] #[{ accessFlags := 4120, nameIndex := 121, descriptorIndex := 122, attributes := #[] }])
  fields := #[{ name := "$assertionsDisabled", type := .boolean, accessFlags := 4120, slot := 0, constantValue := 0 }]
  methods := #[k15m0, k15m1, k15m2, k15m3, k15m4, k15m5, k15m6]
  instanceTypes := #[]
  staticTypes := #[.boolean]
  resolved := Array.replicate 395 none
  statics := none }

def pool16 : Array CpInfo := pool [(2, .class_ 4), (1, u "java/lang/Object"), (0, u "<init>"), (0, u "()V"), (17, .class_ 26), (1, u "jdk/internal/util/Preconditions"), (6, u "checkIndex"), (15, u "checkFromIndexSize"), (5, .class_ 56), (0, u "jdk/internal/util/Preconditions$4"), (57, .class_ 115), (0, u "jdk/internal/util/Preconditions$1"), (7, u "SIOOBE_FORMATTER"), (0, u "Ljava/util/function/BiFunction;"), (0, .class_ 126), (0, u "jdk/internal/util/Preconditions$2"), (3, u "AIOOBE_FORMATTER"), (0, .class_ 132), (0, u "jdk/internal/util/Preconditions$3"), (3, u "IOOBE_FORMATTER"), (41, u "(IILjava/util/function/BiFunction;)I"), (4, u "(IIILjava/util/function/BiFunction;)I")] 10

def k16m0 : Method := { name := "<init>", desc := "()V", sig := { parameters := [], returnType := none }, accessFlags := 1, code := none }
def k16c1 : Code := { maxStack := 3, maxLocals := 3, code := jdk_41_method_11_code, exceptionTable := #[], attributes := #[] }
def k16m1 : Method := { name := "checkIndex", desc := "(IILjava/util/function/BiFunction;)I", sig := { parameters := [.int, .int, (.object "java/util/function/BiFunction")], returnType := some .int }, accessFlags := 9, code := some k16c1 }
def k16c2 : Code := { maxStack := 4, maxLocals := 4, code := jdk_41_method_13_code, exceptionTable := #[], attributes := #[] }
def k16m2 : Method := { name := "checkFromIndexSize", desc := "(IIILjava/util/function/BiFunction;)I", sig := { parameters := [.int, .int, .int, (.object "java/util/function/BiFunction")], returnType := some .int }, accessFlags := 9, code := some k16c2 }
/-- jdk/internal/util/Preconditions -/
def k16 : Class := { plain "jdk/internal/util/Preconditions" (some 0) with
  accessFlags := 33
  interfaces := #[]
  cf := some (fileOf pool16 24 #[.nestMembers #[55, 131, 125, 114]] #[{ accessFlags := 1, nameIndex := 5, descriptorIndex := 6, attributes := #[] }, { accessFlags := 9, nameIndex := 33, descriptorIndex := 178, attributes := #[] }, { accessFlags := 9, nameIndex := 49, descriptorIndex := 183, attributes := #[] }] 33 2 #[] #[{ accessFlags := 25, nameIndex := 123, descriptorIndex := 124, attributes := #[] }, { accessFlags := 25, nameIndex := 130, descriptorIndex := 124, attributes := #[] }, { accessFlags := 25, nameIndex := 136, descriptorIndex := 124, attributes := #[] }])
  fields := #[{ name := "SIOOBE_FORMATTER", type := (.object "java/util/function/BiFunction"), accessFlags := 25, slot := 0, constantValue := 0 }, { name := "AIOOBE_FORMATTER", type := (.object "java/util/function/BiFunction"), accessFlags := 25, slot := 1, constantValue := 0 }, { name := "IOOBE_FORMATTER", type := (.object "java/util/function/BiFunction"), accessFlags := 25, slot := 2, constantValue := 0 }]
  methods := #[k16m0, k16m1, k16m2]
  instanceTypes := #[]
  staticTypes := #[(.object "java/util/function/BiFunction"), (.object "java/util/function/BiFunction"), (.object "java/util/function/BiFunction")]
  resolved := Array.replicate 194 none
  statics := some 2 }

def pool17 : Array CpInfo := pool [(1, .class_ 2), (0, u "java/lang/Math"), (1, .class_ 6), (1, u "java/lang/Object"), (0, u "<init>"), (0, u "()V"), (89, .class_ 100), (1, u "java/lang/Math$RandomNumberGeneratorHolder"), (71, u "negativeZeroFloatBits"), (0, u "J"), (2, u "negativeZeroDoubleBits"), (21, u "max"), (2, u "min"), (43, u "$assertionsDisabled"), (0, u "Z"), (88, u "(II)I"), (2, u "twoToTheDoubleScaleDown"), (0, u "D"), (4, u "twoToTheDoubleScaleUp"), (9, u "E"), (3, u "PI"), (2, u "TAU"), (2, u "DEGREES_TO_RADIANS"), (0, u "RADIANS_TO_DEGREES")] 94

def k17m0 : Method := { name := "<init>", desc := "()V", sig := { parameters := [], returnType := none }, accessFlags := 2, code := none }
def k17c1 : Code := { maxStack := 2, maxLocals := 2, code := jdk_29_method_65_code, exceptionTable := #[], attributes := #[] }
def k17m1 : Method := { name := "max", desc := "(II)I", sig := { parameters := [.int, .int], returnType := some .int }, accessFlags := 9, code := some k17c1 }
def k17c2 : Code := { maxStack := 2, maxLocals := 2, code := jdk_29_method_69_code, exceptionTable := #[], attributes := #[] }
def k17m2 : Method := { name := "min", desc := "(II)I", sig := { parameters := [.int, .int], returnType := some .int }, accessFlags := 9, code := some k17c2 }
/-- java/lang/Math -/
def k17 : Class := { plain "java/lang/Math" (some 0) with
  accessFlags := 49
  interfaces := #[]
  cf := some (fileOf pool17 1 #[.nestMembers #[98]] #[{ accessFlags := 2, nameIndex := 7, descriptorIndex := 8, attributes := #[] }, { accessFlags := 9, nameIndex := 198, descriptorIndex := 335, attributes := #[] }, { accessFlags := 9, nameIndex := 201, descriptorIndex := 335, attributes := #[] }] 49 4 #[] #[{ accessFlags := 25, nameIndex := 354, descriptorIndex := 339, attributes := #[] }, { accessFlags := 25, nameIndex := 358, descriptorIndex := 339, attributes := #[] }, { accessFlags := 25, nameIndex := 361, descriptorIndex := 339, attributes := #[] }, { accessFlags := 26, nameIndex := 364, descriptorIndex := 339, attributes := #[] }, { accessFlags := 26, nameIndex := 365, descriptorIndex := 339, attributes := #[] }, { accessFlags := 26, nameIndex := 172, descriptorIndex := 173, attributes := #[] }, { accessFlags := 26, nameIndex := 176, descriptorIndex := 173, attributes := #[] }, { accessFlags := 8, nameIndex := 344, descriptorIndex := 339, attributes := #[] }, { accessFlags := 8, nameIndex := 338, descriptorIndex := 339, attributes := #[] }, { accessFlags := 4120, nameIndex := 245, descriptorIndex := 246, attributes := #[] }])
  fields := #[{ name := "E", type := .double, accessFlags := 25, slot := 0, constantValue := 0 }, { name := "PI", type := .double, accessFlags := 25, slot := 1, constantValue := 0 }, { name := "TAU", type := .double, accessFlags := 25, slot := 2, constantValue := 0 }, { name := "DEGREES_TO_RADIANS", type := .double, accessFlags := 26, slot := 3, constantValue := 0 }, { name := "RADIANS_TO_DEGREES", type := .double, accessFlags := 26, slot := 4, constantValue := 0 }, { name := "negativeZeroFloatBits", type := .long, accessFlags := 26, slot := 5, constantValue := 0 }, { name := "negativeZeroDoubleBits", type := .long, accessFlags := 26, slot := 6, constantValue := 0 }, { name := "twoToTheDoubleScaleUp", type := .double, accessFlags := 8, slot := 7, constantValue := 0 }, { name := "twoToTheDoubleScaleDown", type := .double, accessFlags := 8, slot := 8, constantValue := 0 }, { name := "$assertionsDisabled", type := .boolean, accessFlags := 4120, slot := 9, constantValue := 0 }]
  methods := #[k17m0, k17m1, k17m2]
  instanceTypes := #[]
  staticTypes := #[.double, .double, .double, .double, .double, .long, .long, .double, .double, .boolean]
  resolved := Array.replicate 460 none
  statics := none }

def pool18 : Array CpInfo := pool [(9, u "<init>"), (6, .class_ 18), (1, u "java/lang/Object"), (0, u "()V"), (1, .class_ 23), (1, u "jdk/internal/util/ArraysSupport"), (0, u "LOG2_ARRAY_LONG_INDEX_SCALE"), (0, u "I"), (2, u "U"), (0, u "Ljdk/internal/misc/Unsafe;"), (8, u "BIG_ENDIAN"), (0, u "Z"), (8, u "LOG2_BYTE_BIT_SIZE"), (4, u "LOG2_ARRAY_INT_INDEX_SCALE"), (54, u "JLA"), (0, u "Ljdk/internal/access/JavaLangAccess;"), (11, u "LOG2_ARRAY_BOOLEAN_INDEX_SCALE"), (9, u "LOG2_ARRAY_BYTE_INDEX_SCALE"), (5, u "LOG2_ARRAY_CHAR_INDEX_SCALE"), (5, u "LOG2_ARRAY_SHORT_INDEX_SCALE"), (18, u "LOG2_ARRAY_FLOAT_INDEX_SCALE"), (24, u "LOG2_ARRAY_DOUBLE_INDEX_SCALE"), (6, .methodref 195 196), (0, .class_ 197), (0, .nameAndType 198 199), (0, u "java/lang/Math"), (0, u "max"), (0, u "(II)I"), (0, .integer 2147483639), (76, u "T_BOOLEAN"), (2, u "T_CHAR"), (1, u "T_FLOAT"), (1, u "T_DOUBLE"), (1, u "T_BYTE"), (1, u "T_SHORT"), (1, u "T_INT"), (1, u "T_LONG"), (1, u "SOFT_MAX_ARRAY_LENGTH"), (56, u "newLength"), (0, u "(III)I")] 25

def k18m0 : Method := { name := "<init>", desc := "()V", sig := { parameters := [], returnType := none }, accessFlags := 2, code := none }
def k18c1 : Code := { maxStack := 3, maxLocals := 4, code := jdk_48_method_27_code, exceptionTable := #[], attributes := #[] }
def k18m1 : Method := { name := "newLength", desc := "(III)I", sig := { parameters := [.int, .int, .int], returnType := some .int }, accessFlags := 9, code := some k18c1 }
/-- jdk/internal/util/ArraysSupport -/
def k18 : Class := { plain "jdk/internal/util/ArraysSupport" (some 0) with
  accessFlags := 33
  interfaces := #[]
  cf := some (fileOf pool18 21 #[] #[{ accessFlags := 2, nameIndex := 9, descriptorIndex := 19, attributes := #[] }, { accessFlags := 9, nameIndex := 351, descriptorIndex := 352, attributes := #[] }] 33 16 #[] #[{ accessFlags := 24, nameIndex := 28, descriptorIndex := 29, attributes := #[] }, { accessFlags := 26, nameIndex := 38, descriptorIndex := 39, attributes := #[] }, { accessFlags := 25, nameIndex := 121, descriptorIndex := 25, attributes := #[] }, { accessFlags := 25, nameIndex := 131, descriptorIndex := 25, attributes := #[] }, { accessFlags := 25, nameIndex := 137, descriptorIndex := 25, attributes := #[] }, { accessFlags := 25, nameIndex := 143, descriptorIndex := 25, attributes := #[] }, { accessFlags := 25, nameIndex := 53, descriptorIndex := 25, attributes := #[] }, { accessFlags := 25, nameIndex := 24, descriptorIndex := 25, attributes := #[] }, { accessFlags := 25, nameIndex := 162, descriptorIndex := 25, attributes := #[] }, { accessFlags := 25, nameIndex := 187, descriptorIndex := 25, attributes := #[] }, { accessFlags := 26, nameIndex := 48, descriptorIndex := 25, attributes := #[] }, { accessFlags := 25, nameIndex := 277, descriptorIndex := 25, attributes := #[] }, { accessFlags := 25, nameIndex := 280, descriptorIndex := 25, attributes := #[] }, { accessFlags := 25, nameIndex := 282, descriptorIndex := 25, attributes := #[] }, { accessFlags := 25, nameIndex := 284, descriptorIndex := 25, attributes := #[] }, { accessFlags := 25, nameIndex := 286, descriptorIndex := 25, attributes := #[] }, { accessFlags := 25, nameIndex := 288, descriptorIndex := 25, attributes := #[] }, { accessFlags := 25, nameIndex := 290, descriptorIndex := 25, attributes := #[] }, { accessFlags := 25, nameIndex := 292, descriptorIndex := 25, attributes := #[] }, { accessFlags := 26, nameIndex := 108, descriptorIndex := 109, attributes := #[] }, { accessFlags := 25, nameIndex := 294, descriptorIndex := 25, attributes := #[] }])
  fields := #[{ name := "U", type := (.object "jdk/internal/misc/Unsafe"), accessFlags := 24, slot := 0, constantValue := 0 }, { name := "BIG_ENDIAN", type := .boolean, accessFlags := 26, slot := 1, constantValue := 0 }, { name := "LOG2_ARRAY_BOOLEAN_INDEX_SCALE", type := .int, accessFlags := 25, slot := 2, constantValue := 0 }, { name := "LOG2_ARRAY_BYTE_INDEX_SCALE", type := .int, accessFlags := 25, slot := 3, constantValue := 0 }, { name := "LOG2_ARRAY_CHAR_INDEX_SCALE", type := .int, accessFlags := 25, slot := 4, constantValue := 0 }, { name := "LOG2_ARRAY_SHORT_INDEX_SCALE", type := .int, accessFlags := 25, slot := 5, constantValue := 0 }, { name := "LOG2_ARRAY_INT_INDEX_SCALE", type := .int, accessFlags := 25, slot := 6, constantValue := 0 }, { name := "LOG2_ARRAY_LONG_INDEX_SCALE", type := .int, accessFlags := 25, slot := 7, constantValue := 0 }, { name := "LOG2_ARRAY_FLOAT_INDEX_SCALE", type := .int, accessFlags := 25, slot := 8, constantValue := 0 }, { name := "LOG2_ARRAY_DOUBLE_INDEX_SCALE", type := .int, accessFlags := 25, slot := 9, constantValue := 0 }, { name := "LOG2_BYTE_BIT_SIZE", type := .int, accessFlags := 26, slot := 10, constantValue := 0 }, { name := "T_BOOLEAN", type := .int, accessFlags := 25, slot := 11, constantValue := 0 }, { name := "T_CHAR", type := .int, accessFlags := 25, slot := 12, constantValue := 0 }, { name := "T_FLOAT", type := .int, accessFlags := 25, slot := 13, constantValue := 0 }, { name := "T_DOUBLE", type := .int, accessFlags := 25, slot := 14, constantValue := 0 }, { name := "T_BYTE", type := .int, accessFlags := 25, slot := 15, constantValue := 0 }, { name := "T_SHORT", type := .int, accessFlags := 25, slot := 16, constantValue := 0 }, { name := "T_INT", type := .int, accessFlags := 25, slot := 17, constantValue := 0 }, { name := "T_LONG", type := .int, accessFlags := 25, slot := 18, constantValue := 0 }, { name := "JLA", type := (.object "jdk/internal/access/JavaLangAccess"), accessFlags := 26, slot := 19, constantValue := 0 }, { name := "SOFT_MAX_ARRAY_LENGTH", type := .int, accessFlags := 25, slot := 20, constantValue := 0 }]
  methods := #[k18m0, k18m1]
  instanceTypes := #[]
  staticTypes := #[(.object "jdk/internal/misc/Unsafe"), .boolean, .int, .int, .int, .int, .int, .int, .int, .int, .int, .int, .int, .int, .int, .int, .int, .int, .int, (.object "jdk/internal/access/JavaLangAccess"), .int]
  resolved := Array.replicate 378 none
  statics := none }

def pool19 : Array CpInfo := pool [(2, .class_ 4), (1, u "java/lang/Object"), (0, u "<init>"), (0, u "()V"), (1, .class_ 10), (1, u "java/lang/System"), (0, u "allowSecurityManager"), (0, u "I"), (16, u "cons"), (0, u "Ljava/io/Console;"), (77, .class_ 110), (1, u "java/lang/System$CallersHolder"), (43, u "initialErrStream"), (0, u "Ljava/io/PrintStream;"), (19, u "security"), (0, u "Ljava/lang/SecurityManager;"), (31, .class_ 209), (0, u "java/lang/System$1"), (7, u "props"), (0, u "Ljava/util/Properties;"), (2, u "lineSeparator"), (0, u "Ljava/lang/String;"), (96, .class_ 321), (1, u "java/lang/System$LoggerFinder"), (5, .class_ 328), (0, u "java/lang/System$Logger"), (67, u "err"), (2, u "out"), (91, u "notSupportedJnuEncoding"), (15, u "in"), (17, u "initialIn"), (0, u "Ljava/io/InputStream;"), (35, u "bootLayer"), (0, u "Ljava/lang/ModuleLayer;"), (99, .class_ 664), (0, u "java/lang/System$2"), (9, u "NEVER"), (2, u "MAYBE"), (49, u "arraycopy"), (0, u "(Ljava/lang/Object;ILjava/lang/Object;II)V"), (72, .class_ 802), (0, u "java/lang/System$Logger$Level")] 31

def k19m0 : Method := { name := "<init>", desc := "()V", sig := { parameters := [], returnType := none }, accessFlags := 2, code := none }
def k19m1 : Method := { name := "arraycopy", desc := "(Ljava/lang/Object;ILjava/lang/Object;II)V", sig := { parameters := [(.object "java/lang/Object"), .int, (.object "java/lang/Object"), .int, .int], returnType := none }, accessFlags := 265, code := none }
/-- java/lang/System -/
def k19 : Class := { plain "java/lang/System" (some 0) with
  accessFlags := 49
  interfaces := #[]
  cf := some (fileOf pool19 8 #[.nestMembers #[319, 327, 801, 108, 663, 208]] #[{ accessFlags := 2, nameIndex := 5, descriptorIndex := 6, attributes := #[] }, { accessFlags := 265, nameIndex := 727, descriptorIndex := 728, attributes := #[] }] 49 2 #[] #[{ accessFlags := 25, nameIndex := 507, descriptorIndex := 526, attributes := #[] }, { accessFlags := 25, nameIndex := 399, descriptorIndex := 155, attributes := #[] }, { accessFlags := 25, nameIndex := 396, descriptorIndex := 155, attributes := #[] }, { accessFlags := 10, nameIndex := 525, descriptorIndex := 526, attributes := #[] }, { accessFlags := 26, nameIndex := 674, descriptorIndex := 12, attributes := #[] }, { accessFlags := 26, nameIndex := 677, descriptorIndex := 12, attributes := #[] }, { accessFlags := 10, nameIndex := 11, descriptorIndex := 12, attributes := #[] }, { accessFlags := 74, nameIndex := 175, descriptorIndex := 176, attributes := #[] }, { accessFlags := 10, nameIndex := 491, descriptorIndex := 222, attributes := #[] }, { accessFlags := 74, nameIndex := 29, descriptorIndex := 30, attributes := #[] }, { accessFlags := 74, nameIndex := 154, descriptorIndex := 155, attributes := #[] }, { accessFlags := 10, nameIndex := 217, descriptorIndex := 218, attributes := #[] }, { accessFlags := 10, nameIndex := 221, descriptorIndex := 222, attributes := #[] }, { accessFlags := 8, nameIndex := 562, descriptorIndex := 563, attributes := #[] }])
  fields := #[{ name := "in", type := (.object "java/io/InputStream"), accessFlags := 25, slot := 0, constantValue := 0 }, { name := "out", type := (.object "java/io/PrintStream"), accessFlags := 25, slot := 1, constantValue := 0 }, { name := "err", type := (.object "java/io/PrintStream"), accessFlags := 25, slot := 2, constantValue := 0 }, { name := "initialIn", type := (.object "java/io/InputStream"), accessFlags := 10, slot := 3, constantValue := 0 }, { name := "NEVER", type := .int, accessFlags := 26, slot := 4, constantValue := 0 }, { name := "MAYBE", type := .int, accessFlags := 26, slot := 5, constantValue := 0 }, { name := "allowSecurityManager", type := .int, accessFlags := 10, slot := 6, constantValue := 0 }, { name := "security", type := (.object "java/lang/SecurityManager"), accessFlags := 74, slot := 7, constantValue := 0 }, { name := "notSupportedJnuEncoding", type := (.object "java/lang/String"), accessFlags := 10, slot := 8, constantValue := 0 }, { name := "cons", type := (.object "java/io/Console"), accessFlags := 74, slot := 9, constantValue := 0 }, { name := "initialErrStream", type := (.object "java/io/PrintStream"), accessFlags := 74, slot := 10, constantValue := 0 }, { name := "props", type := (.object "java/util/Properties"), accessFlags := 10, slot := 11, constantValue := 0 }, { name := "lineSeparator", type := (.object "java/lang/String"), accessFlags := 10, slot := 12, constantValue := 0 }, { name := "bootLayer", type := (.object "java/lang/ModuleLayer"), accessFlags := 8, slot := 13, constantValue := 0 }]
  methods := #[k19m0, k19m1]
  instanceTypes := #[]
  staticTypes := #[(.object "java/io/InputStream"), (.object "java/io/PrintStream"), (.object "java/io/PrintStream"), (.object "java/io/InputStream"), .int, .int, .int, (.object "java/lang/SecurityManager"), (.object "java/lang/String"), (.object "java/io/Console"), (.object "java/io/PrintStream"), (.object "java/util/Properties"), (.object "java/lang/String"), (.object "java/lang/ModuleLayer")]
  resolved := Array.replicate 834 none
  statics := none }

/-- the primitive byte -/
def k20 : Class := { plain "byte" none with kind := .primitive 'B', accessFlags := 0x411 }
/-- [B -/
def k21 : Class := { plain "[B" (some 0) with kind := .array 20 .byte, interfaces := #[13, 2], accessFlags := 1041 }

/-- the primitive char -/
def k22 : Class := { plain "char" none with kind := .primitive 'C', accessFlags := 0x411 }
/-- [C -/
def k23 : Class := { plain "[C" (some 0) with kind := .array 22 .char, interfaces := #[13, 2], accessFlags := 1041 }

/-- the primitive int -/
def k24 : Class := { plain "int" none with kind := .primitive 'I', accessFlags := 0x411 }
/-- [I -/
def k25 : Class := { plain "[I" (some 0) with kind := .array 24 .int, interfaces := #[13, 2], accessFlags := 1041 }

def heap : Heap := #[{ cls := 7, slots := #[.long 0, .int 1, .null, .int 0, .null, .int 0, .int 0], vm := .statics 7 },
  { cls := 14, slots := #[.int 0, .int 8, .int 0, .int 1], vm := .statics 14 },
  { cls := 16, slots := #[.null, .null, .null], vm := .statics 16 }]
def classes : Array Class := #[k0, k1, k2, k3, k4, k5, k6, k7, k8, k9, k10, k11, k12, k13, k14, k15, k16, k17, k18, k19, k20, k21, k22, k23, k24, k25]
def interned : List (Array UInt16 × Addr) := []
def slotsUsed : Nat := 14
def theMethod : MethodId := ⟨1, 5⟩
def args0 : Array Value := #[.int 5, .int 6, .int 7, .int 8]
def aboutOver (below : List Frame) : State where
  vm := { classes := classes, interned := interned.toArray }
  heap := heap
  slotsUsed := slotsUsed
  threads := #[{ frames := .invoking theMethod args0 :: below }]
def below0 : List Frame := [.native { method := ⟨0, 0⟩, args := #[] }]
def about1 : State := aboutOver below0
def p0 : Program := .bare "" "" ""
def e0 : Env := launch0.env 0 0 0
theorem w_frames : about1.frames = Frame.invoking theMethod args0 :: below0 := rfl
set_option maxRecDepth 65536 in
theorem w_args : argsFit about1.vm theMethod args0 = true := by decide +kernel
set_option maxRecDepth 65536 in
theorem w_heap : heapFits about1 = true := by decide +kernel
set_option maxRecDepth 65536 in
theorem w_runnable : about1.curStatus? = some .runnable := by decide +kernel
set_option maxRecDepth 65536 in
theorem w_alone : about1.alone = true := by decide +kernel
set_option maxRecDepth 65536 in
theorem w_named : about1.methodNamed? x = some theMethod := by decide +kernel
set_option maxRecDepth 65536 in
theorem w_hears : about1.hears theMethod below0 = true := by decide +kernel
set_option maxRecDepth 65536 in
theorem w_ripe : about1.ripe theMethod args0 below0 = true := by decide +kernel
theorem w_running : about1.status = .running := rfl
set_option maxRecDepth 65536 in
theorem w_room : about1.hasRoom e0.platform room_1 = true :=
  launch0.hasRoom_least _ room_1 (by decide +kernel) (by decide +kernel) (by decide +kernel) (by decide +kernel) (by decide +kernel) (by decide +kernel)
theorem allAtoms_all (ts : List Jvm.Cond) (a : Array Jvm.Value) (st : Jvm.State) : (allAtoms ts).before a st = ts.all (fun c => c.before a st) := by
  induction ts with
  | nil => rfl
  | cons c t ih =>
    show (Jvm.Cond.and c (allAtoms t)).before a st = _
    rw [Jvm.Cond.before_and, ih, List.all_cons]
def words1 : List Jvm.Cond := Jvm.Cond.code x code maxLocals ret :: tables_1
/-- a 'code' word, met by the world's own term for the bytes: nothing is compared byte by byte -/
theorem code_word {y : MethodName} {bytes : ByteArray} {mx : Nat} {rt : Option FieldType} {a : Array Value} {s : State} {m : MethodId} {meth : Method} {c : Code} (h1 : s.methodNamed? y = some m) (h2 : s.vm.method? m = some meth) (h3 : meth.code = some c) (h4 : c.code = bytes)
    (h5 : (c.maxLocals == mx && c.exceptionTable.isEmpty && decide (c.maxStack ≤ mostOperands) && decide (meth.sig.returnType = rt) && !meth.locks && decide (parseMethodDescriptor y.desc = some meth.sig)) = true) : (Jvm.Cond.code y bytes mx rt).before a s = true := by
  simp only [Bool.and_eq_true, beq_iff_eq, Bool.not_eq_true', decide_eq_true_eq] at h5
  obtain ⟨⟨⟨⟨⟨g1, g2⟩, g3⟩, g4⟩, g5⟩, g6⟩ := h5
  simp [Cond.before, Cond.holds, Cond.value, h1, h2, h3, h4, g1, g2, g3, g4, g5, g6]
def isCode : Jvm.Cond → Bool
  | .code _ _ _ _ => true
  | _ => false
theorem all_split {L : List Jvm.Cond} {P : Jvm.Cond → Bool} (h1 : L.all (fun c => isCode c || P c) = true) (h2 : ∀ c ∈ L.filter isCode, P c = true) : L.all P = true := by
  refine List.all_eq_true.mpr fun c hc => ?_
  have h := List.all_eq_true.mp h1 c hc
  rcases Bool.eq_false_or_eq_true (isCode c) with hi | hi
  · exact h2 c (List.mem_filter.mpr ⟨hc, hi⟩)
  · simpa [hi] using h
set_option maxRecDepth 65536 in
theorem w_c0 : (Jvm.Cond.code x code maxLocals ret).before args0 about1 = true := code_word (m := ⟨1, 5⟩) (meth := k1m5) (c := k1c5) (by decide +kernel) rfl rfl rfl (by decide +kernel)
set_option maxRecDepth 65536 in
theorem w_c1 : (Jvm.Cond.code ({ cls := "com/example/oxpecker/oxpecker/MessageTemplateLiteralPinLaw", name := "pick", desc := "(I)C" } : Jvm.MethodName) method_2_code (2 : Nat) (Option.some Jvm.ClassFile.FieldType.char)).before args0 about1 = true := code_word (m := ⟨1, 1⟩) (meth := k1m1) (c := k1c1) (by decide +kernel) rfl rfl rfl (by decide +kernel)
set_option maxRecDepth 65536 in
theorem w_c2 : (Jvm.Cond.code ({ cls := "java/lang/String", name := "<init>", desc := "([C)V" } : Jvm.MethodName) jdk_42_method_3_code (2 : Nat) (Option.none : Option Jvm.ClassFile.FieldType)).before args0 about1 = true := code_word (m := ⟨7, 1⟩) (meth := k7m1) (c := k7c1) (by decide +kernel) rfl rfl rfl (by decide +kernel)
set_option maxRecDepth 65536 in
theorem w_c3 : (Jvm.Cond.code ({ cls := "java/lang/String", name := "<init>", desc := "([CIILjava/lang/Void;)V" } : Jvm.MethodName) jdk_42_method_149_code (6 : Nat) (Option.none : Option Jvm.ClassFile.FieldType)).before args0 about1 = true := code_word (m := ⟨7, 7⟩) (meth := k7m7) (c := k7c7) (by decide +kernel) rfl rfl rfl (by decide +kernel)
set_option maxRecDepth 65536 in
theorem w_c4 : (Jvm.Cond.code ({ cls := "java/lang/Object", name := "<init>", desc := "()V" } : Jvm.MethodName) object_method_1_code (1 : Nat) (Option.none : Option Jvm.ClassFile.FieldType)).before args0 about1 = true := code_word (m := ⟨0, 0⟩) (meth := k0m0) (c := k0c0) (by decide +kernel) rfl rfl rfl (by decide +kernel)
set_option maxRecDepth 65536 in
theorem w_c5 : (Jvm.Cond.code ({ cls := "com/example/oxpecker/oxpecker/MessageTemplate", name := "literal", desc := "(Ljava/lang/String;)Ljava/lang/String;" } : Jvm.MethodName) prog_5_method_5_code (4 : Nat) (Option.some (Jvm.ClassFile.FieldType.object "java/lang/String"))).before args0 about1 = true := code_word (m := ⟨8, 1⟩) (meth := k8m1) (c := k8c1) (by decide +kernel) rfl rfl rfl (by decide +kernel)
set_option maxRecDepth 65536 in
theorem w_c6 : (Jvm.Cond.code ({ cls := "java/lang/String", name := "length", desc := "()I" } : Jvm.MethodName) jdk_42_method_54_code (1 : Nat) (Option.some Jvm.ClassFile.FieldType.int)).before args0 about1 = true := code_word (m := ⟨7, 3⟩) (meth := k7m3) (c := k7c3) (by decide +kernel) rfl rfl rfl (by decide +kernel)
set_option maxRecDepth 65536 in
theorem w_c7 : (Jvm.Cond.code ({ cls := "java/lang/String", name := "coder", desc := "()B" } : Jvm.MethodName) jdk_42_method_152_code (1 : Nat) (Option.some Jvm.ClassFile.FieldType.byte)).before args0 about1 = true := code_word (m := ⟨7, 9⟩) (meth := k7m9) (c := k7c9) (by decide +kernel) rfl rfl rfl (by decide +kernel)
set_option maxRecDepth 65536 in
theorem w_c8 : (Jvm.Cond.code ({ cls := "java/lang/StringBuilder", name := "<init>", desc := "(I)V" } : Jvm.MethodName) jdk_67_method_2_code (2 : Nat) (Option.none : Option Jvm.ClassFile.FieldType)).before args0 about1 = true := code_word (m := ⟨11, 1⟩) (meth := k11m1) (c := k11c1) (by decide +kernel) rfl rfl rfl (by decide +kernel)
set_option maxRecDepth 65536 in
theorem w_c9 : (Jvm.Cond.code ({ cls := "java/lang/AbstractStringBuilder", name := "<init>", desc := "(I)V" } : Jvm.MethodName) jdk_68_method_2_code (2 : Nat) (Option.none : Option Jvm.ClassFile.FieldType)).before args0 about1 = true := code_word (m := ⟨10, 1⟩) (meth := k10m1) (c := k10c1) (by decide +kernel) rfl rfl rfl (by decide +kernel)
set_option maxRecDepth 65536 in
theorem w_c10 : (Jvm.Cond.code ({ cls := "java/lang/StringBuilder", name := "toString", desc := "()Ljava/lang/String;" } : Jvm.MethodName) jdk_67_method_42_code (1 : Nat) (Option.some (Jvm.ClassFile.FieldType.object "java/lang/String"))).before args0 about1 = true := code_word (m := ⟨11, 3⟩) (meth := k11m3) (c := k11c3) (by decide +kernel) rfl rfl rfl (by decide +kernel)
set_option maxRecDepth 65536 in
theorem w_c11 : (Jvm.Cond.code ({ cls := "java/lang/String", name := "<init>", desc := "(Ljava/lang/StringBuilder;)V" } : Jvm.MethodName) jdk_42_method_53_code (2 : Nat) (Option.none : Option Jvm.ClassFile.FieldType)).before args0 about1 = true := code_word (m := ⟨7, 2⟩) (meth := k7m2) (c := k7c2) (by decide +kernel) rfl rfl rfl (by decide +kernel)
set_option maxRecDepth 65536 in
theorem w_c12 : (Jvm.Cond.code ({ cls := "java/lang/String", name := "<init>", desc := "(Ljava/lang/AbstractStringBuilder;Ljava/lang/Void;)V" } : Jvm.MethodName) jdk_42_method_150_code (5 : Nat) (Option.none : Option Jvm.ClassFile.FieldType)).before args0 about1 = true := code_word (m := ⟨7, 8⟩) (meth := k7m8) (c := k7c8) (by decide +kernel) rfl rfl rfl (by decide +kernel)
set_option maxRecDepth 65536 in
theorem w_c13 : (Jvm.Cond.code ({ cls := "java/lang/AbstractStringBuilder", name := "getValue", desc := "()[B" } : Jvm.MethodName) jdk_68_method_64_code (1 : Nat) (Option.some (Jvm.ClassFile.FieldType.array Jvm.ClassFile.FieldType.byte))).before args0 about1 = true := code_word (m := ⟨10, 7⟩) (meth := k10m7) (c := k10c7) (by decide +kernel) rfl rfl rfl (by decide +kernel)
set_option maxRecDepth 65536 in
theorem w_c14 : (Jvm.Cond.code ({ cls := "java/lang/StringBuilder", name := "length", desc := "()I" } : Jvm.MethodName) jdk_67_method_93_code (1 : Nat) (Option.some Jvm.ClassFile.FieldType.int)).before args0 about1 = true := code_word (m := ⟨11, 4⟩) (meth := k11m4) (c := k11c4) (by decide +kernel) rfl rfl rfl (by decide +kernel)
set_option maxRecDepth 65536 in
theorem w_c15 : (Jvm.Cond.code ({ cls := "java/lang/AbstractStringBuilder", name := "length", desc := "()I" } : Jvm.MethodName) jdk_68_method_6_code (1 : Nat) (Option.some Jvm.ClassFile.FieldType.int)).before args0 about1 = true := code_word (m := ⟨10, 2⟩) (meth := k10m2) (c := k10c2) (by decide +kernel) rfl rfl rfl (by decide +kernel)
set_option maxRecDepth 65536 in
theorem w_c16 : (Jvm.Cond.code ({ cls := "java/lang/AbstractStringBuilder", name := "isLatin1", desc := "()Z" } : Jvm.MethodName) jdk_68_method_68_code (1 : Nat) (Option.some Jvm.ClassFile.FieldType.boolean)).before args0 about1 = true := code_word (m := ⟨10, 8⟩) (meth := k10m8) (c := k10c8) (by decide +kernel) rfl rfl rfl (by decide +kernel)
set_option maxRecDepth 65536 in
theorem w_c17 : (Jvm.Cond.code ({ cls := "java/util/Arrays", name := "copyOfRange", desc := "([BII)[B" } : Jvm.MethodName) jdk_65_method_132_code (3 : Nat) (Option.some (Jvm.ClassFile.FieldType.array Jvm.ClassFile.FieldType.byte))).before args0 about1 = true := code_word (m := ⟨12, 3⟩) (meth := k12m3) (c := k12c3) (by decide +kernel) rfl rfl rfl (by decide +kernel)
set_option maxRecDepth 65536 in
theorem w_c18 : (Jvm.Cond.code ({ cls := "java/lang/StringUTF16", name := "compress", desc := "([CII)[B" } : Jvm.MethodName) jdk_52_method_16_code (6 : Nat) (Option.some (Jvm.ClassFile.FieldType.array Jvm.ClassFile.FieldType.byte))).before args0 about1 = true := code_word (m := ⟨14, 8⟩) (meth := k14m8) (c := k14c8) (by decide +kernel) rfl rfl rfl (by decide +kernel)
set_option maxRecDepth 65536 in
theorem w_c19 : (Jvm.Cond.code ({ cls := "java/lang/StringUTF16", name := "compress", desc := "([CI[BII)I" } : Jvm.MethodName) jdk_52_method_21_code (7 : Nat) (Option.some Jvm.ClassFile.FieldType.int)).before args0 about1 = true := code_word (m := ⟨14, 9⟩) (meth := k14m9) (c := k14c9) (by decide +kernel) rfl rfl rfl (by decide +kernel)
set_option maxRecDepth 65536 in
theorem w_c20 : (Jvm.Cond.code ({ cls := "java/lang/StringUTF16", name := "coderFromArrayLen", desc := "([BI)B" } : Jvm.MethodName) jdk_52_method_15_code (2 : Nat) (Option.some Jvm.ClassFile.FieldType.byte)).before args0 about1 = true := code_word (m := ⟨14, 7⟩) (meth := k14m7) (c := k14c7) (by decide +kernel) rfl rfl rfl (by decide +kernel)
set_option maxRecDepth 65536 in
theorem w_c21 : (Jvm.Cond.code ({ cls := "java/lang/String", name := "charAt", desc := "(I)C" } : Jvm.MethodName) jdk_42_method_56_code (2 : Nat) (Option.some Jvm.ClassFile.FieldType.char)).before args0 about1 = true := code_word (m := ⟨7, 4⟩) (meth := k7m4) (c := k7c4) (by decide +kernel) rfl rfl rfl (by decide +kernel)
set_option maxRecDepth 65536 in
theorem w_c22 : (Jvm.Cond.code ({ cls := "java/lang/String", name := "isLatin1", desc := "()Z" } : Jvm.MethodName) jdk_42_method_154_code (1 : Nat) (Option.some Jvm.ClassFile.FieldType.boolean)).before args0 about1 = true := code_word (m := ⟨7, 10⟩) (meth := k7m10) (c := k7c10) (by decide +kernel) rfl rfl rfl (by decide +kernel)
set_option maxRecDepth 65536 in
theorem w_c23 : (Jvm.Cond.code ({ cls := "java/lang/StringLatin1", name := "charAt", desc := "([BI)C" } : Jvm.MethodName) jdk_43_method_2_code (2 : Nat) (Option.some Jvm.ClassFile.FieldType.char)).before args0 about1 = true := code_word (m := ⟨15, 1⟩) (meth := k15m1) (c := k15c1) (by decide +kernel) rfl rfl rfl (by decide +kernel)
set_option maxRecDepth 65536 in
theorem w_c24 : (Jvm.Cond.code ({ cls := "java/lang/String", name := "checkIndex", desc := "(II)V" } : Jvm.MethodName) jdk_42_method_155_code (2 : Nat) (Option.none : Option Jvm.ClassFile.FieldType)).before args0 about1 = true := code_word (m := ⟨7, 11⟩) (meth := k7m11) (c := k7c11) (by decide +kernel) rfl rfl rfl (by decide +kernel)
set_option maxRecDepth 65536 in
theorem w_c25 : (Jvm.Cond.code ({ cls := "jdk/internal/util/Preconditions", name := "checkIndex", desc := "(IILjava/util/function/BiFunction;)I" } : Jvm.MethodName) jdk_41_method_11_code (3 : Nat) (Option.some Jvm.ClassFile.FieldType.int)).before args0 about1 = true := code_word (m := ⟨16, 1⟩) (meth := k16m1) (c := k16c1) (by decide +kernel) rfl rfl rfl (by decide +kernel)
set_option maxRecDepth 65536 in
theorem w_c26 : (Jvm.Cond.code ({ cls := "java/lang/String", name := "indexOf", desc := "(I)I" } : Jvm.MethodName) jdk_42_method_79_code (2 : Nat) (Option.some Jvm.ClassFile.FieldType.int)).before args0 about1 = true := code_word (m := ⟨7, 5⟩) (meth := k7m5) (c := k7c5) (by decide +kernel) rfl rfl rfl (by decide +kernel)
set_option maxRecDepth 65536 in
theorem w_c27 : (Jvm.Cond.code ({ cls := "java/lang/String", name := "indexOf", desc := "(II)I" } : Jvm.MethodName) jdk_42_method_80_code (3 : Nat) (Option.some Jvm.ClassFile.FieldType.int)).before args0 about1 = true := code_word (m := ⟨7, 6⟩) (meth := k7m6) (c := k7c6) (by decide +kernel) rfl rfl rfl (by decide +kernel)
set_option maxRecDepth 65536 in
theorem w_c28 : (Jvm.Cond.code ({ cls := "java/lang/StringLatin1", name := "indexOf", desc := "([BIII)I" } : Jvm.MethodName) jdk_43_method_22_code (4 : Nat) (Option.some Jvm.ClassFile.FieldType.int)).before args0 about1 = true := code_word (m := ⟨15, 4⟩) (meth := k15m4) (c := k15c4) (by decide +kernel) rfl rfl rfl (by decide +kernel)
set_option maxRecDepth 65536 in
theorem w_c29 : (Jvm.Cond.code ({ cls := "java/lang/StringLatin1", name := "canEncode", desc := "(I)Z" } : Jvm.MethodName) jdk_43_method_4_code (1 : Nat) (Option.some Jvm.ClassFile.FieldType.boolean)).before args0 about1 = true := code_word (m := ⟨15, 3⟩) (meth := k15m3) (c := k15c3) (by decide +kernel) rfl rfl rfl (by decide +kernel)
set_option maxRecDepth 65536 in
theorem w_c30 : (Jvm.Cond.code ({ cls := "java/lang/Math", name := "max", desc := "(II)I" } : Jvm.MethodName) jdk_29_method_65_code (2 : Nat) (Option.some Jvm.ClassFile.FieldType.int)).before args0 about1 = true := code_word (m := ⟨17, 1⟩) (meth := k17m1) (c := k17c1) (by decide +kernel) rfl rfl rfl (by decide +kernel)
set_option maxRecDepth 65536 in
theorem w_c31 : (Jvm.Cond.code ({ cls := "java/lang/Math", name := "min", desc := "(II)I" } : Jvm.MethodName) jdk_29_method_69_code (2 : Nat) (Option.some Jvm.ClassFile.FieldType.int)).before args0 about1 = true := code_word (m := ⟨17, 2⟩) (meth := k17m2) (c := k17c2) (by decide +kernel) rfl rfl rfl (by decide +kernel)
set_option maxRecDepth 65536 in
theorem w_c32 : (Jvm.Cond.code ({ cls := "java/lang/StringLatin1", name := "indexOfChar", desc := "([BIII)I" } : Jvm.MethodName) jdk_43_method_23_code (6 : Nat) (Option.some Jvm.ClassFile.FieldType.int)).before args0 about1 = true := code_word (m := ⟨15, 5⟩) (meth := k15m5) (c := k15c5) (by decide +kernel) rfl rfl rfl (by decide +kernel)
set_option maxRecDepth 65536 in
theorem w_c33 : (Jvm.Cond.code ({ cls := "java/lang/StringBuilder", name := "append", desc := "(C)Ljava/lang/StringBuilder;" } : Jvm.MethodName) jdk_67_method_14_code (2 : Nat) (Option.some (Jvm.ClassFile.FieldType.object "java/lang/StringBuilder"))).before args0 about1 = true := code_word (m := ⟨11, 2⟩) (meth := k11m2) (c := k11c2) (by decide +kernel) rfl rfl rfl (by decide +kernel)
set_option maxRecDepth 65536 in
theorem w_c34 : (Jvm.Cond.code ({ cls := "java/lang/AbstractStringBuilder", name := "append", desc := "(C)Ljava/lang/AbstractStringBuilder;" } : Jvm.MethodName) jdk_68_method_31_code (2 : Nat) (Option.some (Jvm.ClassFile.FieldType.object "java/lang/AbstractStringBuilder"))).before args0 about1 = true := code_word (m := ⟨10, 6⟩) (meth := k10m6) (c := k10c6) (by decide +kernel) rfl rfl rfl (by decide +kernel)
set_option maxRecDepth 65536 in
theorem w_c35 : (Jvm.Cond.code ({ cls := "java/lang/AbstractStringBuilder", name := "ensureCapacityInternal", desc := "(I)V" } : Jvm.MethodName) jdk_68_method_9_code (3 : Nat) (Option.none : Option Jvm.ClassFile.FieldType)).before args0 about1 = true := code_word (m := ⟨10, 3⟩) (meth := k10m3) (c := k10c3) (by decide +kernel) rfl rfl rfl (by decide +kernel)
set_option maxRecDepth 65536 in
theorem w_c36 : (Jvm.Cond.code ({ cls := "java/lang/StringLatin1", name := "canEncode", desc := "(C)Z" } : Jvm.MethodName) jdk_43_method_3_code (1 : Nat) (Option.some Jvm.ClassFile.FieldType.boolean)).before args0 about1 = true := code_word (m := ⟨15, 2⟩) (meth := k15m2) (c := k15c2) (by decide +kernel) rfl rfl rfl (by decide +kernel)
set_option maxRecDepth 65536 in
theorem w_c37 : (Jvm.Cond.code ({ cls := "com/example/oxpecker/oxpecker/MessageTemplateLiteralPinLaw", name := "w", desc := "(C)I" } : Jvm.MethodName) method_4_code (1 : Nat) (Option.some Jvm.ClassFile.FieldType.int)).before args0 about1 = true := code_word (m := ⟨1, 3⟩) (meth := k1m3) (c := k1c3) (by decide +kernel) rfl rfl rfl (by decide +kernel)
set_option maxRecDepth 65536 in
theorem w_c38 : (Jvm.Cond.code ({ cls := "com/example/oxpecker/oxpecker/MessageTemplateLiteralPinLaw", name := "special", desc := "(C)Z" } : Jvm.MethodName) method_3_code (1 : Nat) (Option.some Jvm.ClassFile.FieldType.boolean)).before args0 about1 = true := code_word (m := ⟨1, 2⟩) (meth := k1m2) (c := k1c2) (by decide +kernel) rfl rfl rfl (by decide +kernel)
set_option maxRecDepth 65536 in
theorem w_c39 : (Jvm.Cond.code ({ cls := "com/example/oxpecker/oxpecker/MessageTemplateLiteralPinLaw", name := "at", desc := "(Ljava/lang/String;IC)Z" } : Jvm.MethodName) method_5_code (3 : Nat) (Option.some Jvm.ClassFile.FieldType.boolean)).before args0 about1 = true := code_word (m := ⟨1, 4⟩) (meth := k1m4) (c := k1c4) (by decide +kernel) rfl rfl rfl (by decide +kernel)
set_option maxRecDepth 65536 in
theorem w_c40 : (Jvm.Cond.code ({ cls := "java/lang/AbstractStringBuilder", name := "newCapacity", desc := "(I)I" } : Jvm.MethodName) jdk_68_method_10_code (6 : Nat) (Option.some Jvm.ClassFile.FieldType.int)).before args0 about1 = true := code_word (m := ⟨10, 4⟩) (meth := k10m4) (c := k10c4) (by decide +kernel) rfl rfl rfl (by decide +kernel)
set_option maxRecDepth 65536 in
theorem w_c41 : (Jvm.Cond.code ({ cls := "jdk/internal/util/ArraysSupport", name := "newLength", desc := "(III)I" } : Jvm.MethodName) jdk_48_method_27_code (4 : Nat) (Option.some Jvm.ClassFile.FieldType.int)).before args0 about1 = true := code_word (m := ⟨18, 1⟩) (meth := k18m1) (c := k18c1) (by decide +kernel) rfl rfl rfl (by decide +kernel)
set_option maxRecDepth 65536 in
theorem w_c42 : (Jvm.Cond.code ({ cls := "java/util/Arrays", name := "copyOf", desc := "([BI)[B" } : Jvm.MethodName) jdk_65_method_121_code (3 : Nat) (Option.some (Jvm.ClassFile.FieldType.array Jvm.ClassFile.FieldType.byte))).before args0 about1 = true := code_word (m := ⟨12, 1⟩) (meth := k12m1) (c := k12c1) (by decide +kernel) rfl rfl rfl (by decide +kernel)
set_option maxRecDepth 65536 in
theorem w_c43 : (Jvm.Cond.code ({ cls := "java/util/Arrays", name := "copyOfRangeByte", desc := "([BII)[B" } : Jvm.MethodName) jdk_65_method_133_code (5 : Nat) (Option.some (Jvm.ClassFile.FieldType.array Jvm.ClassFile.FieldType.byte))).before args0 about1 = true := code_word (m := ⟨12, 4⟩) (meth := k12m4) (c := k12c4) (by decide +kernel) rfl rfl rfl (by decide +kernel)
set_option maxRecDepth 65536 in
theorem w_c44 : (Jvm.Cond.code ({ cls := "java/util/Arrays", name := "checkLength", desc := "(II)V" } : Jvm.MethodName) jdk_65_method_131_code (2 : Nat) (Option.none : Option Jvm.ClassFile.FieldType)).before args0 about1 = true := code_word (m := ⟨12, 2⟩) (meth := k12m2) (c := k12c2) (by decide +kernel) rfl rfl rfl (by decide +kernel)
set_option maxRecDepth 65536 in
theorem w_c45 : (Jvm.Cond.code ({ cls := "java/lang/StringUTF16", name := "toBytes", desc := "([CII)[B" } : Jvm.MethodName) jdk_52_method_14_code (5 : Nat) (Option.some (Jvm.ClassFile.FieldType.array Jvm.ClassFile.FieldType.byte))).before args0 about1 = true := code_word (m := ⟨14, 6⟩) (meth := k14m6) (c := k14c6) (by decide +kernel) rfl rfl rfl (by decide +kernel)
set_option maxRecDepth 65536 in
theorem w_c46 : (Jvm.Cond.code ({ cls := "java/lang/StringUTF16", name := "newBytesFor", desc := "(I)[B" } : Jvm.MethodName) jdk_52_method_2_code (1 : Nat) (Option.some (Jvm.ClassFile.FieldType.array Jvm.ClassFile.FieldType.byte))).before args0 about1 = true := code_word (m := ⟨14, 1⟩) (meth := k14m1) (c := k14c1) (by decide +kernel) rfl rfl rfl (by decide +kernel)
set_option maxRecDepth 65536 in
theorem w_c47 : (Jvm.Cond.code ({ cls := "java/lang/StringUTF16", name := "newBytesLength", desc := "(I)I" } : Jvm.MethodName) jdk_52_method_3_code (1 : Nat) (Option.some Jvm.ClassFile.FieldType.int)).before args0 about1 = true := code_word (m := ⟨14, 2⟩) (meth := k14m2) (c := k14c2) (by decide +kernel) rfl rfl rfl (by decide +kernel)
set_option maxRecDepth 65536 in
theorem w_c48 : (Jvm.Cond.code ({ cls := "java/lang/StringUTF16", name := "putChar", desc := "([BII)V" } : Jvm.MethodName) jdk_52_method_4_code (3 : Nat) (Option.none : Option Jvm.ClassFile.FieldType)).before args0 about1 = true := code_word (m := ⟨14, 3⟩) (meth := k14m3) (c := k14c3) (by decide +kernel) rfl rfl rfl (by decide +kernel)
set_option maxRecDepth 65536 in
theorem w_c49 : (Jvm.Cond.code ({ cls := "java/lang/StringUTF16", name := "getChar", desc := "([BI)C" } : Jvm.MethodName) jdk_52_method_5_code (2 : Nat) (Option.some Jvm.ClassFile.FieldType.char)).before args0 about1 = true := code_word (m := ⟨14, 4⟩) (meth := k14m4) (c := k14c4) (by decide +kernel) rfl rfl rfl (by decide +kernel)
set_option maxRecDepth 65536 in
theorem w_c50 : (Jvm.Cond.code ({ cls := "java/lang/StringUTF16", name := "charAt", desc := "([BI)C" } : Jvm.MethodName) jdk_52_method_83_code (2 : Nat) (Option.some Jvm.ClassFile.FieldType.char)).before args0 about1 = true := code_word (m := ⟨14, 11⟩) (meth := k14m11) (c := k14c11) (by decide +kernel) rfl rfl rfl (by decide +kernel)
set_option maxRecDepth 65536 in
theorem w_c51 : (Jvm.Cond.code ({ cls := "java/lang/StringUTF16", name := "checkIndex", desc := "(I[B)V" } : Jvm.MethodName) jdk_52_method_91_code (2 : Nat) (Option.none : Option Jvm.ClassFile.FieldType)).before args0 about1 = true := code_word (m := ⟨14, 13⟩) (meth := k14m13) (c := k14c13) (by decide +kernel) rfl rfl rfl (by decide +kernel)
set_option maxRecDepth 65536 in
theorem w_c52 : (Jvm.Cond.code ({ cls := "java/lang/StringUTF16", name := "length", desc := "([B)I" } : Jvm.MethodName) jdk_52_method_6_code (1 : Nat) (Option.some Jvm.ClassFile.FieldType.int)).before args0 about1 = true := code_word (m := ⟨14, 5⟩) (meth := k14m5) (c := k14c5) (by decide +kernel) rfl rfl rfl (by decide +kernel)
set_option maxRecDepth 65536 in
theorem w_c53 : (Jvm.Cond.code ({ cls := "java/lang/AbstractStringBuilder", name := "inflate", desc := "()V" } : Jvm.MethodName) jdk_68_method_11_code (2 : Nat) (Option.none : Option Jvm.ClassFile.FieldType)).before args0 about1 = true := code_word (m := ⟨10, 5⟩) (meth := k10m5) (c := k10c5) (by decide +kernel) rfl rfl rfl (by decide +kernel)
set_option maxRecDepth 65536 in
theorem w_c54 : (Jvm.Cond.code ({ cls := "java/lang/StringLatin1", name := "inflate", desc := "([BI[BII)V" } : Jvm.MethodName) jdk_43_method_50_code (5 : Nat) (Option.none : Option Jvm.ClassFile.FieldType)).before args0 about1 = true := code_word (m := ⟨15, 6⟩) (meth := k15m6) (c := k15c6) (by decide +kernel) rfl rfl rfl (by decide +kernel)
set_option maxRecDepth 65536 in
theorem w_c55 : (Jvm.Cond.code ({ cls := "java/lang/StringUTF16", name := "inflate", desc := "([BI[BII)V" } : Jvm.MethodName) jdk_52_method_86_code (6 : Nat) (Option.none : Option Jvm.ClassFile.FieldType)).before args0 about1 = true := code_word (m := ⟨14, 12⟩) (meth := k14m12) (c := k14c12) (by decide +kernel) rfl rfl rfl (by decide +kernel)
set_option maxRecDepth 65536 in
theorem w_c56 : (Jvm.Cond.code ({ cls := "java/lang/StringUTF16", name := "checkBoundsOffCount", desc := "(II[B)V" } : Jvm.MethodName) jdk_52_method_94_code (3 : Nat) (Option.none : Option Jvm.ClassFile.FieldType)).before args0 about1 = true := code_word (m := ⟨14, 14⟩) (meth := k14m14) (c := k14c14) (by decide +kernel) rfl rfl rfl (by decide +kernel)
set_option maxRecDepth 65536 in
theorem w_c57 : (Jvm.Cond.code ({ cls := "java/lang/String", name := "checkBoundsOffCount", desc := "(III)I" } : Jvm.MethodName) jdk_42_method_157_code (3 : Nat) (Option.some Jvm.ClassFile.FieldType.int)).before args0 about1 = true := code_word (m := ⟨7, 12⟩) (meth := k7m12) (c := k7c12) (by decide +kernel) rfl rfl rfl (by decide +kernel)
set_option maxRecDepth 65536 in
theorem w_c58 : (Jvm.Cond.code ({ cls := "jdk/internal/util/Preconditions", name := "checkFromIndexSize", desc := "(IIILjava/util/function/BiFunction;)I" } : Jvm.MethodName) jdk_41_method_13_code (4 : Nat) (Option.some Jvm.ClassFile.FieldType.int)).before args0 about1 = true := code_word (m := ⟨16, 2⟩) (meth := k16m2) (c := k16c2) (by decide +kernel) rfl rfl rfl (by decide +kernel)
set_option maxRecDepth 65536 in
theorem w_c59 : (Jvm.Cond.code ({ cls := "java/lang/StringUTF16", name := "putCharSB", desc := "([BII)V" } : Jvm.MethodName) jdk_52_method_71_code (3 : Nat) (Option.none : Option Jvm.ClassFile.FieldType)).before args0 about1 = true := code_word (m := ⟨14, 10⟩) (meth := k14m10) (c := k14c10) (by decide +kernel) rfl rfl rfl (by decide +kernel)
def codes1 : List Jvm.Cond := [Jvm.Cond.code x code maxLocals ret, Jvm.Cond.code ({ cls := "com/example/oxpecker/oxpecker/MessageTemplateLiteralPinLaw", name := "pick", desc := "(I)C" } : Jvm.MethodName) method_2_code (2 : Nat) (Option.some Jvm.ClassFile.FieldType.char), Jvm.Cond.code ({ cls := "java/lang/String", name := "<init>", desc := "([C)V" } : Jvm.MethodName) jdk_42_method_3_code (2 : Nat) (Option.none : Option Jvm.ClassFile.FieldType), Jvm.Cond.code ({ cls := "java/lang/String", name := "<init>", desc := "([CIILjava/lang/Void;)V" } : Jvm.MethodName) jdk_42_method_149_code (6 : Nat) (Option.none : Option Jvm.ClassFile.FieldType), Jvm.Cond.code ({ cls := "java/lang/Object", name := "<init>", desc := "()V" } : Jvm.MethodName) object_method_1_code (1 : Nat) (Option.none : Option Jvm.ClassFile.FieldType), Jvm.Cond.code ({ cls := "com/example/oxpecker/oxpecker/MessageTemplate", name := "literal", desc := "(Ljava/lang/String;)Ljava/lang/String;" } : Jvm.MethodName) prog_5_method_5_code (4 : Nat) (Option.some (Jvm.ClassFile.FieldType.object "java/lang/String")), Jvm.Cond.code ({ cls := "java/lang/String", name := "length", desc := "()I" } : Jvm.MethodName) jdk_42_method_54_code (1 : Nat) (Option.some Jvm.ClassFile.FieldType.int), Jvm.Cond.code ({ cls := "java/lang/String", name := "coder", desc := "()B" } : Jvm.MethodName) jdk_42_method_152_code (1 : Nat) (Option.some Jvm.ClassFile.FieldType.byte), Jvm.Cond.code ({ cls := "java/lang/StringBuilder", name := "<init>", desc := "(I)V" } : Jvm.MethodName) jdk_67_method_2_code (2 : Nat) (Option.none : Option Jvm.ClassFile.FieldType), Jvm.Cond.code ({ cls := "java/lang/AbstractStringBuilder", name := "<init>", desc := "(I)V" } : Jvm.MethodName) jdk_68_method_2_code (2 : Nat) (Option.none : Option Jvm.ClassFile.FieldType), Jvm.Cond.code ({ cls := "java/lang/StringBuilder", name := "toString", desc := "()Ljava/lang/String;" } : Jvm.MethodName) jdk_67_method_42_code (1 : Nat) (Option.some (Jvm.ClassFile.FieldType.object "java/lang/String")), Jvm.Cond.code ({ cls := "java/lang/String", name := "<init>", desc := "(Ljava/lang/StringBuilder;)V" } : Jvm.MethodName) jdk_42_method_53_code (2 : Nat) (Option.none : Option Jvm.ClassFile.FieldType), Jvm.Cond.code ({ cls := "java/lang/String", name := "<init>", desc := "(Ljava/lang/AbstractStringBuilder;Ljava/lang/Void;)V" } : Jvm.MethodName) jdk_42_method_150_code (5 : Nat) (Option.none : Option Jvm.ClassFile.FieldType), Jvm.Cond.code ({ cls := "java/lang/AbstractStringBuilder", name := "getValue", desc := "()[B" } : Jvm.MethodName) jdk_68_method_64_code (1 : Nat) (Option.some (Jvm.ClassFile.FieldType.array Jvm.ClassFile.FieldType.byte)), Jvm.Cond.code ({ cls := "java/lang/StringBuilder", name := "length", desc := "()I" } : Jvm.MethodName) jdk_67_method_93_code (1 : Nat) (Option.some Jvm.ClassFile.FieldType.int), Jvm.Cond.code ({ cls := "java/lang/AbstractStringBuilder", name := "length", desc := "()I" } : Jvm.MethodName) jdk_68_method_6_code (1 : Nat) (Option.some Jvm.ClassFile.FieldType.int), Jvm.Cond.code ({ cls := "java/lang/AbstractStringBuilder", name := "isLatin1", desc := "()Z" } : Jvm.MethodName) jdk_68_method_68_code (1 : Nat) (Option.some Jvm.ClassFile.FieldType.boolean), Jvm.Cond.code ({ cls := "java/util/Arrays", name := "copyOfRange", desc := "([BII)[B" } : Jvm.MethodName) jdk_65_method_132_code (3 : Nat) (Option.some (Jvm.ClassFile.FieldType.array Jvm.ClassFile.FieldType.byte)), Jvm.Cond.code ({ cls := "java/lang/StringUTF16", name := "compress", desc := "([CII)[B" } : Jvm.MethodName) jdk_52_method_16_code (6 : Nat) (Option.some (Jvm.ClassFile.FieldType.array Jvm.ClassFile.FieldType.byte)), Jvm.Cond.code ({ cls := "java/lang/StringUTF16", name := "compress", desc := "([CI[BII)I" } : Jvm.MethodName) jdk_52_method_21_code (7 : Nat) (Option.some Jvm.ClassFile.FieldType.int), Jvm.Cond.code ({ cls := "java/lang/StringUTF16", name := "coderFromArrayLen", desc := "([BI)B" } : Jvm.MethodName) jdk_52_method_15_code (2 : Nat) (Option.some Jvm.ClassFile.FieldType.byte), Jvm.Cond.code ({ cls := "java/lang/String", name := "charAt", desc := "(I)C" } : Jvm.MethodName) jdk_42_method_56_code (2 : Nat) (Option.some Jvm.ClassFile.FieldType.char), Jvm.Cond.code ({ cls := "java/lang/String", name := "isLatin1", desc := "()Z" } : Jvm.MethodName) jdk_42_method_154_code (1 : Nat) (Option.some Jvm.ClassFile.FieldType.boolean), Jvm.Cond.code ({ cls := "java/lang/StringLatin1", name := "charAt", desc := "([BI)C" } : Jvm.MethodName) jdk_43_method_2_code (2 : Nat) (Option.some Jvm.ClassFile.FieldType.char), Jvm.Cond.code ({ cls := "java/lang/String", name := "checkIndex", desc := "(II)V" } : Jvm.MethodName) jdk_42_method_155_code (2 : Nat) (Option.none : Option Jvm.ClassFile.FieldType), Jvm.Cond.code ({ cls := "jdk/internal/util/Preconditions", name := "checkIndex", desc := "(IILjava/util/function/BiFunction;)I" } : Jvm.MethodName) jdk_41_method_11_code (3 : Nat) (Option.some Jvm.ClassFile.FieldType.int), Jvm.Cond.code ({ cls := "java/lang/String", name := "indexOf", desc := "(I)I" } : Jvm.MethodName) jdk_42_method_79_code (2 : Nat) (Option.some Jvm.ClassFile.FieldType.int), Jvm.Cond.code ({ cls := "java/lang/String", name := "indexOf", desc := "(II)I" } : Jvm.MethodName) jdk_42_method_80_code (3 : Nat) (Option.some Jvm.ClassFile.FieldType.int), Jvm.Cond.code ({ cls := "java/lang/StringLatin1", name := "indexOf", desc := "([BIII)I" } : Jvm.MethodName) jdk_43_method_22_code (4 : Nat) (Option.some Jvm.ClassFile.FieldType.int), Jvm.Cond.code ({ cls := "java/lang/StringLatin1", name := "canEncode", desc := "(I)Z" } : Jvm.MethodName) jdk_43_method_4_code (1 : Nat) (Option.some Jvm.ClassFile.FieldType.boolean), Jvm.Cond.code ({ cls := "java/lang/Math", name := "max", desc := "(II)I" } : Jvm.MethodName) jdk_29_method_65_code (2 : Nat) (Option.some Jvm.ClassFile.FieldType.int), Jvm.Cond.code ({ cls := "java/lang/Math", name := "min", desc := "(II)I" } : Jvm.MethodName) jdk_29_method_69_code (2 : Nat) (Option.some Jvm.ClassFile.FieldType.int), Jvm.Cond.code ({ cls := "java/lang/StringLatin1", name := "indexOfChar", desc := "([BIII)I" } : Jvm.MethodName) jdk_43_method_23_code (6 : Nat) (Option.some Jvm.ClassFile.FieldType.int), Jvm.Cond.code ({ cls := "java/lang/StringBuilder", name := "append", desc := "(C)Ljava/lang/StringBuilder;" } : Jvm.MethodName) jdk_67_method_14_code (2 : Nat) (Option.some (Jvm.ClassFile.FieldType.object "java/lang/StringBuilder")), Jvm.Cond.code ({ cls := "java/lang/AbstractStringBuilder", name := "append", desc := "(C)Ljava/lang/AbstractStringBuilder;" } : Jvm.MethodName) jdk_68_method_31_code (2 : Nat) (Option.some (Jvm.ClassFile.FieldType.object "java/lang/AbstractStringBuilder")), Jvm.Cond.code ({ cls := "java/lang/AbstractStringBuilder", name := "ensureCapacityInternal", desc := "(I)V" } : Jvm.MethodName) jdk_68_method_9_code (3 : Nat) (Option.none : Option Jvm.ClassFile.FieldType), Jvm.Cond.code ({ cls := "java/lang/StringLatin1", name := "canEncode", desc := "(C)Z" } : Jvm.MethodName) jdk_43_method_3_code (1 : Nat) (Option.some Jvm.ClassFile.FieldType.boolean), Jvm.Cond.code ({ cls := "com/example/oxpecker/oxpecker/MessageTemplateLiteralPinLaw", name := "w", desc := "(C)I" } : Jvm.MethodName) method_4_code (1 : Nat) (Option.some Jvm.ClassFile.FieldType.int), Jvm.Cond.code ({ cls := "com/example/oxpecker/oxpecker/MessageTemplateLiteralPinLaw", name := "special", desc := "(C)Z" } : Jvm.MethodName) method_3_code (1 : Nat) (Option.some Jvm.ClassFile.FieldType.boolean), Jvm.Cond.code ({ cls := "com/example/oxpecker/oxpecker/MessageTemplateLiteralPinLaw", name := "at", desc := "(Ljava/lang/String;IC)Z" } : Jvm.MethodName) method_5_code (3 : Nat) (Option.some Jvm.ClassFile.FieldType.boolean), Jvm.Cond.code ({ cls := "java/lang/AbstractStringBuilder", name := "newCapacity", desc := "(I)I" } : Jvm.MethodName) jdk_68_method_10_code (6 : Nat) (Option.some Jvm.ClassFile.FieldType.int), Jvm.Cond.code ({ cls := "jdk/internal/util/ArraysSupport", name := "newLength", desc := "(III)I" } : Jvm.MethodName) jdk_48_method_27_code (4 : Nat) (Option.some Jvm.ClassFile.FieldType.int), Jvm.Cond.code ({ cls := "java/util/Arrays", name := "copyOf", desc := "([BI)[B" } : Jvm.MethodName) jdk_65_method_121_code (3 : Nat) (Option.some (Jvm.ClassFile.FieldType.array Jvm.ClassFile.FieldType.byte)), Jvm.Cond.code ({ cls := "java/util/Arrays", name := "copyOfRangeByte", desc := "([BII)[B" } : Jvm.MethodName) jdk_65_method_133_code (5 : Nat) (Option.some (Jvm.ClassFile.FieldType.array Jvm.ClassFile.FieldType.byte)), Jvm.Cond.code ({ cls := "java/util/Arrays", name := "checkLength", desc := "(II)V" } : Jvm.MethodName) jdk_65_method_131_code (2 : Nat) (Option.none : Option Jvm.ClassFile.FieldType), Jvm.Cond.code ({ cls := "java/lang/StringUTF16", name := "toBytes", desc := "([CII)[B" } : Jvm.MethodName) jdk_52_method_14_code (5 : Nat) (Option.some (Jvm.ClassFile.FieldType.array Jvm.ClassFile.FieldType.byte)), Jvm.Cond.code ({ cls := "java/lang/StringUTF16", name := "newBytesFor", desc := "(I)[B" } : Jvm.MethodName) jdk_52_method_2_code (1 : Nat) (Option.some (Jvm.ClassFile.FieldType.array Jvm.ClassFile.FieldType.byte)), Jvm.Cond.code ({ cls := "java/lang/StringUTF16", name := "newBytesLength", desc := "(I)I" } : Jvm.MethodName) jdk_52_method_3_code (1 : Nat) (Option.some Jvm.ClassFile.FieldType.int), Jvm.Cond.code ({ cls := "java/lang/StringUTF16", name := "putChar", desc := "([BII)V" } : Jvm.MethodName) jdk_52_method_4_code (3 : Nat) (Option.none : Option Jvm.ClassFile.FieldType), Jvm.Cond.code ({ cls := "java/lang/StringUTF16", name := "getChar", desc := "([BI)C" } : Jvm.MethodName) jdk_52_method_5_code (2 : Nat) (Option.some Jvm.ClassFile.FieldType.char), Jvm.Cond.code ({ cls := "java/lang/StringUTF16", name := "charAt", desc := "([BI)C" } : Jvm.MethodName) jdk_52_method_83_code (2 : Nat) (Option.some Jvm.ClassFile.FieldType.char), Jvm.Cond.code ({ cls := "java/lang/StringUTF16", name := "checkIndex", desc := "(I[B)V" } : Jvm.MethodName) jdk_52_method_91_code (2 : Nat) (Option.none : Option Jvm.ClassFile.FieldType), Jvm.Cond.code ({ cls := "java/lang/StringUTF16", name := "length", desc := "([B)I" } : Jvm.MethodName) jdk_52_method_6_code (1 : Nat) (Option.some Jvm.ClassFile.FieldType.int), Jvm.Cond.code ({ cls := "java/lang/AbstractStringBuilder", name := "inflate", desc := "()V" } : Jvm.MethodName) jdk_68_method_11_code (2 : Nat) (Option.none : Option Jvm.ClassFile.FieldType), Jvm.Cond.code ({ cls := "java/lang/StringLatin1", name := "inflate", desc := "([BI[BII)V" } : Jvm.MethodName) jdk_43_method_50_code (5 : Nat) (Option.none : Option Jvm.ClassFile.FieldType), Jvm.Cond.code ({ cls := "java/lang/StringUTF16", name := "inflate", desc := "([BI[BII)V" } : Jvm.MethodName) jdk_52_method_86_code (6 : Nat) (Option.none : Option Jvm.ClassFile.FieldType), Jvm.Cond.code ({ cls := "java/lang/StringUTF16", name := "checkBoundsOffCount", desc := "(II[B)V" } : Jvm.MethodName) jdk_52_method_94_code (3 : Nat) (Option.none : Option Jvm.ClassFile.FieldType), Jvm.Cond.code ({ cls := "java/lang/String", name := "checkBoundsOffCount", desc := "(III)I" } : Jvm.MethodName) jdk_42_method_157_code (3 : Nat) (Option.some Jvm.ClassFile.FieldType.int), Jvm.Cond.code ({ cls := "jdk/internal/util/Preconditions", name := "checkFromIndexSize", desc := "(IIILjava/util/function/BiFunction;)I" } : Jvm.MethodName) jdk_41_method_13_code (4 : Nat) (Option.some Jvm.ClassFile.FieldType.int), Jvm.Cond.code ({ cls := "java/lang/StringUTF16", name := "putCharSB", desc := "([BII)V" } : Jvm.MethodName) jdk_52_method_71_code (3 : Nat) (Option.none : Option Jvm.ClassFile.FieldType)]
set_option maxRecDepth 65536 in
theorem codes_eq : words1.filter isCode = codes1 := rfl
theorem w_codes : ∀ c ∈ words1.filter isCode, c.before args0 about1 = true := by
  rw [codes_eq]
  intro c hc
  simp only [codes1, List.mem_cons, List.not_mem_nil, or_false] at hc
  rcases hc with rfl | rfl | rfl | rfl | rfl | rfl | rfl | rfl | rfl | rfl | rfl | rfl | rfl | rfl | rfl | rfl | rfl | rfl | rfl | rfl | rfl | rfl | rfl | rfl | rfl | rfl | rfl | rfl | rfl | rfl | rfl | rfl | rfl | rfl | rfl | rfl | rfl | rfl | rfl | rfl | rfl | rfl | rfl | rfl | rfl | rfl | rfl | rfl | rfl | rfl | rfl | rfl | rfl | rfl | rfl | rfl | rfl | rfl | rfl | rfl
  · exact w_c0
  · exact w_c1
  · exact w_c2
  · exact w_c3
  · exact w_c4
  · exact w_c5
  · exact w_c6
  · exact w_c7
  · exact w_c8
  · exact w_c9
  · exact w_c10
  · exact w_c11
  · exact w_c12
  · exact w_c13
  · exact w_c14
  · exact w_c15
  · exact w_c16
  · exact w_c17
  · exact w_c18
  · exact w_c19
  · exact w_c20
  · exact w_c21
  · exact w_c22
  · exact w_c23
  · exact w_c24
  · exact w_c25
  · exact w_c26
  · exact w_c27
  · exact w_c28
  · exact w_c29
  · exact w_c30
  · exact w_c31
  · exact w_c32
  · exact w_c33
  · exact w_c34
  · exact w_c35
  · exact w_c36
  · exact w_c37
  · exact w_c38
  · exact w_c39
  · exact w_c40
  · exact w_c41
  · exact w_c42
  · exact w_c43
  · exact w_c44
  · exact w_c45
  · exact w_c46
  · exact w_c47
  · exact w_c48
  · exact w_c49
  · exact w_c50
  · exact w_c51
  · exact w_c52
  · exact w_c53
  · exact w_c54
  · exact w_c55
  · exact w_c56
  · exact w_c57
  · exact w_c58
  · exact w_c59
set_option maxRecDepth 65536 in
theorem w_t1 : (words1.take 24).all (fun c => isCode c || c.before args0 about1) = true := by decide +kernel
set_option maxRecDepth 65536 in
theorem w_t2 : ((words1.drop 24).take 24).all (fun c => isCode c || c.before args0 about1) = true := by decide +kernel
set_option maxRecDepth 65536 in
theorem w_t3 : (((words1.drop 24).drop 24).take 24).all (fun c => isCode c || c.before args0 about1) = true := by decide +kernel
set_option maxRecDepth 65536 in
theorem w_t4 : ((((words1.drop 24).drop 24).drop 24).take 24).all (fun c => isCode c || c.before args0 about1) = true := by decide +kernel
set_option maxRecDepth 65536 in
theorem w_t5 : (((((words1.drop 24).drop 24).drop 24).drop 24).take 24).all (fun c => isCode c || c.before args0 about1) = true := by decide +kernel
set_option maxRecDepth 65536 in
theorem w_t6 : ((((((words1.drop 24).drop 24).drop 24).drop 24).drop 24).take 24).all (fun c => isCode c || c.before args0 about1) = true := by decide +kernel
set_option maxRecDepth 65536 in
theorem w_t7 : (((((((words1.drop 24).drop 24).drop 24).drop 24).drop 24).drop 24).take 24).all (fun c => isCode c || c.before args0 about1) = true := by decide +kernel
set_option maxRecDepth 65536 in
theorem w_t8 : ((((((((words1.drop 24).drop 24).drop 24).drop 24).drop 24).drop 24).drop 24).take 24).all (fun c => isCode c || c.before args0 about1) = true := by decide +kernel
set_option maxRecDepth 65536 in
theorem w_t9 : (((((((((words1.drop 24).drop 24).drop 24).drop 24).drop 24).drop 24).drop 24).drop 24).take 24).all (fun c => isCode c || c.before args0 about1) = true := by decide +kernel
set_option maxRecDepth 65536 in
theorem w_t10 : ((((((((((words1.drop 24).drop 24).drop 24).drop 24).drop 24).drop 24).drop 24).drop 24).drop 24).take 24).all (fun c => isCode c || c.before args0 about1) = true := by decide +kernel
set_option maxRecDepth 65536 in
theorem w_t11 : (((((((((((words1.drop 24).drop 24).drop 24).drop 24).drop 24).drop 24).drop 24).drop 24).drop 24).drop 24).take 24).all (fun c => isCode c || c.before args0 about1) = true := by decide +kernel
set_option maxRecDepth 65536 in
theorem w_t12 : (((((((((((words1.drop 24).drop 24).drop 24).drop 24).drop 24).drop 24).drop 24).drop 24).drop 24).drop 24).drop 24).all (fun c => isCode c || c.before args0 about1) = true := by decide +kernel
theorem w_tables : (allAtoms (Jvm.Cond.code x code maxLocals ret :: tables_1)).before args0 about1 = true := by
  rw [allAtoms_all]
  show words1.all (fun c => c.before args0 about1) = true
  refine all_split ?_ w_codes
  rw [← List.take_append_drop 24 words1, List.all_append, w_t1, ← List.take_append_drop 24 (words1.drop 24), List.all_append, w_t2, ← List.take_append_drop 24 ((words1.drop 24).drop 24), List.all_append, w_t3, ← List.take_append_drop 24 (((words1.drop 24).drop 24).drop 24), List.all_append, w_t4, ← List.take_append_drop 24 ((((words1.drop 24).drop 24).drop 24).drop 24), List.all_append, w_t5, ← List.take_append_drop 24 (((((words1.drop 24).drop 24).drop 24).drop 24).drop 24), List.all_append, w_t6, ← List.take_append_drop 24 ((((((words1.drop 24).drop 24).drop 24).drop 24).drop 24).drop 24), List.all_append, w_t7, ← List.take_append_drop 24 (((((((words1.drop 24).drop 24).drop 24).drop 24).drop 24).drop 24).drop 24), List.all_append, w_t8, ← List.take_append_drop 24 ((((((((words1.drop 24).drop 24).drop 24).drop 24).drop 24).drop 24).drop 24).drop 24), List.all_append, w_t9, ← List.take_append_drop 24 (((((((((words1.drop 24).drop 24).drop 24).drop 24).drop 24).drop 24).drop 24).drop 24).drop 24), List.all_append, w_t10, ← List.take_append_drop 24 ((((((((((words1.drop 24).drop 24).drop 24).drop 24).drop 24).drop 24).drop 24).drop 24).drop 24).drop 24), List.all_append, w_t11, w_t12]
  rfl
set_option maxRecDepth 65536 in
theorem w_rest : rest_1_c.before args0 about1 = true := by decide +kernel
set_option maxRecDepth 65536 in
theorem w_case : (Jvm.Cond.and given_1 narrow_1).before args0 about1 = true := by decide +kernel
set_option maxRecDepth 65536 in
theorem w_consts : constsHeld consts_1 about1 := Jvm.Lit.constsHeldB_iff.mp (by decide +kernel)
theorem w_applies : (headSpec (Jvm.Cond.code x code maxLocals ret :: tables_1) room_1).applies x e0.platform about1 = true :=
  (Spec.applies_iff w_frames).mpr ⟨w_running, w_runnable, w_alone, w_named, w_hears, w_ripe, w_room, w_tables⟩
theorem atStart : AtStart classFile x code maxLocals ret World_1 tables_1 room_1 Calls_1 rest_1 Pre_1 launch0 p0 e0 about1 theMethod args0 below0 :=
  ⟨lists_1, trivial, launch0.admits_env _ _ _, launch0.least_env, fairChoices_fair.cas, fairChoices_fair.clock, w_frames, w_args, w_heap, w_applies, ⟨w_consts, trivial⟩, w_rest, w_case⟩
end start1
theorem witness_1 : WitnessClaimed_1 := ⟨start1.p0, start1.e0, start1.about1, start1.theMethod, start1.args0, start1.below0, start1.atStart⟩
end Jvm.Pilot.@@N@@
